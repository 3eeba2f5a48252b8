import JvmDerived
import JvmDerived.Pilot.@@N@@Statement
import JvmDerived.Pilot.@@N@@Code
set_option linter.unusedVariables false
set_option linter.unusedSimpArgs false
namespace Jvm.RoadKit
open Sem ClassFile Op Lib Jvm.Stand Jvm.Free Jvm.LawKit
section Own
variable {p : Program} {l : Launch} {e : Env} {R : Room} {s : State} {m : MethodId} {args : Array Value} {below : List Frame} {meth : Method} {c : Code} {T : State} {locs : List Loc} {cells slots : Nat} {Q : Option Value → Heap → List Loc → Prop} {k n : Nat} {A B : State} {h : Heap}
/-- from the state A the run comes to its end, with what Q says -/
def Goes (p : Program) (e : Env) (below : List Frame) (s : State) (Q : Option Value → Heap → List Loc → Prop) (k n : Nat) (A : State) : Prop :=
  ∃ s₂ o, Steps p.tables e below A s₂ ∧ s₂.status = .running ∧ Ended s₂ below o ∧ ∃ v L, o = .returned v ∧ Q v s₂.heap L ∧ FrameEnd s o s₂ L k n
theorem Goes.step (q : ∀ t, Steps p.tables e below B t → Steps p.tables e below A t) (g : Goes p e below s Q k n B) : Goes p e below s Q k n A := by
  obtain ⟨s₂, o, h1, h2⟩ := g
  exact ⟨s₂, o, q _ h1, h2⟩
theorem Goes.via (q : Steps p.tables e below A B) (g : Goes p e below s Q k n B) : Goes p e below s Q k n A := by
  obtain ⟨s₂, o, h1, h2⟩ := g
  exact ⟨s₂, o, q.trans h1, h2⟩
theorem Goes.enter {g g' : JFrame} (q : g = g') (h : Goes p e below s Q k n (T.setTop g')) : Goes p e below s Q k n (T.setTop g) := q ▸ h
theorem Goes.out (X : Stand p l e R s m args below meth c T locs cells slots) (eT : T.heap = h) {v : Option Value} (hv : meth.sig.returnType = none → v = none) (hlk : meth.locks = false)
    (hs : ∀ fs, (∀ (f : JFrame) (acts : List Action), f.method = m → f.locked = none → f.entered = [] → (doReturn e (T.setTop f) acts v).1 = T.setFrames fs) → Steps p.tables e below A (T.setFrames fs)) (hk : cells ≤ k) (hn : slots ≤ n) (hQ : Q v h locs) : Goes p e below s Q k n A := by
  obtain ⟨fs, hr, hrun, hended, hW, hsame⟩ := X.leave (v := v) hv hlk
  exact ⟨_, _, hs fs hr, hrun, hended, _, _, rfl, (by show Q v T.heap locs; rw [eT]; exact hQ), ⟨_, rfl⟩, hW, hsame.mono hk hn⟩
theorem own_some {t : FieldType} {v : Option Value} (h : meth.sig.returnType = some t) : meth.sig.returnType = none → v = none := fun q => by rw [h] at q; cases q
theorem Goes.retI (X : Stand p l e R s m args below meth c T locs cells slots) (hx : p.tables.exec = Jvm.exec) (eT : T.heap = h) {pc : Nat} {Ls : Array Slot} {z : Int32} {rest : List Value} (hret : meth.sig.returnType = some .int) (hlk : meth.locks = false) (hd : decode c.code pc = .ok (.ireturn, 1)) (hk : cells ≤ k) (hn : slots ≤ n) (hQ : Q (some (.int z)) h locs) :
    Goes p e below s Q k n (T.setTop (mkF m pc Ls (.int z :: rest))) :=
  Goes.out X eT (own_some hret) hlk (fun fs hr => retOut X hx hret rfl (Or.inl ⟨rfl, Or.inl rfl, z, rfl⟩) hd hr) hk hn hQ
theorem Goes.retN (X : Stand p l e R s m args below meth c T locs cells slots) (hx : p.tables.exec = Jvm.exec) (eT : T.heap = h) {pc : Nat} {Ls : Array Slot} {z : Int32} {t : FieldType} {rest : List Value} (hret : meth.sig.returnType = some t) (ht : t = .boolean ∨ t = .byte ∨ t = .char ∨ t = .short) (hlk : meth.locks = false) (hd : decode c.code pc = .ok (.ireturn, 1)) (hk : cells ≤ k) (hn : slots ≤ n) (hQ : Q (some (.int (nar t z))) h locs) :
    Goes p e below s Q k n (T.setTop (mkF m pc Ls (.int z :: rest))) :=
  Goes.out X eT (own_some hret) hlk (fun fs hr => Jvm.RoadKit.retN X hx hret ht hd hr) hk hn hQ
theorem Goes.retV (X : Stand p l e R s m args below meth c T locs cells slots) (hx : p.tables.exec = Jvm.exec) (eT : T.heap = h) {pc : Nat} {Ls : Array Slot} (hret : meth.sig.returnType = none) (hlk : meth.locks = false) (hd : decode c.code pc = .ok (.return_, 1)) (hk : cells ≤ k) (hn : slots ≤ n) (hQ : Q none h locs) :
    Goes p e below s Q k n (T.setTop (mkF m pc Ls [])) :=
  Goes.out X eT (fun _ => rfl) hlk (fun fs hr => X.returnOut hx hret hd hr) hk hn hQ
theorem Goes.retJ (X : Stand p l e R s m args below meth c T locs cells slots) (hx : p.tables.exec = Jvm.exec) (eT : T.heap = h) {pc : Nat} {Ls : Array Slot} {z : Int64} {rest : List Value} (hret : meth.sig.returnType = some .long) (hlk : meth.locks = false) (hd : decode c.code pc = .ok (.lreturn, 1)) (hk : cells ≤ k) (hn : slots ≤ n) (hQ : Q (some (.long z)) h locs) :
    Goes p e below s Q k n (T.setTop (mkF m pc Ls (.long z :: rest))) :=
  Goes.out X eT (own_some hret) hlk (fun fs hr => retOut X hx hret rfl (Or.inr (Or.inl ⟨rfl, rfl, z, rfl⟩)) hd hr) hk hn hQ
theorem Goes.retD (X : Stand p l e R s m args below meth c T locs cells slots) (hx : p.tables.exec = Jvm.exec) (eT : T.heap = h) {pc : Nat} {Ls : Array Slot} {z : UInt64} {rest : List Value} (hret : meth.sig.returnType = some .double) (hlk : meth.locks = false) (hd : decode c.code pc = .ok (.dreturn, 1)) (hk : cells ≤ k) (hn : slots ≤ n) (hQ : Q (some (.double z)) h locs) :
    Goes p e below s Q k n (T.setTop (mkF m pc Ls (.double z :: rest))) :=
  Goes.out X eT (own_some hret) hlk (fun fs hr => retOut X hx hret rfl (Or.inr (Or.inr (Or.inl ⟨rfl, rfl, z, rfl⟩))) hd hr) hk hn hQ
theorem own_narR {t : FieldType} {w : Value} (h : t.isReference = true) : narrow t w = w := by cases t <;> first | rfl | (cases w <;> first | rfl | cases h)
theorem Goes.retA (X : Stand p l e R s m args below meth c T locs cells slots) (hx : p.tables.exec = Jvm.exec) (eT : T.heap = h) {pc : Nat} {Ls : Array Slot} {w : Value} {t : FieldType} {rest : List Value} (hret : meth.sig.returnType = some t) (ht : t.isReference = true) (hw : w.isRef = true) (hlk : meth.locks = false) (hd : decode c.code pc = .ok (.areturn, 1)) (hk : cells ≤ k) (hn : slots ≤ n) (hQ : Q (some w) h locs) :
    Goes p e below s Q k n (T.setTop (mkF m pc Ls (w :: rest))) :=
  Goes.out X eT (own_some hret) hlk (fun fs hr => retOut X hx hret (own_narR ht) (Or.inr (Or.inr (Or.inr (Or.inr ⟨rfl, ht, hw⟩)))) hd hr) hk hn hQ
theorem own_z {Z : State} {n0 : Nat} (O : Old Z n0 h) : n0 ≤ h.size := O.1 ▸ O.2.1
end Own
end Jvm.RoadKit
namespace Jvm.RoadKit
open Sem ClassFile Op Lib Jvm.Stand Jvm.Free Jvm.LawKit
section OwnP
variable {p : Program} {e : Env} {below : List Frame} {T : State} {m : MethodId} {c : Code} {pc pc' : Nat} {Ls l' : Array Slot} {S : List Value}
theorem pw_iload {k : Nat} {v : Int32} (h : At T m c below) (hx : p.tables.exec = Jvm.exec) (hd : decode c.code pc = .ok (.iload k, 2)) (hl : Ls[k]? = some (.val (.int v))) (t : State) (q : Steps p.tables e below (T.setTop (mkF m (pc + 2) Ls (.int v :: S))) t) : Steps p.tables e below (T.setTop (mkF m pc Ls (S))) t := XS.iload (g := mkF m pc Ls (S)) h hx rfl hd hl q
theorem pw_iloadN {k : Fin 4} {v : Int32} (h : At T m c below) (hx : p.tables.exec = Jvm.exec) (hd : decode c.code pc = .ok (.iload_n k, 1)) (hl : Ls[k.val]? = some (.val (.int v))) (t : State) (q : Steps p.tables e below (T.setTop (mkF m (pc + 1) Ls (.int v :: S))) t) : Steps p.tables e below (T.setTop (mkF m pc Ls (S))) t := XS.iloadN (g := mkF m pc Ls (S)) h hx rfl hd hl q
theorem pw_lload {k : Nat} {v : Int64} (h : At T m c below) (hx : p.tables.exec = Jvm.exec) (hd : decode c.code pc = .ok (.lload k, 2)) (hl : Ls[k]? = some (.val (.long v))) (t : State) (q : Steps p.tables e below (T.setTop (mkF m (pc + 2) Ls (.long v :: S))) t) : Steps p.tables e below (T.setTop (mkF m pc Ls (S))) t := XS.lload (g := mkF m pc Ls (S)) h hx rfl hd hl q
theorem pw_lloadN {k : Fin 4} {v : Int64} (h : At T m c below) (hx : p.tables.exec = Jvm.exec) (hd : decode c.code pc = .ok (.lload_n k, 1)) (hl : Ls[k.val]? = some (.val (.long v))) (t : State) (q : Steps p.tables e below (T.setTop (mkF m (pc + 1) Ls (.long v :: S))) t) : Steps p.tables e below (T.setTop (mkF m pc Ls (S))) t := XS.lloadN (g := mkF m pc Ls (S)) h hx rfl hd hl q
theorem pw_aload {k : Nat} {v : Value} (h : At T m c below) (hx : p.tables.exec = Jvm.exec) (hd : decode c.code pc = .ok (.aload k, 2)) (hl : Ls[k]? = some (.val v)) (hv : v.isRef = true) (t : State) (q : Steps p.tables e below (T.setTop (mkF m (pc + 2) Ls (v :: S))) t) : Steps p.tables e below (T.setTop (mkF m pc Ls (S))) t := XS.aload (g := mkF m pc Ls (S)) h hx rfl hd hl hv q
theorem pw_aloadN {k : Fin 4} {v : Value} (h : At T m c below) (hx : p.tables.exec = Jvm.exec) (hd : decode c.code pc = .ok (.aload_n k, 1)) (hl : Ls[k.val]? = some (.val v)) (hv : v.isRef = true) (t : State) (q : Steps p.tables e below (T.setTop (mkF m (pc + 1) Ls (v :: S))) t) : Steps p.tables e below (T.setTop (mkF m pc Ls (S))) t := XS.aloadN (g := mkF m pc Ls (S)) h hx rfl hd hl hv q
theorem pw_istore {k : Nat} {x : Int32} (h : At T m c below) (hx : p.tables.exec = Jvm.exec) (hd : decode c.code pc = .ok (.istore k, 2)) (hl : storeLocals Ls k (.int x) = some l') (t : State) (q : Steps p.tables e below (T.setTop (mkF m (pc + 2) l' (S))) t) : Steps p.tables e below (T.setTop (mkF m pc Ls (.int x :: S))) t := XS.istore (g := mkF m pc Ls (.int x :: S)) h hx rfl hd rfl hl q
theorem pw_istoreN {k : Fin 4} {x : Int32} (h : At T m c below) (hx : p.tables.exec = Jvm.exec) (hd : decode c.code pc = .ok (.istore_n k, 1)) (hl : storeLocals Ls k.val (.int x) = some l') (t : State) (q : Steps p.tables e below (T.setTop (mkF m (pc + 1) l' (S))) t) : Steps p.tables e below (T.setTop (mkF m pc Ls (.int x :: S))) t := XS.istoreN (g := mkF m pc Ls (.int x :: S)) h hx rfl hd rfl hl q
theorem pw_astore {k : Nat} {x : Value} (h : At T m c below) (hx : p.tables.exec = Jvm.exec) (hd : decode c.code pc = .ok (.astore k, 2)) (hv : x.isRef = true) (hl : storeLocals Ls k x = some l') (t : State) (q : Steps p.tables e below (T.setTop (mkF m (pc + 2) l' (S))) t) : Steps p.tables e below (T.setTop (mkF m pc Ls (x :: S))) t := XS.astore (g := mkF m pc Ls (x :: S)) h hx rfl hd rfl hv hl q
theorem pw_lstore {k : Nat} {x : Int64} (h : At T m c below) (hx : p.tables.exec = Jvm.exec) (hd : decode c.code pc = .ok (.lstore k, 2)) (hl : storeLocals Ls k (.long x) = some l') (t : State) (q : Steps p.tables e below (T.setTop (mkF m (pc + 2) l' (S))) t) : Steps p.tables e below (T.setTop (mkF m pc Ls (.long x :: S))) t := XS.lstore (g := mkF m pc Ls (.long x :: S)) h hx rfl hd rfl hl q
theorem pw_iconst {i : Int} {v : Int32} (h : At T m c below) (hx : p.tables.exec = Jvm.exec) (hd : decode c.code pc = .ok (.iconst i, 1)) (hv : Int32.ofInt i = v) (t : State) (q : Steps p.tables e below (T.setTop (mkF m (pc + 1) Ls (.int v :: S))) t) : Steps p.tables e below (T.setTop (mkF m pc Ls (S))) t := by
  subst hv
  exact XS.iconst (g := mkF m pc Ls (S)) h hx rfl hd q
theorem pw_bipush {i : Int} {v : Int32} (h : At T m c below) (hx : p.tables.exec = Jvm.exec) (hd : decode c.code pc = .ok (.bipush i, 2)) (hv : (Int8.ofInt i).toInt32 = v) (t : State) (q : Steps p.tables e below (T.setTop (mkF m (pc + 2) Ls (.int v :: S))) t) : Steps p.tables e below (T.setTop (mkF m pc Ls (S))) t := by
  subst hv
  exact XS.bipush (g := mkF m pc Ls (S)) h hx rfl hd q
theorem pw_iadd {x y : Int32} (h : At T m c below) (hx : p.tables.exec = Jvm.exec) (hd : decode c.code pc = .ok (.iadd, 1)) (t : State) (q : Steps p.tables e below (T.setTop (mkF m (pc + 1) Ls (.int (x + y) :: S))) t) : Steps p.tables e below (T.setTop (mkF m pc Ls (.int y :: .int x :: S))) t := XS.iadd (g := mkF m pc Ls (.int y :: .int x :: S)) h hx rfl hd rfl q
theorem pw_isub {x y : Int32} (h : At T m c below) (hx : p.tables.exec = Jvm.exec) (hd : decode c.code pc = .ok (.isub, 1)) (t : State) (q : Steps p.tables e below (T.setTop (mkF m (pc + 1) Ls (.int (x - y) :: S))) t) : Steps p.tables e below (T.setTop (mkF m pc Ls (.int y :: .int x :: S))) t := XS.isub (g := mkF m pc Ls (.int y :: .int x :: S)) h hx rfl hd rfl q
theorem pw_iand {x y : Int32} (h : At T m c below) (hx : p.tables.exec = Jvm.exec) (hd : decode c.code pc = .ok (.iand, 1)) (t : State) (q : Steps p.tables e below (T.setTop (mkF m (pc + 1) Ls (.int (x &&& y) :: S))) t) : Steps p.tables e below (T.setTop (mkF m pc Ls (.int y :: .int x :: S))) t := XS.iand (g := mkF m pc Ls (.int y :: .int x :: S)) h hx rfl hd rfl q
theorem pw_dup {x : Value} (h : At T m c below) (hx : p.tables.exec = Jvm.exec) (hd : decode c.code pc = .ok (.dup, 1)) (hc : x.category = 1) (t : State) (q : Steps p.tables e below (T.setTop (mkF m (pc + 1) Ls (x :: x :: S))) t) : Steps p.tables e below (T.setTop (mkF m pc Ls (x :: S))) t := XS.dup (g := mkF m pc Ls (x :: S)) h hx rfl hd rfl hc q
theorem pw_iinc {k : Nat} {cst : Int} {x : Int32} (h : At T m c below) (hx : p.tables.exec = Jvm.exec) (hd : decode c.code pc = .ok (.iinc k cst, 3)) (hl : Ls[k]? = some (.val (.int x))) (hl' : storeLocals Ls k (.int (x + Int32.ofInt cst)) = some l') (t : State) (q : Steps p.tables e below (T.setTop (mkF m (pc + 3) l' (S))) t) : Steps p.tables e below (T.setTop (mkF m pc Ls (S))) t := XS.iinc (g := mkF m pc Ls (S)) h hx rfl hd hl hl' q
theorem pw_goto {o : Int} (h : At T m c below) (hx : p.tables.exec = Jvm.exec) (hd : decode c.code pc = .ok (.goto o, 3)) (ho : 0 ≤ (pc : Int) + o) (hp : ((pc : Int) + o).toNat = pc') (t : State) (q : Steps p.tables e below (T.setTop (mkF m pc' Ls (S))) t) : Steps p.tables e below (T.setTop (mkF m pc Ls (S))) t := XS.goto (g := mkF m pc Ls (S)) h hx rfl (pc0 := pc) (pc' := pc') rfl hd ho hp q
theorem pw_ifYes {cd : ClassFile.Cond} {x : Int32} {o : Int} (h : At T m c below) (hx : p.tables.exec = Jvm.exec) (hd : decode c.code pc = .ok (.ifCond cd o, 3)) (hc : ifCond.holds cd x = true) (ho : 0 ≤ (pc : Int) + o) (hp : ((pc : Int) + o).toNat = pc') (t : State) (q : Steps p.tables e below (T.setTop (mkF m pc' Ls (S))) t) : Steps p.tables e below (T.setTop (mkF m pc Ls (.int x :: S))) t := XS.ifYes (g := mkF m pc Ls (.int x :: S)) h hx rfl (pc0 := pc) (pc' := pc') rfl hd rfl hc ho hp q
theorem pw_ifNo {cd : ClassFile.Cond} {x : Int32} {o : Int} (h : At T m c below) (hx : p.tables.exec = Jvm.exec) (hd : decode c.code pc = .ok (.ifCond cd o, 3)) (hc : ifCond.holds cd x = false) (t : State) (q : Steps p.tables e below (T.setTop (mkF m (pc + 3) Ls (S))) t) : Steps p.tables e below (T.setTop (mkF m pc Ls (.int x :: S))) t := XS.ifNo (g := mkF m pc Ls (.int x :: S)) h hx rfl hd rfl hc q
theorem pw_icmpYes {cd : ClassFile.Cond} {x y : Int32} {o : Int} (h : At T m c below) (hx : p.tables.exec = Jvm.exec) (hd : decode c.code pc = .ok (.if_icmp cd o, 3)) (hc : if_icmp.holds cd x y = true) (ho : 0 ≤ (pc : Int) + o) (hp : ((pc : Int) + o).toNat = pc') (t : State) (q : Steps p.tables e below (T.setTop (mkF m pc' Ls (S))) t) : Steps p.tables e below (T.setTop (mkF m pc Ls (.int y :: .int x :: S))) t := XS.icmpYes (g := mkF m pc Ls (.int y :: .int x :: S)) h hx rfl (pc0 := pc) (pc' := pc') rfl hd rfl hc ho hp q
theorem pw_icmpNo {cd : ClassFile.Cond} {x y : Int32} {o : Int} (h : At T m c below) (hx : p.tables.exec = Jvm.exec) (hd : decode c.code pc = .ok (.if_icmp cd o, 3)) (hc : if_icmp.holds cd x y = false) (t : State) (q : Steps p.tables e below (T.setTop (mkF m (pc + 3) Ls (S))) t) : Steps p.tables e below (T.setTop (mkF m pc Ls (.int y :: .int x :: S))) t := XS.icmpNo (g := mkF m pc Ls (.int y :: .int x :: S)) h hx rfl hd rfl hc q
end OwnP
end Jvm.RoadKit
namespace Jvm.Pilot.@@N@@
open Jvm Jvm.ClassFile Sem Op Lib Jvm.Free Jvm.Stand Jvm.LawKit Jvm.RoadKit Bundle Jvm.Pilot.@@N@@.Jvm.D
def own_pre (el : Nat → Int) : Nat → Int
  | 0 => 0
  | n + 1 => own_pre el n + el n
def own_insF (el : Nat → Int) (q : Nat) (c : Int) (m i : Nat) : Int := if i < q then el i else if i < q + m then c else el (i - m)
theorem own_pre_congr {el el' : Nat → Int} (n : Nat) (h : ∀ i, i < n → el i = el' i) : own_pre el n = own_pre el' n := by
  induction n with
  | zero => rfl
  | succ n ih =>
    show own_pre el n + el n = own_pre el' n + el' n
    rw [ih (fun i hi => h i (by omega)), h n (by omega)]
theorem own_pre_ins (el : Nat → Int) (q : Nat) (c : Int) (m i : Nat) : own_pre (own_insF el q c m) i = if i ≤ q then own_pre el i else if i ≤ q + m then own_pre el q + ((i - q : Nat) : Int) * c else own_pre el (i - m) + ((m : Nat) : Int) * c := by
  induction i with
  | zero =>
    rw [if_pos (Nat.zero_le q)]
    rfl
  | succ n ih =>
    show own_pre (own_insF el q c m) n + own_insF el q c m n = _
    rw [ih]
    by_cases h1 : n < q
    · have e1 : own_insF el q c m n = el n := if_pos h1
      rw [e1, if_pos (show n ≤ q by omega), if_pos (show n + 1 ≤ q by omega)]
      rfl
    · by_cases h2 : n < q + m
      · have e1 : own_insF el q c m n = c := by
          unfold own_insF
          rw [if_neg h1, if_pos h2]
        rw [e1, if_neg (show ¬ n + 1 ≤ q by omega), if_pos (show n + 1 ≤ q + m by omega)]
        have e : ((n + 1 - q : Nat) : Int) = ((n - q : Nat) : Int) + 1 := by omega
        rw [e, Int.add_mul, Int.one_mul]
        by_cases h3 : n ≤ q
        · have e2 : n = q := by omega
          rw [if_pos h3, e2, Nat.sub_self]
          omega
        · rw [if_neg h3, if_pos (show n ≤ q + m by omega)]
          omega
      · have e1 : own_insF el q c m n = el (n - m) := by
          unfold own_insF
          rw [if_neg h1, if_neg h2]
        rw [e1, if_neg (show ¬ n + 1 ≤ q by omega), if_neg (show ¬ n + 1 ≤ q + m by omega)]
        have e : n + 1 - m = (n - m) + 1 := by omega
        have e4 : own_pre el (n + 1 - m) = own_pre el (n - m) + el (n - m) := by
          rw [e]
          rfl
        rw [e4]
        by_cases h3 : n ≤ q
        · have e2 : m = 0 := by omega
          rw [if_pos h3, e2]
          show own_pre el n + el n = own_pre el n + el n + ((0 : Nat) : Int) * c
          have e5 : ((0 : Nat) : Int) * c = 0 := Int.zero_mul c
          rw [e5]
          omega
        · rw [if_neg h3]
          by_cases h4 : n ≤ q + m
          · have e2 : n - q = m := by omega
            have e3 : n - m = q := by omega
            rw [if_pos h4, e2, e3]
            omega
          · rw [if_neg h4]
            omega
def own_pos (el : Nat → Int) (t col : Nat) (c : Int) (q : Nat) : Prop := q ≤ col ∧ (∀ i, i < q → i < t ∧ el i ≤ c) ∧ (q = col ∨ t ≤ q ∨ c < el q)
theorem own_exq (el : Nat → Int) (t : Nat) (c : Int) (col : Nat) : ∃ q, own_pos el t col c q := by
  induction col with
  | zero => exact ⟨0, Nat.le_refl _, fun i hi => absurd hi (Nat.not_lt_zero i), Or.inl rfl⟩
  | succ n ih =>
    obtain ⟨q, h1, h2, h3⟩ := ih
    by_cases e : q = n
    · by_cases a : n < t ∧ el n ≤ c
      · refine ⟨n + 1, Nat.le_refl _, fun i hi => ?_, Or.inl rfl⟩
        by_cases b : i = n
        · rw [b]
          exact a
        · exact h2 i (by omega)
      · refine ⟨n, Nat.le_succ n, fun i hi => h2 i (by omega), ?_⟩
        by_cases b : n < t
        · have a' : ¬ el n ≤ c := fun q => a ⟨b, q⟩
          exact Or.inr (Or.inr (by omega))
        · exact Or.inr (Or.inl (by omega))
    · exact ⟨q, Nat.le_succ_of_le h1, h2, Or.inr (h3.resolve_left e)⟩
def own_b3 (x : Int) (a : Nat) (y : Int) (b : Nat) (z : Int) (i : Nat) : Int := if i < a then x else if i < a + b then y else z
theorem own_pre_b3 (x : Int) (a : Nat) (y : Int) (b : Nat) (z : Int) (k : Nat) : own_pre (own_b3 x a y b z) k = ((min k a : Nat) : Int) * x + ((min (k - a) b : Nat) : Int) * y + ((k - a - b : Nat) : Int) * z := by
  induction k with
  | zero =>
    have e1 : min 0 a = 0 := by omega
    have e2 : min (0 - a) b = 0 := by omega
    have e3 : 0 - a - b = 0 := by omega
    rw [e1, e2, e3]
    simp [own_pre]
  | succ n ih =>
    show own_pre (own_b3 x a y b z) n + own_b3 x a y b z n = _
    rw [ih]
    by_cases h1 : n < a
    · have e : own_b3 x a y b z n = x := if_pos h1
      have e1 : ((min (n + 1) a : Nat) : Int) = ((min n a : Nat) : Int) + 1 := by omega
      have e2 : min (n + 1 - a) b = min (n - a) b := by omega
      have e3 : n + 1 - a - b = n - a - b := by omega
      rw [e, e1, e2, e3, Int.add_mul, Int.one_mul]
      omega
    · by_cases h2 : n < a + b
      · have e : own_b3 x a y b z n = y := by
          unfold own_b3
          rw [if_neg h1, if_pos h2]
        have e1 : min (n + 1) a = min n a := by omega
        have e2 : ((min (n + 1 - a) b : Nat) : Int) = ((min (n - a) b : Nat) : Int) + 1 := by omega
        have e3 : n + 1 - a - b = n - a - b := by omega
        rw [e, e1, e2, e3, Int.add_mul, Int.one_mul]
        omega
      · have e : own_b3 x a y b z n = z := by
          unfold own_b3
          rw [if_neg h1, if_neg h2]
        have e1 : min (n + 1) a = min n a := by omega
        have e2 : min (n + 1 - a) b = min (n - a) b := by omega
        have e3 : ((n + 1 - a - b : Nat) : Int) = ((n - a - b : Nat) : Int) + 1 := by omega
        rw [e, e1, e2, e3, Int.add_mul, Int.one_mul]
        omega
theorem own_step2 {el : Nat → Int} {a col m q : Nat} {x c : Int} (hel : ∀ i, i < col → i < a → el i = x) (hp : own_pos el a col c q) (i : Nat) (hi : i < col) (hm : i < a + m) : own_insF el q c m i = if x ≤ c then (if i < a then x else c) else (if i < m then c else x) := by
  obtain ⟨p1, p2, p3⟩ := hp
  have u1 : q ≤ a := by
    by_cases u : q ≤ a
    · exact u
    · exact absurd (p2 a (by omega)).1 (Nat.lt_irrefl a)
  unfold own_insF
  by_cases hx : x ≤ c
  · rw [if_pos hx]
    by_cases h1 : i < q
    · rw [if_pos h1, if_pos (show i < a by omega)]
      exact hel i hi (by omega)
    · have u2 : q = a := by
        by_cases u : q = a
        · exact u
        · have e := hel q (by omega) (by omega)
          rcases p3 with p | p | p
          · omega
          · omega
          · rw [e] at p
            omega
      rw [if_neg h1, if_pos (show i < q + m by omega), if_neg (show ¬ i < a by omega)]
  · have u2 : q = 0 := by
      by_cases u : q = 0
      · exact u
      · have e := p2 0 (by omega)
        rw [hel 0 (by omega) e.1] at e
        omega
    rw [if_neg hx, if_neg (show ¬ i < q by omega)]
    by_cases h1 : i < m
    · rw [if_pos (show i < q + m by omega), if_pos h1]
    · rw [if_neg (show ¬ i < q + m by omega), if_neg h1]
      exact hel (i - m) (by omega) (by omega)
theorem own_step3 {el : Nat → Int} {a b col m q : Nat} {x y c : Int} (hxy : x ≤ y) (hel : ∀ i, i < col → i < a + b → el i = if i < a then x else y) (hp : own_pos el (a + b) col c q) (i : Nat) (hi : i < col) (hm : i < a + b + m) : own_insF el q c m i = if c < x then own_b3 c m x a y i else if c < y then own_b3 x a c m y i else own_b3 x a y b c i := by
  obtain ⟨p1, p2, p3⟩ := hp
  have u1 : q ≤ a + b := by
    by_cases u : q ≤ a + b
    · exact u
    · exact absurd (p2 (a + b) (by omega)).1 (Nat.lt_irrefl _)
  unfold own_insF own_b3
  by_cases hx : c < x
  · have u2 : q = 0 := by
      by_cases u : q = 0
      · exact u
      · have e := p2 0 (by omega)
        rw [hel 0 (by omega) e.1] at e
        have e2 := e.2
        by_cases h0 : 0 < a
        · rw [if_pos h0] at e2
          omega
        · rw [if_neg h0] at e2
          omega
    rw [if_pos hx, if_neg (show ¬ i < q by omega)]
    by_cases h1 : i < m
    · rw [if_pos (show i < q + m by omega), if_pos h1]
    · rw [if_neg (show ¬ i < q + m by omega), if_neg h1, hel (i - m) (by omega) (by omega)]
      by_cases h2 : i - m < a
      · rw [if_pos h2, if_pos (show i < m + a by omega)]
      · rw [if_neg h2, if_neg (show ¬ i < m + a by omega)]
  · rw [if_neg hx]
    by_cases hy : c < y
    · rw [if_pos hy]
      have u3 : q ≤ a := by
        by_cases u : q ≤ a
        · exact u
        · have e := p2 a (by omega)
          rw [hel a (by omega) e.1, if_neg (Nat.lt_irrefl a)] at e
          omega
      by_cases h1 : i < q
      · rw [if_pos h1, if_pos (show i < a by omega), hel i hi (by omega), if_pos (show i < a by omega)]
      · have u2 : q = a := by
          by_cases u : q = a
          · exact u
          · have e := hel q (by omega) (by omega)
            rw [if_pos (show q < a by omega)] at e
            rcases p3 with p | p | p
            · omega
            · omega
            · rw [e] at p
              omega
        rw [if_neg h1, if_neg (show ¬ i < a by omega)]
        by_cases h2 : i < a + m
        · rw [if_pos (show i < q + m by omega), if_pos h2]
        · rw [if_neg (show ¬ i < q + m by omega), if_neg h2, hel (i - m) (by omega) (by omega), if_neg (show ¬ i - m < a by omega)]
    · rw [if_neg hy]
      by_cases h1 : i < q
      · rw [if_pos h1, hel i hi (by omega)]
        by_cases h2 : i < a
        · rw [if_pos h2, if_pos h2]
        · rw [if_neg h2, if_neg h2, if_pos (show i < a + b by omega)]
      · have u2 : q = a + b := by
          by_cases u : q = a + b
          · exact u
          · have e := hel q (by omega) (by omega)
            rcases p3 with p | p | p
            · omega
            · omega
            · rw [e] at p
              by_cases h3 : q < a
              · rw [if_pos h3] at p
                omega
              · rw [if_neg h3] at p
                omega
        rw [if_neg h1, if_pos (show i < q + m by omega), if_neg (show ¬ i < a by omega), if_neg (show ¬ i < a + b by omega)]
theorem own_final {c0 c1 c2 : Int} {e0 e1 e2 col q0 q1 q2 : Nat} (h0 : own_pos (fun _ => 0) 0 col c0 q0) (h1 : own_pos (own_insF (fun _ => 0) q0 c0 e0) e0 col c1 q1) (h2 : own_pos (own_insF (own_insF (fun _ => 0) q0 c0 e0) q1 c1 e1) (e0 + e1) col c2 q2) (k : Nat) (hk : k ≤ col) (ht : k ≤ e0 + e1 + e2) :
    own_pre (own_insF (own_insF (own_insF (fun _ => 0) q0 c0 e0) q1 c1 e1) q2 c2 e2) k = ((min e0 (k - ((if c1 < c0 then e1 else 0) + (if c2 < c0 then e2 else 0))) : Nat) : Int) * c0 + ((min e1 (k - ((if c0 ≤ c1 then e0 else 0) + (if c2 < c1 then e2 else 0))) : Nat) : Int) * c1 + ((min e2 (k - ((if c0 ≤ c2 then e0 else 0) + (if c1 ≤ c2 then e1 else 0))) : Nat) : Int) * c2 := by
  have z0 : q0 = 0 := by
    by_cases u : q0 = 0
    · exact u
    · exact absurd (h0.2.1 0 (by omega)).1 (Nat.lt_irrefl 0)
  have f1 : ∀ i, i < col → i < e0 → own_insF (fun _ => 0) q0 c0 e0 i = c0 := by
    intro i _ hi
    unfold own_insF
    rw [if_neg (show ¬ i < q0 by omega), if_pos (show i < q0 + e0 by omega)]
  have f2 := fun i hi hm => own_step2 (m := e1) f1 h1 i hi hm
  by_cases o1 : c0 ≤ c1
  · have f3 : ∀ i, i < col → i < e0 + e1 → own_insF (own_insF (fun _ => 0) q0 c0 e0) q1 c1 e1 i = if i < e0 then c0 else c1 := by
      intro i hi hm
      rw [f2 i hi hm, if_pos o1]
    have f4 := fun i hi hm => own_step3 (m := e2) o1 f3 h2 i hi hm
    rw [if_pos o1, if_neg (show ¬ c1 < c0 by omega)]
    by_cases o2 : c2 < c0
    · rw [own_pre_congr k (fun i hi => (f4 i (by omega) (by omega)).trans (if_pos o2)), own_pre_b3, if_pos o2, if_pos (show c2 < c1 by omega), if_neg (show ¬ c0 ≤ c2 by omega), if_neg (show ¬ c1 ≤ c2 by omega)]
      have a1 : min e0 (k - (0 + e2)) = min (k - e2) e0 := by omega
      have a2 : min e1 (k - (e0 + e2)) = k - e2 - e0 := by omega
      have a3 : min e2 (k - (0 + 0)) = min k e2 := by omega
      rw [a1, a2, a3]
      omega
    · by_cases o3 : c2 < c1
      · rw [own_pre_congr k (fun i hi => (f4 i (by omega) (by omega)).trans ((if_neg o2).trans (if_pos o3))), own_pre_b3, if_neg o2, if_pos o3, if_pos (show c0 ≤ c2 by omega), if_neg (show ¬ c1 ≤ c2 by omega)]
        have a1 : min e0 (k - (0 + 0)) = min k e0 := by omega
        have a2 : min e1 (k - (e0 + e2)) = k - e0 - e2 := by omega
        have a3 : min e2 (k - (e0 + 0)) = min (k - e0) e2 := by omega
        rw [a1, a2, a3]
        omega
      · rw [own_pre_congr k (fun i hi => (f4 i (by omega) (by omega)).trans ((if_neg o2).trans (if_neg o3))), own_pre_b3, if_neg o2, if_neg o3, if_pos (show c0 ≤ c2 by omega), if_pos (show c1 ≤ c2 by omega)]
        have a1 : min e0 (k - (0 + 0)) = min k e0 := by omega
        have a2 : min e1 (k - (e0 + 0)) = min (k - e0) e1 := by omega
        have a3 : min e2 (k - (e0 + e1)) = k - e0 - e1 := by omega
        rw [a1, a2, a3]
  · have f3 : ∀ i, i < col → i < e1 + e0 → own_insF (own_insF (fun _ => 0) q0 c0 e0) q1 c1 e1 i = if i < e1 then c1 else c0 := by
      intro i hi hm
      rw [f2 i hi (by omega), if_neg o1]
    have f4 := fun i hi hm => own_step3 (m := e2) (show c1 ≤ c0 by omega) f3 (by rw [Nat.add_comm e1 e0]; exact h2) i hi hm
    rw [if_neg o1, if_pos (show c1 < c0 by omega)]
    by_cases o2 : c2 < c1
    · rw [own_pre_congr k (fun i hi => (f4 i (by omega) (by omega)).trans (if_pos o2)), own_pre_b3, if_pos o2, if_pos (show c2 < c0 by omega), if_neg (show ¬ c0 ≤ c2 by omega), if_neg (show ¬ c1 ≤ c2 by omega)]
      have a1 : min e0 (k - (e1 + e2)) = k - e2 - e1 := by omega
      have a2 : min e1 (k - (0 + e2)) = min (k - e2) e1 := by omega
      have a3 : min e2 (k - (0 + 0)) = min k e2 := by omega
      rw [a1, a2, a3]
      omega
    · by_cases o3 : c2 < c0
      · rw [own_pre_congr k (fun i hi => (f4 i (by omega) (by omega)).trans ((if_neg o2).trans (if_pos o3))), own_pre_b3, if_neg o2, if_pos o3, if_neg (show ¬ c0 ≤ c2 by omega), if_pos (show c1 ≤ c2 by omega)]
        have a1 : min e0 (k - (e1 + e2)) = k - e1 - e2 := by omega
        have a2 : min e1 (k - (0 + 0)) = min k e1 := by omega
        have a3 : min e2 (k - (0 + e1)) = min (k - e1) e2 := by omega
        rw [a1, a2, a3]
        omega
      · rw [own_pre_congr k (fun i hi => (f4 i (by omega) (by omega)).trans ((if_neg o2).trans (if_neg o3))), own_pre_b3, if_neg o2, if_neg o3, if_pos (show c0 ≤ c2 by omega), if_pos (show c1 ≤ c2 by omega)]
        have a1 : min e0 (k - (e1 + 0)) = min (k - e1) e0 := by omega
        have a2 : min e1 (k - (0 + 0)) = min k e1 := by omega
        have a3 : min e2 (k - (e0 + e1)) = k - e1 - e0 := by omega
        rw [a1, a2, a3]
        omega
def own_bd (el : Nat → Int) (t : Nat) : Prop := ∀ i, i < t → 0 ≤ el i ∧ el i < 1099511627776
theorem own_pre_bd {el : Nat → Int} {t : Nat} (h : own_bd el t) (i : Nat) (hi : i ≤ t) : 0 ≤ own_pre el i ∧ own_pre el i ≤ (i : Int) * 1099511627776 := by
  induction i with
  | zero => exact ⟨Int.le_refl 0, by show (0 : Int) ≤ _; omega⟩
  | succ n ih =>
    have a := ih (by omega)
    have b := h n (by omega)
    show 0 ≤ own_pre el n + el n ∧ own_pre el n + el n ≤ _
    omega
theorem own_bd_ins {el : Nat → Int} {t q m : Nat} {c : Int} (h : own_bd el t) (hq : q ≤ t) (hc : 0 ≤ c ∧ c < 1099511627776) : own_bd (own_insF el q c m) (t + m) := by
  intro i hi
  unfold own_insF
  by_cases h1 : i < q
  · rw [if_pos h1]
    exact h i (by omega)
  · rw [if_neg h1]
    by_cases h2 : i < q + m
    · rw [if_pos h2]
      exact hc
    · rw [if_neg h2]
      exact h (i - m) (by omega)
def own_R (B : List Int64) (el : Nat → Int) (t col : Nat) : Prop := ∀ i, i ≤ col → (i ≤ t → (B.getD i 0).toInt = own_pre el i) ∧ (t < i → B.getD i 0 = (9223372036854775807 : Int64))
theorem own_mx : (9223372036854775807 : Int64).toInt = 9223372036854775807 := by decide
def own_ch (B : List Int64) (ea : Int64) (col q : Nat) : Prop := q ≤ col ∧ (∀ i, i < q → B.getD (i + 1) 0 ≠ (9223372036854775807 : Int64) ∧ (B.getD (i + 1) 0 - B.getD i 0).toInt ≤ ea.toInt) ∧ (q = col ∨ B.getD (q + 1) 0 = (9223372036854775807 : Int64) ∨ ea.toInt < (B.getD (q + 1) 0 - B.getD q 0).toInt)
def own_nx (B : List Int64) (ea : Int64) (m q j : Nat) (v : Int64) : Prop := (j ≤ q → v = B.getD j 0) ∧ (q < j → j ≤ q + m → ∃ w : Int64, w.toInt = ((j - q : Nat) : Int) ∧ v = B.getD q 0 + w * ea) ∧ (q + m < j → (B.getD (j - m) 0 = (9223372036854775807 : Int64) → v = (9223372036854775807 : Int64)) ∧ (B.getD (j - m) 0 ≠ (9223372036854775807 : Int64) → ∃ w : Int64, w.toInt = ((m : Nat) : Int) ∧ v = B.getD (j - m) 0 + w * ea))
theorem own_pos_of {B : List Int64} {el : Nat → Int} {t col q : Nat} {ea : Int64} (hR : own_R B el t col) (hb : own_bd el t) (ht : t ≤ 12) (h : own_ch B ea col q) : own_pos el t col ea.toInt q ∧ q ≤ t := by
  obtain ⟨h1, h2, h3⟩ := h
  have dif : ∀ i, i < col → i < t → (B.getD (i + 1) 0 - B.getD i 0).toInt = el i ∧ B.getD (i + 1) 0 ≠ (9223372036854775807 : Int64) := by
    intro i hi hit
    have r1 := (hR (i + 1) (by omega)).1 (by omega)
    have r0 := (hR i (by omega)).1 (by omega)
    have b1 := own_pre_bd hb (i + 1) (by omega)
    have b0 := own_pre_bd hb i (by omega)
    have s : own_pre el (i + 1) = own_pre el i + el i := rfl
    have d := c_lsub (B.getD (i + 1) 0) (B.getD i 0)
    have g := rng64 (B.getD (i + 1) 0 - B.getD i 0)
    have e := hb i hit
    refine ⟨by omega, fun q => ?_⟩
    rw [q, own_mx] at r1
    omega
  have k1 : ∀ i, i < q → i < t ∧ el i ≤ ea.toInt := by
    intro i hi
    have a := h2 i hi
    have u : i < t := by
      by_cases u : i < t
      · exact u
      · exact absurd ((hR (i + 1) (by omega)).2 (by omega)) a.1
    have d := dif i (by omega) u
    exact ⟨u, by rw [← d.1]; exact a.2⟩
  have k2 : q ≤ t := by
    by_cases u : q ≤ t
    · exact u
    · exact absurd (k1 t (by omega)).1 (Nat.lt_irrefl t)
  refine ⟨⟨h1, k1, ?_⟩, k2⟩
  by_cases u1 : q = col
  · exact Or.inl u1
  · by_cases u2 : t ≤ q
    · exact Or.inr (Or.inl u2)
    · have d := dif q (by omega) (by omega)
      rcases h3 with p | p | p
      · exact Or.inl p
      · exact absurd p d.2
      · rw [d.1] at p
        exact Or.inr (Or.inr p)
theorem own_lm {w ea v b : Int64} {n : Int} (hw : w.toInt = n) (h0 : 0 ≤ n) (h1 : n ≤ 16) (e0 : 0 ≤ ea.toInt) (e1 : ea.toInt < 1099511627776) (b0 : 0 ≤ b.toInt) (b1 : b.toInt ≤ 13 * 1099511627776) (hv : v = b + w * ea) : v.toInt = b.toInt + n * ea.toInt := by
  have m := c_lmul w ea
  have rm := rng64 (w * ea)
  have a := c_ladd b (w * ea)
  have ra := rng64 v
  rw [← hv] at a
  rw [hw] at m
  have p0 : 0 ≤ n * ea.toInt := Int.mul_nonneg h0 e0
  have p1 : n * ea.toInt ≤ 16 * 1099511627776 := by
    have q1 : n * ea.toInt ≤ n * 1099511627776 := Int.mul_le_mul_of_nonneg_left (by omega) h0
    omega
  omega
theorem own_add {B N : List Int64} {el : Nat → Int} {t col q m : Nat} {ea : Int64} (hR : own_R B el t col) (hb : own_bd el t) (ht : t ≤ 8) (hm : m ≤ 4) (e0 : 0 ≤ ea.toInt) (e1 : ea.toInt < 1099511627776) (hc : own_ch B ea col q) (hN : ∀ j, j ≤ col → own_nx B ea m q j (N.getD j 0)) :
    own_pos el t col ea.toInt q ∧ own_bd (own_insF el q ea.toInt m) (t + m) ∧ own_R N (own_insF el q ea.toInt m) (t + m) col := by
  obtain ⟨hp, hq⟩ := own_pos_of hR hb (by omega) hc
  refine ⟨hp, own_bd_ins hb hq ⟨e0, e1⟩, fun j hj => ?_⟩
  obtain ⟨n1, n2, n3⟩ := hN j hj
  have hqc := hc.1
  rw [own_pre_ins]
  by_cases h1 : j ≤ q
  · rw [n1 h1, if_pos h1]
    exact ⟨fun _ => (hR j hj).1 (by omega), fun u => by omega⟩
  · by_cases h2 : j ≤ q + m
    · obtain ⟨w, hw, hv⟩ := n2 (by omega) h2
      rw [if_neg h1, if_pos h2]
      have r := (hR q hqc).1 hq
      have b := own_pre_bd hb q hq
      refine ⟨fun _ => ?_, fun u => by omega⟩
      rw [own_lm hw (by omega) (by omega) e0 e1 (by omega) (by omega) hv, r]
    · obtain ⟨n4, n5⟩ := n3 (by omega)
      rw [if_neg h1, if_neg h2]
      by_cases u : j - m ≤ t
      · have r := (hR (j - m) (by omega)).1 u
        have b := own_pre_bd hb (j - m) u
        have ne : B.getD (j - m) 0 ≠ (9223372036854775807 : Int64) := fun q => by
          rw [q, own_mx] at r
          omega
        obtain ⟨w, hw, hv⟩ := n5 ne
        refine ⟨fun _ => ?_, fun u2 => by omega⟩
        rw [own_lm hw (by omega) (by omega) e0 e1 (by omega) (by omega) hv, r]
      · exact ⟨fun u2 => by omega, fun _ => n4 ((hR (j - m) (by omega)).2 (by omega))⟩
theorem own_lt0 {a b : Int32} (h : a < b) : a.toInt < b.toInt := Int32.lt_iff_toInt_lt.mp h
theorem own_lt {a b : Int32} (h : a.toInt < b.toInt) : a < b := Int32.lt_iff_toInt_lt.mpr h
theorem own_nlt {a b : Int32} (h : b.toInt ≤ a.toInt) : ¬ a < b := fun q => by have := Int32.lt_iff_toInt_lt.mp q; omega
theorem own_nlt' {a b : Int32} (h : ¬ a < b) : b.toInt ≤ a.toInt := by rw [Int32.lt_iff_toInt_lt] at h; omega
theorem own_ltL {a b : Int64} (h : a < b) : a.toInt < b.toInt := Int64.lt_iff_toInt_lt.mp h
theorem own_nltL {a b : Int64} (h : ¬ a < b) : b.toInt ≤ a.toInt := by rw [Int64.lt_iff_toInt_lt] at h; omega
theorem own_i0 : (0 : Int32).toInt = 0 := by decide
theorem own_i1 : (1 : Int32).toInt = 1 := by decide
theorem own_nat {j : Int32} (h : 0 ≤ j.toInt) : (j.toNatClampNeg : Int) = j.toInt := by
  have q : j.toNatClampNeg = j.toInt.toNat := rfl
  rw [q]
  omega
theorem own_ad {a b : Int32} (h : -2147483648 ≤ a.toInt + b.toInt) (h' : a.toInt + b.toInt < 2147483648) : (a + b).toInt = a.toInt + b.toInt := by
  have q := c_iadd a b
  have r := rng32 (a + b)
  omega
theorem own_sb {a b : Int32} (h : -2147483648 ≤ a.toInt - b.toInt) (h' : a.toInt - b.toInt < 2147483648) : (a - b).toInt = a.toInt - b.toInt := by
  have q := c_isub a b
  have r := rng32 (a - b)
  omega
theorem own_p1 {a : Int32} (h : a.toInt < 2147483647) : (a + (1 : Int32)).toInt = a.toInt + 1 := by
  have r := rng32 a
  rw [own_ad (by rw [own_i1]; omega) (by rw [own_i1]; omega), own_i1]
theorem own_getD (xs : List Int32) (j : Nat) : (xs.map Value.int).getD j (.int 0) = .int (xs.getD j 0) := by
  simp only [List.getD, List.getElem?_map]
  cases xs[j]? <;> rfl
theorem own_getDL (xs : List Int64) (j : Nat) : (xs.map Value.long).getD j (.long 0) = .long (xs.getD j 0) := by
  simp only [List.getD, List.getElem?_map]
  cases xs[j]? <;> rfl
theorem own_setL (xs : List Int64) (j : Nat) (v : Int64) : (xs.map Value.long).set j (.long v) = (xs.set j v).map Value.long := by
  rw [List.map_set]
theorem own_padL (n : Nat) : ∀ i, ((List.replicate n (0 : Int64)).map Value.long).getD i (.long 0) = ([] : List Value).getD i (.long 0) := by
  intro i
  rw [own_getDL]
  simp [List.getD, List.getElem?_replicate]
  split <;> rfl
theorem own_setg (xs : List Int64) (i j : Nat) (v : Int64) (h : i < xs.length) : (xs.set i v).getD j 0 = if i = j then v else xs.getD j 0 := by
  by_cases e : i = j
  · subst e
    simp [List.getD, h]
  · rw [if_neg e]
    simp [List.getD, List.getElem?_set_ne e]
theorem own_n1 {B : List Int64} {ea : Int64} {cn ch i : Int32} (h0 : 0 ≤ i.toInt) (h1 : 0 ≤ ch.toInt) (h : ¬ ch < i) : own_nx B ea cn.toNatClampNeg ch.toNatClampNeg i.toNatClampNeg (B.getD i.toNatClampNeg 0) := by
  have q := own_nlt' h
  have a := own_nat h0
  have b := own_nat h1
  exact ⟨fun _ => rfl, fun u => by omega, fun u => by omega⟩
theorem own_n2 {B : List Int64} {ea : Int64} {cn ch i : Int32} (h0 : 0 ≤ i.toInt) (h1 : 0 ≤ ch.toInt) (h2 : 0 ≤ cn.toInt) (h3 : ch.toInt + cn.toInt < 1000) (h : ch < i) (h' : ¬ (ch + cn) < i) : own_nx B ea cn.toNatClampNeg ch.toNatClampNeg i.toNatClampNeg (B.getD ch.toNatClampNeg 0 + (i - ch).toInt64 * ea) := by
  have q := own_lt0 h
  have q' := own_nlt' h'
  rw [own_ad (by omega) (by omega)] at q'
  have a := own_nat h0
  have b := own_nat h1
  have c := own_nat h2
  refine ⟨fun u => by omega, fun _ _ => ⟨_, ?_, rfl⟩, fun u => by omega⟩
  rw [c_i2l, own_sb (by omega) (by omega)]
  omega
theorem own_n3 {B : List Int64} {ea : Int64} {cn ch i : Int32} (h0 : 0 ≤ i.toInt) (h1 : 0 ≤ ch.toInt) (h2 : 0 ≤ cn.toInt) (h3 : ch.toInt + cn.toInt < 1000) (h' : (ch + cn) < i) (hB : B.getD (i - cn).toNatClampNeg 0 = (9223372036854775807 : Int64)) : own_nx B ea cn.toNatClampNeg ch.toNatClampNeg i.toNatClampNeg (9223372036854775807 : Int64) := by
  have q' := own_lt0 h'
  rw [own_ad (by omega) (by omega)] at q'
  have a := own_nat h0
  have b := own_nat h1
  have c := own_nat h2
  have s : (i - cn).toInt = i.toInt - cn.toInt := own_sb (by have := rng32 i; omega) (by have := rng32 i; omega)
  have d := own_nat (j := i - cn) (by omega)
  have e : (i - cn).toNatClampNeg = i.toNatClampNeg - cn.toNatClampNeg := by omega
  rw [e] at hB
  exact ⟨fun u => by omega, fun u u2 => by omega, fun _ => ⟨fun _ => rfl, fun ne => absurd hB ne⟩⟩
theorem own_n4 {B : List Int64} {ea : Int64} {cn ch i : Int32} (h0 : 0 ≤ i.toInt) (h1 : 0 ≤ ch.toInt) (h2 : 0 ≤ cn.toInt) (h3 : ch.toInt + cn.toInt < 1000) (h' : (ch + cn) < i) (hB : ¬ B.getD (i - cn).toNatClampNeg 0 = (9223372036854775807 : Int64)) : own_nx B ea cn.toNatClampNeg ch.toNatClampNeg i.toNatClampNeg (B.getD (i - cn).toNatClampNeg 0 + cn.toInt64 * ea) := by
  have q' := own_lt0 h'
  rw [own_ad (by omega) (by omega)] at q'
  have a := own_nat h0
  have b := own_nat h1
  have c := own_nat h2
  have s : (i - cn).toInt = i.toInt - cn.toInt := own_sb (by have := rng32 i; omega) (by have := rng32 i; omega)
  have d := own_nat (j := i - cn) (by omega)
  have e : (i - cn).toNatClampNeg = i.toNatClampNeg - cn.toNatClampNeg := by omega
  rw [e] at hB ⊢
  exact ⟨fun u => by omega, fun u u2 => by omega, fun _ => ⟨fun eq => absurd eq hB, fun _ => ⟨_, by rw [c_i2l]; omega, rfl⟩⟩⟩
theorem own_chstep {B : List Int64} {ea : Int64} {ch : Int32} (h1 : 0 ≤ ch.toInt) (h2 : ch.toInt < 1000) (hi : ∀ i, i < ch.toNatClampNeg → B.getD (i + 1) 0 ≠ (9223372036854775807 : Int64) ∧ (B.getD (i + 1) 0 - B.getD i 0).toInt ≤ ea.toInt) (a : ¬ B.getD (ch + (1 : Int32)).toNatClampNeg 0 = (9223372036854775807 : Int64)) (b : ¬ ea < (B.getD (ch + (1 : Int32)).toNatClampNeg 0 - B.getD ch.toNatClampNeg 0)) :
    ∀ i, i < (ch + (1 : Int32)).toNatClampNeg → B.getD (i + 1) 0 ≠ (9223372036854775807 : Int64) ∧ (B.getD (i + 1) 0 - B.getD i 0).toInt ≤ ea.toInt := by
  have p := own_p1 (a := ch) (by omega)
  have n1 := own_nat h1
  have n2 := own_nat (j := ch + 1) (by omega)
  have e : (ch + (1 : Int32)).toNatClampNeg = ch.toNatClampNeg + 1 := by omega
  rw [e] at a b ⊢
  intro i h
  by_cases u : i = ch.toNatClampNeg
  · rw [u]
    exact ⟨a, own_nltL b⟩
  · exact hi i (by omega)
theorem own_ch0 {B : List Int64} {ea : Int64} {ch col : Int32} (h1 : 0 ≤ ch.toInt) (h2 : ch.toInt ≤ col.toInt) (hc : col.toInt < 1000) (hi : ∀ i, i < ch.toNatClampNeg → B.getD (i + 1) 0 ≠ (9223372036854775807 : Int64) ∧ (B.getD (i + 1) 0 - B.getD i 0).toInt ≤ ea.toInt) (h : ch.toInt = col.toInt ∨ B.getD (ch + (1 : Int32)).toNatClampNeg 0 = (9223372036854775807 : Int64) ∨ ea < (B.getD (ch + (1 : Int32)).toNatClampNeg 0 - B.getD ch.toNatClampNeg 0)) : own_ch B ea col.toNatClampNeg ch.toNatClampNeg := by
  have n1 := own_nat h1
  have n2 := own_nat (j := col) (by omega)
  have p := own_p1 (a := ch) (by omega)
  have n3 := own_nat (j := ch + 1) (by omega)
  have e : (ch + (1 : Int32)).toNatClampNeg = ch.toNatClampNeg + 1 := by omega
  rw [e] at h
  refine ⟨by omega, hi, ?_⟩
  rcases h with h | h | h
  · exact Or.inl (by omega)
  · exact Or.inr (Or.inl h)
  · exact Or.inr (Or.inr (own_ltL h))
theorem own_nstep {B N : List Int64} {ea sm : Int64} {m q : Nat} {i : Int32} (h0 : 0 ≤ i.toInt) (h1 : i.toInt < 1000) (hl : i.toNatClampNeg < N.length) (hN : ∀ j, j < i.toNatClampNeg → own_nx B ea m q j (N.getD j 0)) (hs : own_nx B ea m q i.toNatClampNeg sm) : ∀ j, j < (i + (1 : Int32)).toNatClampNeg → own_nx B ea m q j ((N.set i.toNatClampNeg sm).getD j 0) := by
  have p := own_p1 (a := i) (by omega)
  have n1 := own_nat h0
  have n2 := own_nat (j := i + 1) (by omega)
  have e : (i + (1 : Int32)).toNatClampNeg = i.toNatClampNeg + 1 := by omega
  rw [e]
  intro j hj
  rw [own_setg _ _ _ _ hl]
  by_cases u : i.toNatClampNeg = j
  · rw [if_pos u, ← u]
    exact hs
  · rw [if_neg u]
    exact hN j (by omega)
theorem own_g3 {g : Int32} (h : 0 ≤ g.toInt ∧ g.toInt ≤ 2) : g = 0 ∨ g = 1 ∨ g = 2 := by
  have q : g.toInt = 0 ∨ g.toInt = 1 ∨ g.toInt = 2 := by omega
  rcases q with q | q | q
  · exact Or.inl (Int32.toInt_inj.mp q)
  · exact Or.inr (Or.inl (Int32.toInt_inj.mp q))
  · exact Or.inr (Or.inr (Int32.toInt_inj.mp q))
theorem own_gin {g : Int32} (h : 0 ≤ g.toInt ∧ g.toInt ≤ 2) : ¬ g < 0 ∧ g < (3 : Int32) := ⟨own_nlt (by rw [own_i0]; exact h.1), own_lt (by rw [show (3 : Int32).toInt = 3 from by decide]; omega)⟩
theorem own_setI (xs : List Int32) (j : Nat) (v : Int32) : (xs.map Value.int).set j (.int v) = (xs.set j v).map Value.int := by
  rw [List.map_set]
theorem own_setgI (xs : List Int32) (i j : Nat) (v : Int32) (h : i < xs.length) : (xs.set i v).getD j 0 = if i = j then v else xs.getD j 0 := by
  by_cases e : i = j
  · subst e
    simp [List.getD, h]
  · rw [if_neg e]
    simp [List.getD, List.getElem?_set_ne e]
theorem own_n4c {n : Int32} (h : 0 ≤ n.toInt ∧ n.toInt ≤ 3) : n = 0 ∨ n = 1 ∨ n = 2 ∨ n = 3 := by
  have q : n.toInt = 0 ∨ n.toInt = 1 ∨ n.toInt = 2 ∨ n.toInt = 3 := by omega
  rcases q with q | q | q | q
  · exact Or.inl (Int32.toInt_inj.mp q)
  · exact Or.inr (Or.inl (Int32.toInt_inj.mp q))
  · exact Or.inr (Or.inr (Or.inl (Int32.toInt_inj.mp q)))
  · exact Or.inr (Or.inr (Or.inr (Int32.toInt_inj.mp q)))
/-- a pooled mark stands only where the pool names the group -/
def own_plo (pl : List Int32) (n x0 x1 x2 : Int32) : Prop := pl.length = 3 ∧ ∀ g : Nat, pl.getD g 0 ≠ 0 → (0 < n.toInt ∧ g = x0.toNatClampNeg) ∨ (1 < n.toInt ∧ g = x1.toNatClampNeg) ∨ (2 < n.toInt ∧ g = x2.toNatClampNeg)
theorem own_z3 (g : Nat) : (([0, 0, 0] : List Int32).getD g 0) = 0 := by
  match g with
  | 0 => rfl
  | 1 => rfl
  | 2 => rfl
  | n + 3 => rfl
theorem own_plo0 {x0 x1 x2 : Int32} : own_plo [0, 0, 0] 0 x0 x1 x2 := ⟨rfl, fun g h => absurd (own_z3 g) h⟩
theorem own_plo1 {x0 x1 x2 : Int32} (h0 : 0 ≤ x0.toInt ∧ x0.toInt ≤ 2) : own_plo (([0, 0, 0] : List Int32).set x0.toNatClampNeg 1) 1 x0 x1 x2 := by
  have n0 := own_nat h0.1
  refine ⟨by rw [List.length_set]; rfl, fun g h => ?_⟩
  rw [own_setgI _ _ _ _ (by show _ < 3; omega)] at h
  by_cases e : x0.toNatClampNeg = g
  · exact Or.inl ⟨by decide, e.symm⟩
  · rw [if_neg e] at h
    exact absurd (own_z3 g) h
theorem own_plo2 {x0 x1 x2 : Int32} (h0 : 0 ≤ x0.toInt ∧ x0.toInt ≤ 2) (h1 : 0 ≤ x1.toInt ∧ x1.toInt ≤ 2) : own_plo ((([0, 0, 0] : List Int32).set x0.toNatClampNeg 1).set x1.toNatClampNeg 1) 2 x0 x1 x2 := by
  have n0 := own_nat h0.1
  have n1 := own_nat h1.1
  refine ⟨by rw [List.length_set, List.length_set]; rfl, fun g h => ?_⟩
  rw [own_setgI _ _ _ _ (by rw [List.length_set]; show _ < 3; omega)] at h
  by_cases e : x1.toNatClampNeg = g
  · exact Or.inr (Or.inl ⟨by decide, e.symm⟩)
  · rw [if_neg e] at h
    rcases (own_plo1 (x1 := x1) (x2 := x2) h0).2 g h with p | p | p
    · exact Or.inl ⟨by decide, p.2⟩
    · exact absurd p.1 (by decide)
    · exact absurd p.1 (by decide)
theorem own_plo3 {x0 x1 x2 : Int32} (h0 : 0 ≤ x0.toInt ∧ x0.toInt ≤ 2) (h1 : 0 ≤ x1.toInt ∧ x1.toInt ≤ 2) (h2 : 0 ≤ x2.toInt ∧ x2.toInt ≤ 2) : own_plo (((([0, 0, 0] : List Int32).set x0.toNatClampNeg 1).set x1.toNatClampNeg 1).set x2.toNatClampNeg 1) 3 x0 x1 x2 := by
  have n2 := own_nat h2.1
  refine ⟨by rw [List.length_set, List.length_set, List.length_set]; rfl, fun g h => ?_⟩
  rw [own_setgI _ _ _ _ (by rw [List.length_set, List.length_set]; show _ < 3; omega)] at h
  by_cases e : x2.toNatClampNeg = g
  · exact Or.inr (Or.inr ⟨by decide, e.symm⟩)
  · rw [if_neg e] at h
    rcases (own_plo2 (x2 := x2) h0 h1).2 g h with p | p | p
    · exact Or.inl ⟨by decide, p.2⟩
    · exact Or.inr (Or.inl ⟨by decide, p.2⟩)
    · exact absurd p.1 (by decide)
/-- what a group's marks let it add -/
def own_ef (pl ms : List Int32) (u : Int32) : Int := if pl.getD u.toNatClampNeg 0 = 0 then 0 else (ms.getD u.toNatClampNeg 0).toInt
theorem own_ef_nn {pl ms : List Int32} {u : Int32} (h : 0 ≤ (ms.getD u.toNatClampNeg 0).toInt) : 0 ≤ own_ef pl ms u := by
  unfold own_ef
  split
  · exact Int.le_refl 0
  · exact h
theorem own_mb {m0 m1 m2 u : Int32} (h0 : 1 ≤ m0.toInt ∧ m0.toInt ≤ 4) (h1 : 1 ≤ m1.toInt ∧ m1.toInt ≤ 4) (h2 : 1 ≤ m2.toInt ∧ m2.toInt ≤ 4) (hu : 0 ≤ u.toInt ∧ u.toInt ≤ 2) : 1 ≤ (([m0, m1, m2] : List Int32).getD u.toNatClampNeg 0).toInt ∧ (([m0, m1, m2] : List Int32).getD u.toNatClampNeg 0).toInt ≤ 4 := by
  rcases own_g3 hu with rfl | rfl | rfl
  · exact h0
  · exact h1
  · exact h2
theorem own_ctb {c0 c1 c2 : Int64} {u : Int32} (h0 : 0 ≤ c0.toInt ∧ c0.toInt < 1099511627776) (h1 : 0 ≤ c1.toInt ∧ c1.toInt < 1099511627776) (h2 : 0 ≤ c2.toInt ∧ c2.toInt < 1099511627776) (hu : 0 ≤ u.toInt ∧ u.toInt ≤ 2) : 0 ≤ (([c0, c1, c2] : List Int64).getD u.toNatClampNeg 0).toInt ∧ (([c0, c1, c2] : List Int64).getD u.toNatClampNeg 0).toInt < 1099511627776 := by
  rcases own_g3 hu with rfl | rfl | rfl
  · exact h0
  · exact h1
  · exact h2
def own_perm (u0 u1 u2 : Int32) : Prop := (0 ≤ u0.toInt ∧ u0.toInt ≤ 2) ∧ (0 ≤ u1.toInt ∧ u1.toInt ≤ 2) ∧ (0 ≤ u2.toInt ∧ u2.toInt ≤ 2) ∧ u0.toInt ≠ u1.toInt ∧ u0.toInt ≠ u2.toInt ∧ u1.toInt ≠ u2.toInt
theorem own_efp {pl ms : List Int32} {u0 u1 u2 : Int32} (h : own_perm u0 u1 u2) : own_ef pl ms u0 + own_ef pl ms u1 + own_ef pl ms u2 = own_ef pl ms 0 + own_ef pl ms 1 + own_ef pl ms 2 := by
  obtain ⟨a, b, c, d, e, f⟩ := h
  rcases own_g3 a with rfl | rfl | rfl <;> rcases own_g3 b with rfl | rfl | rfl <;> rcases own_g3 c with rfl | rfl | rfl <;> first | omega | (exfalso; revert d e f; decide)
/-- members of the group g that the first n of x0 x1 x2 name -/
def own_em (n x0 x1 x2 mb : Int32) (g : Nat) : Int := if (0 < n.toInt ∧ g = x0.toNatClampNeg) ∨ (1 < n.toInt ∧ g = x1.toNatClampNeg) ∨ (2 < n.toInt ∧ g = x2.toNatClampNeg) then mb.toInt else 0
theorem own_efm {pl : List Int32} {n x0 x1 x2 m0 m1 m2 : Int32} (hp : own_plo pl n x0 x1 x2) (h0 : 1 ≤ m0.toInt ∧ m0.toInt ≤ 4) (h1 : 1 ≤ m1.toInt ∧ m1.toInt ≤ 4) (h2 : 1 ≤ m2.toInt ∧ m2.toInt ≤ 4) :
    own_ef pl [m0, m1, m2] 0 + own_ef pl [m0, m1, m2] 1 + own_ef pl [m0, m1, m2] 2 ≤ own_em n x0 x1 x2 m0 0 + own_em n x0 x1 x2 m1 1 + own_em n x0 x1 x2 m2 2 := by
  have k0 : own_ef pl [m0, m1, m2] 0 ≤ own_em n x0 x1 x2 m0 0 := by
    unfold own_ef own_em
    by_cases e : pl.getD (0 : Int32).toNatClampNeg 0 = 0
    · rw [if_pos e]
      split
      · omega
      · exact Int.le_refl 0
    · have e' := hp.2 _ e
      rw [show (0 : Int32).toNatClampNeg = 0 from by decide] at e'
      rw [if_neg e, if_pos e']
      exact Int.le_refl _
  have k1 : own_ef pl [m0, m1, m2] 1 ≤ own_em n x0 x1 x2 m1 1 := by
    unfold own_ef own_em
    by_cases e : pl.getD (1 : Int32).toNatClampNeg 0 = 0
    · rw [if_pos e]
      split
      · omega
      · exact Int.le_refl 0
    · have e' := hp.2 _ e
      rw [show (1 : Int32).toNatClampNeg = 1 from by decide] at e'
      rw [if_neg e, if_pos e']
      exact Int.le_refl _
  have k2 : own_ef pl [m0, m1, m2] 2 ≤ own_em n x0 x1 x2 m2 2 := by
    unfold own_ef own_em
    by_cases e : pl.getD (2 : Int32).toNatClampNeg 0 = 0
    · rw [if_pos e]
      split
      · omega
      · exact Int.le_refl 0
    · have e' := hp.2 _ e
      rw [show (2 : Int32).toNatClampNeg = 2 from by decide] at e'
      rw [if_neg e, if_pos e']
      exact Int.le_refl _
  omega
def own_mnJ (a b : Int64) : Int64 := if b < a then b else a
theorem own_tk {mb tk : Int32} {ct rm sp : Int64} (hm : 1 ≤ mb.toInt ∧ mb.toInt ≤ 4) (hc : 0 ≤ ct.toInt ∧ ct.toInt < 1099511627776) (hz : ¬ ct = 0) (h0 : 0 ≤ sp.toInt) (h1 : sp.toInt ≤ rm.toInt) (h2 : rm.toInt < 1152921504606846976) (ht : tk = (own_mnJ mb.toInt64 ((rm - sp) / ct)).toInt32) : (0 ≤ tk.toInt ∧ tk.toInt ≤ mb.toInt) ∧ tk.toInt * ct.toInt ≤ rm.toInt - sp.toInt := by
  have hcp : 0 < ct.toInt := by
    rcases Int.lt_or_eq_of_le hc.1 with h | h
    · exact h
    · exact absurd (Int64.toInt_inj.mp (h.symm.trans (show (0 : Int) = (0 : Int64).toInt by decide))) hz
  have s := c_lsub rm sp
  have rs := rng64 (rm - sp)
  have s2 : (rm - sp).toInt = rm.toInt - sp.toInt := by omega
  have dv := (c_ldiv (rm - sp) ct ct.toInt rfl (fun q => by rw [q] at hcp; exact absurd hcp (by decide))).1 (by omega)
  have l := c_i2l mb
  have n0 : 0 ≤ (rm - sp).toInt / ct.toInt := Int.ediv_nonneg (by omega) (by omega)
  have n1 : (rm - sp).toInt / ct.toInt * ct.toInt ≤ (rm - sp).toInt := Int.ediv_mul_le _ (by omega)
  have b := c_l2i (own_mnJ mb.toInt64 ((rm - sp) / ct))
  have rt := rng32 tk
  rw [← ht] at b
  by_cases h : (rm - sp) / ct < mb.toInt64
  · have e : own_mnJ mb.toInt64 ((rm - sp) / ct) = (rm - sp) / ct := if_pos h
    have q := own_ltL h
    rw [e, dv] at b
    rw [dv, l] at q
    have t : tk.toInt = (rm - sp).toInt / ct.toInt := by omega
    refine ⟨by omega, ?_⟩
    rw [t]
    omega
  · have e : own_mnJ mb.toInt64 ((rm - sp) / ct) = mb.toInt64 := if_neg h
    have q := own_nltL h
    rw [e, l] at b
    rw [dv, l] at q
    have t : tk.toInt = mb.toInt := by omega
    refine ⟨by omega, ?_⟩
    rw [t]
    have q1 : mb.toInt * ct.toInt ≤ (rm - sp).toInt / ct.toInt * ct.toInt := Int.mul_le_mul_of_nonneg_right q hc.1
    omega
theorem own_sp {tk : Int32} {ct rm sp : Int64} (ht : 0 ≤ tk.toInt ∧ tk.toInt ≤ 4) (hc : 0 ≤ ct.toInt ∧ ct.toInt < 1099511627776) (h0 : 0 ≤ sp.toInt) (h1 : sp.toInt ≤ rm.toInt) (h2 : rm.toInt < 1152921504606846976) (h : tk.toInt * ct.toInt ≤ rm.toInt - sp.toInt) : 0 ≤ (sp + tk.toInt64 * ct).toInt ∧ (sp + tk.toInt64 * ct).toInt ≤ rm.toInt := by
  have l := c_i2l tk
  have m := c_lmul tk.toInt64 ct
  have rm' := rng64 (tk.toInt64 * ct)
  have a := c_ladd sp (tk.toInt64 * ct)
  have ra := rng64 (sp + tk.toInt64 * ct)
  rw [l] at m
  have p0 : 0 ≤ tk.toInt * ct.toInt := Int.mul_nonneg ht.1 hc.1
  omega
theorem own_tk0 {mb : Int32} {ct rm sp : Int64} (hm : 1 ≤ mb.toInt ∧ mb.toInt ≤ 4) (hz : ct = 0) (h1 : sp.toInt ≤ rm.toInt) : (0 ≤ mb.toInt ∧ mb.toInt ≤ mb.toInt) ∧ mb.toInt * ct.toInt ≤ rm.toInt - sp.toInt := by
  have e : ct.toInt = 0 := by
    rw [hz]
    decide
  rw [e, Int.mul_zero]
  omega
theorem own_ef_le {pl ms : List Int32} {u : Int32} (h : 0 ≤ (ms.getD u.toNatClampNeg 0).toInt ∧ (ms.getD u.toNatClampNeg 0).toInt ≤ 4) : 0 ≤ own_ef pl ms u ∧ own_ef pl ms u ≤ 4 := by
  unfold own_ef
  split
  · omega
  · exact h
def own_chain (col : Nat) : List (Int × Nat) → (Nat → Int) → Nat → Prop
  | [], el, t => el = (fun _ => 0) ∧ t = 0
  | (c, m) :: L, el, t => ∃ el' t' q, own_chain col L el' t' ∧ own_pos el' t' col c q ∧ el = own_insF el' q c m ∧ t = t' + m
theorem own_nilI {col : Nat} : own_chain col [] (fun _ => 0) 0 := by
  show (fun _ => 0 : Nat → Int) = (fun _ => 0) ∧ 0 = 0
  exact ⟨rfl, rfl⟩
theorem own_consI {col : Nat} {c : Int} {m : Nat} {L : List (Int × Nat)} {el el' : Nat → Int} {t t' q : Nat} (h : own_chain col L el' t') (hp : own_pos el' t' col c q) (he : el = own_insF el' q c m) (ht : t = t' + m) : own_chain col ((c, m) :: L) el t := by
  show ∃ el' t' q, own_chain col L el' t' ∧ own_pos el' t' col c q ∧ el = own_insF el' q c m ∧ t = t' + m
  exact ⟨el', t', q, h, hp, he, ht⟩
theorem own_insF0 (el : Nat → Int) (q : Nat) (c : Int) : own_insF el q c 0 = el := by
  funext i
  unfold own_insF
  by_cases h : i < q
  · rw [if_pos h]
  · rw [if_neg h, if_neg (show ¬ i < q + 0 by omega)]
    rfl
theorem own_opt {col : Nat} {c : Int} {m : Nat} {b : Bool} {L : List (Int × Nat)} {el : Nat → Int} {t : Nat} (h : own_chain col ((if b then [(c, m)] else []) ++ L) el t) : ∃ el' t' q, own_chain col L el' t' ∧ own_pos el' t' col c q ∧ el = own_insF el' q c (if b then m else 0) ∧ t = t' + (if b then m else 0) := by
  cases b with
  | true => exact h
  | false =>
    obtain ⟨q, hq⟩ := own_exq el t c col
    exact ⟨el, t, q, h, hq, (own_insF0 el q c).symm, rfl⟩
theorem own_law {col k : Nat} {c0 c1 c2 : Int} {m0 m1 m2 : Nat} {b0 b1 b2 : Bool} {el : Nat → Int} {t : Nat} (h : own_chain col ((if b2 then [(c2, m2)] else []) ++ ((if b1 then [(c1, m1)] else []) ++ ((if b0 then [(c0, m0)] else []) ++ []))) el t) (hk : k ≤ col) (e0 e1 e2 : Nat) (h0 : e0 = if b0 then m0 else 0) (h1 : e1 = if b1 then m1 else 0) (h2 : e2 = if b2 then m2 else 0) (ht : k ≤ e0 + e1 + e2) :
    t = e0 + e1 + e2 ∧ own_pre el k = ((min e0 (k - ((if c1 < c0 then e1 else 0) + (if c2 < c0 then e2 else 0))) : Nat) : Int) * c0 + ((min e1 (k - ((if c0 ≤ c1 then e0 else 0) + (if c2 < c1 then e2 else 0))) : Nat) : Int) * c1 + ((min e2 (k - ((if c0 ≤ c2 then e0 else 0) + (if c1 ≤ c2 then e1 else 0))) : Nat) : Int) * c2 := by
  obtain ⟨el2, t2, q2, hc2, hp2, r2, s2⟩ := own_opt h
  obtain ⟨el1, t1, q1, hc1, hp1, r1, s1⟩ := own_opt hc2
  obtain ⟨el0, t0, q0, hc0, hp0, r0, s0⟩ := own_opt hc1
  obtain ⟨z1, z2⟩ := hc0
  rw [← h0] at r0 s0
  rw [← h1] at r1 s1
  rw [← h2] at r2 s2
  subst z1 z2 r0 r1 r2
  rw [Nat.zero_add] at s0
  subst s0
  subst s1
  exact ⟨s2, own_final hp0 hp1 hp2 k hk ht⟩
/-- which groups the pool names: 8 ways -/
def own_sel (p0 p1 p2 n g0 g1 g2 : Int32) : Prop := (p0 = 0 ∧ p1 = 0 ∧ p2 = 0 ∧ n = 0) ∨ (p0 = 1 ∧ p1 = 0 ∧ p2 = 0 ∧ n = 1 ∧ g0 = 0) ∨ (p0 = 0 ∧ p1 = 1 ∧ p2 = 0 ∧ n = 1 ∧ g0 = 1) ∨ (p0 = 0 ∧ p1 = 0 ∧ p2 = 1 ∧ n = 1 ∧ g0 = 2) ∨ (p0 = 1 ∧ p1 = 1 ∧ p2 = 0 ∧ n = 2 ∧ g0 = 0 ∧ g1 = 1) ∨ (p0 = 1 ∧ p1 = 0 ∧ p2 = 1 ∧ n = 2 ∧ g0 = 0 ∧ g1 = 2) ∨ (p0 = 0 ∧ p1 = 1 ∧ p2 = 1 ∧ n = 2 ∧ g0 = 1 ∧ g1 = 2) ∨ (p0 = 1 ∧ p1 = 1 ∧ p2 = 1 ∧ n = 3 ∧ g0 = 0 ∧ g1 = 1 ∧ g2 = 2)
/-- the pool's groups, the latest first: cost and members -/
def own_gl (cs : List Int64) (ms : List Int32) (n x0 x1 x2 : Int32) : List (Int × Nat) := ((([x0, x1, x2] : List Int32).take n.toNatClampNeg).map fun g => ((cs.getD g.toNatClampNeg 0).toInt, (ms.getD g.toNatClampNeg 0).toNatClampNeg)).reverse
theorem own_selgl {p0 p1 p2 n g0 g1 g2 : Int32} {c0 c1 c2 : Int64} {m0 m1 m2 : Int32} (h : own_sel p0 p1 p2 n g0 g1 g2) : own_gl [c0, c1, c2] [m0, m1, m2] n g0 g1 g2 = (if decide (p2 = 1) then [(c2.toInt, m2.toNatClampNeg)] else []) ++ ((if decide (p1 = 1) then [(c1.toInt, m1.toNatClampNeg)] else []) ++ ((if decide (p0 = 1) then [(c0.toInt, m0.toNatClampNeg)] else []) ++ [])) := by
  rcases h with ⟨rfl, rfl, rfl, rfl⟩ | ⟨rfl, rfl, rfl, rfl, rfl⟩ | ⟨rfl, rfl, rfl, rfl, rfl⟩ | ⟨rfl, rfl, rfl, rfl, rfl⟩ | ⟨rfl, rfl, rfl, rfl, rfl, rfl⟩ | ⟨rfl, rfl, rfl, rfl, rfl, rfl⟩ | ⟨rfl, rfl, rfl, rfl, rfl, rfl⟩ | ⟨rfl, rfl, rfl, rfl, rfl, rfl, rfl⟩ <;> first | rfl | decide | (simp [own_gl]; done)
def own_e (p m : Int32) : Int32 := if p = 0 then 0 else m
theorem own_selem {p0 p1 p2 n g0 g1 g2 m0 m1 m2 : Int32} (h : own_sel p0 p1 p2 n g0 g1 g2) : own_em n g0 g1 g2 m0 0 = (own_e p0 m0).toInt ∧ own_em n g0 g1 g2 m1 1 = (own_e p1 m1).toInt ∧ own_em n g0 g1 g2 m2 2 = (own_e p2 m2).toInt := by
  have a0 : (0 : Int32).toInt = 0 := by decide
  have a1 : (1 : Int32).toInt = 1 := by decide
  have a2 : (2 : Int32).toInt = 2 := by decide
  have a3 : (3 : Int32).toInt = 3 := by decide
  have b0 : (0 : Int32).toNatClampNeg = 0 := by decide
  have b1 : (1 : Int32).toNatClampNeg = 1 := by decide
  have b2 : (2 : Int32).toNatClampNeg = 2 := by decide
  have z10 : ¬ (1 : Int32) = 0 := by decide
  rcases h with ⟨rfl, rfl, rfl, rfl⟩ | ⟨rfl, rfl, rfl, rfl, rfl⟩ | ⟨rfl, rfl, rfl, rfl, rfl⟩ | ⟨rfl, rfl, rfl, rfl, rfl⟩ | ⟨rfl, rfl, rfl, rfl, rfl, rfl⟩ | ⟨rfl, rfl, rfl, rfl, rfl, rfl⟩ | ⟨rfl, rfl, rfl, rfl, rfl, rfl⟩ | ⟨rfl, rfl, rfl, rfl, rfl, rfl, rfl⟩ <;> simp [own_em, own_e, a0, a1, a2, a3, b0, b1, b2, z10]
theorem own_selx {p0 p1 p2 n g0 g1 g2 : Int32} (h : own_sel p0 p1 p2 n g0 g1 g2) : (0 ≤ n.toInt ∧ n.toInt ≤ 3) ∧ (0 < n.toInt → 0 ≤ g0.toInt ∧ g0.toInt ≤ 2) ∧ (1 < n.toInt → 0 ≤ g1.toInt ∧ g1.toInt ≤ 2) ∧ (2 < n.toInt → 0 ≤ g2.toInt ∧ g2.toInt ≤ 2) := by
  rcases h with ⟨rfl, rfl, rfl, rfl⟩ | ⟨rfl, rfl, rfl, rfl, rfl⟩ | ⟨rfl, rfl, rfl, rfl, rfl⟩ | ⟨rfl, rfl, rfl, rfl, rfl⟩ | ⟨rfl, rfl, rfl, rfl, rfl, rfl⟩ | ⟨rfl, rfl, rfl, rfl, rfl, rfl⟩ | ⟨rfl, rfl, rfl, rfl, rfl, rfl⟩ | ⟨rfl, rfl, rfl, rfl, rfl, rfl, rfl⟩ <;> (refine ⟨by decide, fun q => ?_, fun q => ?_, fun q => ?_⟩ <;> first | decide | exact absurd q (by decide))
theorem own_emc {n x0 x1 x2 y0 y1 y2 mb : Int32} {g : Nat} (h : (0 < n.toInt → y0 = x0) ∧ (1 < n.toInt → y1 = x1) ∧ (2 < n.toInt → y2 = x2)) : own_em n y0 y1 y2 mb g = own_em n x0 x1 x2 mb g := by
  unfold own_em
  have e : ((0 < n.toInt ∧ g = y0.toNatClampNeg) ∨ (1 < n.toInt ∧ g = y1.toNatClampNeg) ∨ (2 < n.toInt ∧ g = y2.toNatClampNeg)) ↔ ((0 < n.toInt ∧ g = x0.toNatClampNeg) ∨ (1 < n.toInt ∧ g = x1.toNatClampNeg) ∨ (2 < n.toInt ∧ g = x2.toNatClampNeg)) := by
    constructor
    · rintro (⟨a, b⟩ | ⟨a, b⟩ | ⟨a, b⟩)
      · exact Or.inl ⟨a, by rw [b, h.1 a]⟩
      · exact Or.inr (Or.inl ⟨a, by rw [b, h.2.1 a]⟩)
      · exact Or.inr (Or.inr ⟨a, by rw [b, h.2.2 a]⟩)
    · rintro (⟨a, b⟩ | ⟨a, b⟩ | ⟨a, b⟩)
      · exact Or.inl ⟨a, by rw [b, h.1 a]⟩
      · exact Or.inr (Or.inl ⟨a, by rw [b, h.2.1 a]⟩)
      · exact Or.inr (Or.inr ⟨a, by rw [b, h.2.2 a]⟩)
  by_cases q : (0 < n.toInt ∧ g = x0.toNatClampNeg) ∨ (1 < n.toInt ∧ g = x1.toNatClampNeg) ∨ (2 < n.toInt ∧ g = x2.toNatClampNeg)
  · rw [if_pos q, if_pos (e.mpr q)]
  · rw [if_neg q, if_neg (fun u => q (e.mp u))]
theorem own_em_le {n x0 x1 x2 mb : Int32} {g : Nat} (h : 1 ≤ mb.toInt ∧ mb.toInt ≤ 4) : 0 ≤ own_em n x0 x1 x2 mb g ∧ own_em n x0 x1 x2 mb g ≤ 4 := by
  unfold own_em
  split <;> omega
/-- the empty start: row 0 -/
theorem own_R0 {B : List Int64} {col : Nat} (h0 : B.getD 0 0 = 0) (h : ∀ j, 1 ≤ j → j ≤ col → B.getD j 0 = (9223372036854775807 : Int64)) : own_R B (fun _ => 0) 0 col ∧ own_bd (fun _ => 0) 0 := by
  refine ⟨fun i hi => ⟨fun u => ?_, fun u => h i (by omega) hi⟩, fun i hi => absurd hi (Nat.not_lt_zero i)⟩
  have e : i = 0 := by omega
  rw [e, h0]
  decide
theorem own_mstep {B : List Int64} {i : Int32} (h0 : 1 ≤ i.toInt) (h1 : i.toInt < 1000) (hl : i.toNatClampNeg < B.length) (hN : ∀ j, 1 ≤ j → j < i.toNatClampNeg → B.getD j 0 = (9223372036854775807 : Int64)) : ∀ j, 1 ≤ j → j < (i + (1 : Int32)).toNatClampNeg → (B.set i.toNatClampNeg (9223372036854775807 : Int64)).getD j 0 = (9223372036854775807 : Int64) := by
  have p := own_p1 (a := i) (by omega)
  have n1 := own_nat (j := i) (by omega)
  have n2 := own_nat (j := i + 1) (by omega)
  have e : (i + (1 : Int32)).toNatClampNeg = i.toNatClampNeg + 1 := by omega
  rw [e]
  intro j a hj
  rw [own_setg _ _ _ _ hl]
  by_cases u : i.toNatClampNeg = j
  · rw [if_pos u]
  · rw [if_neg u]
    exact hN j a (by omega)
def own_prc (ca : Int64) (a : Int32) (cb : Int64) (b : Int32) : Int32 := if ca < cb then 1 else if ca = cb then (if a < b then 1 else 0) else 0
def own_psn (cg : Int64) (g : Int32) (ca : Int64) (a : Int32) (cb : Int64) (b : Int32) : Int32 := if own_prc ca a cg g = (0 : Int32) then (if own_prc cb b cg g = (0 : Int32) then 0 else 1) else (if own_prc cb b cg g = (0 : Int32) then 1 else 2)
def own_ahd (cg : Int64) (g : Int32) (ca : Int64) (a ea : Int32) (cb : Int64) (b eb : Int32) : Int32 := if own_prc ca a cg g = (0 : Int32) then (if own_prc cb b cg g = (0 : Int32) then 0 else 0 + eb) else (if own_prc cb b cg g = (0 : Int32) then 0 + ea else (0 + ea) + eb)
def own_maxI (a b : Int32) : Int32 := if a < b then b else a
def own_minI (a b : Int32) : Int32 := if b < a then b else a
def own_maxJ (a b : Int64) : Int64 := if a < b then b else a
theorem own_prcA {a b : Int64} {i j : Int32} (h : i < j) : own_prc a i b j = if b < a then 0 else 1 := by
  unfold own_prc
  by_cases q : b < a
  · have t := own_ltL q
    rw [if_pos q, if_neg (fun u => by have := own_ltL u; omega), if_neg (fun u => by rw [u] at t; omega)]
  · have t := own_nltL q
    rw [if_neg q]
    by_cases u : a < b
    · rw [if_pos u]
    · have v := own_nltL u
      rw [if_neg u, if_pos (Int64.toInt_inj.mp (by omega)), if_pos h]
theorem own_prcB {a b : Int64} {i j : Int32} (h : i < j) : own_prc b j a i = if b < a then 1 else 0 := by
  unfold own_prc
  by_cases q : b < a
  · rw [if_pos q, if_pos q]
  · rw [if_neg q, if_neg q, if_neg (own_nlt (by have := own_lt0 h; omega))]
    split <;> rfl
theorem own_six (c0 c1 c2 : Int64) : (own_psn c0 0 c1 1 c2 2 = 0 ∧ own_psn c1 1 c0 0 c2 2 = 1 ∧ own_psn c2 2 c0 0 c1 1 = 2) ∨ (own_psn c0 0 c1 1 c2 2 = 0 ∧ own_psn c1 1 c0 0 c2 2 = 2 ∧ own_psn c2 2 c0 0 c1 1 = 1) ∨ (own_psn c0 0 c1 1 c2 2 = 1 ∧ own_psn c1 1 c0 0 c2 2 = 0 ∧ own_psn c2 2 c0 0 c1 1 = 2) ∨ (own_psn c0 0 c1 1 c2 2 = 1 ∧ own_psn c1 1 c0 0 c2 2 = 2 ∧ own_psn c2 2 c0 0 c1 1 = 0) ∨ (own_psn c0 0 c1 1 c2 2 = 2 ∧ own_psn c1 1 c0 0 c2 2 = 0 ∧ own_psn c2 2 c0 0 c1 1 = 1) ∨ (own_psn c0 0 c1 1 c2 2 = 2 ∧ own_psn c1 1 c0 0 c2 2 = 1 ∧ own_psn c2 2 c0 0 c1 1 = 0) := by
  unfold own_psn
  rw [own_prcB (a := c0) (b := c1) (i := 0) (j := 1) (by decide), own_prcB (a := c0) (b := c2) (i := 0) (j := 2) (by decide), own_prcB (a := c1) (b := c2) (i := 1) (j := 2) (by decide), own_prcA (a := c0) (b := c1) (i := 0) (j := 1) (by decide), own_prcA (a := c0) (b := c2) (i := 0) (j := 2) (by decide), own_prcA (a := c1) (b := c2) (i := 1) (j := 2) (by decide)]
  by_cases h1 : c1 < c0 <;> by_cases h2 : c2 < c0 <;> by_cases h3 : c2 < c1
  · simp only [if_pos h1, if_pos h2, if_pos h3]; decide
  · simp only [if_pos h1, if_pos h2, if_neg h3]; decide
  · exact absurd (own_ltL h3) (by have a := own_ltL h1; have b := own_nltL h2; omega)
  · simp only [if_pos h1, if_neg h2, if_neg h3]; decide
  · simp only [if_neg h1, if_pos h2, if_pos h3]; decide
  · exact absurd (own_ltL h2) (by have a := own_nltL h1; have b := own_nltL h3; omega)
  · simp only [if_neg h1, if_neg h2, if_pos h3]; decide
  · simp only [if_neg h1, if_neg h2, if_neg h3]; decide
theorem own_perms (u0 u1 u2 : Int32) (h : (u0 = 0 ∧ u1 = 1 ∧ u2 = 2) ∨ (u0 = 0 ∧ u1 = 2 ∧ u2 = 1) ∨ (u0 = 1 ∧ u1 = 0 ∧ u2 = 2) ∨ (u0 = 1 ∧ u1 = 2 ∧ u2 = 0) ∨ (u0 = 2 ∧ u1 = 0 ∧ u2 = 1) ∨ (u0 = 2 ∧ u1 = 1 ∧ u2 = 0)) : own_perm u0 u1 u2 := by
  rcases h with ⟨rfl, rfl, rfl⟩ | ⟨rfl, rfl, rfl⟩ | ⟨rfl, rfl, rfl⟩ | ⟨rfl, rfl, rfl⟩ | ⟨rfl, rfl, rfl⟩ | ⟨rfl, rfl, rfl⟩ <;> (unfold own_perm; decide)
theorem own_cb {x z : Int64} (h : z = x &&& (1099511627775 : Int64)) : 0 ≤ z.toInt ∧ z.toInt < 1099511627776 := by
  have a := c_maskL x 1099511627775 40 (by decide) (by decide)
  rw [← h] at a
  omega
theorem own_mbb {x z : Int32} (h : z = (x &&& (3 : Int32)) + (1 : Int32)) : 1 ≤ z.toInt ∧ z.toInt ≤ 4 := by
  have a := c_mask x 3 2 (by decide) (by decide)
  have b := own_p1 (a := x &&& 3) (by omega)
  rw [h, b]
  omega
theorem own_rmb {m z : Int64} {x : Int64} (hm : 0 ≤ m.toInt ∧ m.toInt < 1099511627776) (h : z = m + (x &&& (4398046511103 : Int64))) : 0 ≤ z.toInt ∧ z.toInt < 1152921504606846976 := by
  have a := c_maskL x 4398046511103 42 (by decide) (by decide)
  have b := c_ladd m (x &&& 4398046511103)
  have r := rng64 z
  rw [← h] at b
  omega
theorem own_mxb {a b : Int64} (ha : 0 ≤ a.toInt ∧ a.toInt < 1099511627776) (hb : 0 ≤ b.toInt ∧ b.toInt < 1099511627776) : 0 ≤ (own_maxJ a b).toInt ∧ (own_maxJ a b).toInt < 1099511627776 := by
  unfold own_maxJ
  split
  · exact hb
  · exact ha
theorem own_kb {x mo z : Int32} (h0 : 0 ≤ mo.toInt) (h1 : mo.toInt ≤ 12) (h : z = (x &&& (2147483647 : Int32)) % (mo + (1 : Int32))) : 0 ≤ z.toInt ∧ z.toInt ≤ mo.toInt := by
  have a := c_mask x 2147483647 31 (by decide) (by decide)
  have b := own_p1 (a := mo) (by omega)
  have c := (c_iremV (x &&& 2147483647) (mo + 1)).1 (by omega) (by omega)
  rw [← h] at c
  omega
theorem own_nz {mo : Int32} (h0 : 0 ≤ mo.toInt) (h1 : mo.toInt ≤ 12) : (mo + (1 : Int32)) ≠ 0 := fun q => by
  have b := own_p1 (a := mo) (by omega)
  rw [q] at b
  have e : (0 : Int32).toInt = 0 := by decide
  omega
theorem own_ahdv {cg ca cb : Int64} {g a b ea eb : Int32} (ha : 0 ≤ ea.toInt ∧ ea.toInt ≤ 4) (hb : 0 ≤ eb.toInt ∧ eb.toInt ≤ 4) : (own_ahd cg g ca a ea cb b eb).toInt = (if own_prc ca a cg g = (0 : Int32) then 0 else ea.toInt) + (if own_prc cb b cg g = (0 : Int32) then 0 else eb.toInt) := by
  have z : (0 : Int32).toInt = 0 := by decide
  have e1 : ((0 : Int32) + ea).toInt = ea.toInt := by rw [own_ad (by omega) (by omega)]; omega
  have e2 : ((0 : Int32) + eb).toInt = eb.toInt := by rw [own_ad (by omega) (by omega)]; omega
  have e3 : (((0 : Int32) + ea) + eb).toInt = ea.toInt + eb.toInt := by rw [own_ad (by omega) (by omega)]; omega
  unfold own_ahd
  by_cases h1 : own_prc ca a cg g = (0 : Int32)
  · by_cases h2 : own_prc cb b cg g = (0 : Int32)
    · rw [if_pos h1, if_pos h2, if_pos h1, if_pos h2]
      exact z
    · rw [if_pos h1, if_neg h2, if_pos h1, if_neg h2]
      omega
  · by_cases h2 : own_prc cb b cg g = (0 : Int32)
    · rw [if_neg h1, if_pos h2, if_neg h1, if_pos h2]
      omega
    · rw [if_neg h1, if_neg h2, if_neg h1, if_neg h2]
      omega
theorem own_tkv {k e a : Int32} (hk : 0 ≤ k.toInt ∧ k.toInt ≤ 12) (he : 0 ≤ e.toInt ∧ e.toInt ≤ 4) (ha : 0 ≤ a.toInt ∧ a.toInt ≤ 8) : ((own_minI e (own_maxI (0 : Int32) (k - a))).toInt64).toInt = ((min e.toNatClampNeg (k.toNatClampNeg - a.toNatClampNeg) : Nat) : Int) := by
  rw [c_i2l]
  have s : (k - a).toInt = k.toInt - a.toInt := own_sb (by omega) (by omega)
  have z : (0 : Int32).toInt = 0 := by decide
  have n1 := own_nat hk.1
  have n2 := own_nat he.1
  have n3 := own_nat ha.1
  unfold own_minI own_maxI
  by_cases h1 : (0 : Int32) < k - a
  · rw [if_pos h1]
    have q := own_lt0 h1
    by_cases h2 : k - a < e
    · rw [if_pos h2]
      have q2 := own_lt0 h2
      omega
    · rw [if_neg h2]
      have q2 := own_nlt' h2
      omega
  · rw [if_neg h1]
    have q := own_nlt' h1
    by_cases h2 : (0 : Int32) < e
    · rw [if_pos h2]
      omega
    · rw [if_neg h2]
      have q2 := own_nlt' h2
      omega
theorem own_sel01 {p0 p1 p2 n g0 g1 g2 : Int32} (h : own_sel p0 p1 p2 n g0 g1 g2) : (p0 = 0 ∨ p0 = 1) ∧ (p1 = 0 ∨ p1 = 1) ∧ (p2 = 0 ∨ p2 = 1) := by
  rcases h with ⟨rfl, rfl, rfl, rfl⟩ | ⟨rfl, rfl, rfl, rfl, rfl⟩ | ⟨rfl, rfl, rfl, rfl, rfl⟩ | ⟨rfl, rfl, rfl, rfl, rfl⟩ | ⟨rfl, rfl, rfl, rfl, rfl, rfl⟩ | ⟨rfl, rfl, rfl, rfl, rfl, rfl⟩ | ⟨rfl, rfl, rfl, rfl, rfl, rfl⟩ | ⟨rfl, rfl, rfl, rfl, rfl, rfl, rfl⟩ <;> decide
theorem own_ev {p m e : Int32} (hp : p = 0 ∨ p = 1) (he : e = own_e p m) (hm : 1 ≤ m.toInt ∧ m.toInt ≤ 4) : (0 ≤ e.toInt ∧ e.toInt ≤ 4) ∧ e.toNatClampNeg = if decide (p = 1) then m.toNatClampNeg else 0 := by
  rcases hp with rfl | rfl
  · have q : e = 0 := he
    rw [q]
    exact ⟨by decide, rfl⟩
  · have q : e = m := he
    rw [q]
    exact ⟨by omega, rfl⟩
theorem own_mul3 {c0 c1 c2 w0 w1 w2 : Int64} {n0 n1 n2 : Int} (h0 : w0.toInt = n0) (h1 : w1.toInt = n1) (h2 : w2.toInt = n2) (b0 : 0 ≤ n0 ∧ n0 ≤ 4) (b1 : 0 ≤ n1 ∧ n1 ≤ 4) (b2 : 0 ≤ n2 ∧ n2 ≤ 4) (k0 : 0 ≤ c0.toInt ∧ c0.toInt < 1099511627776) (k1 : 0 ≤ c1.toInt ∧ c1.toInt < 1099511627776) (k2 : 0 ≤ c2.toInt ∧ c2.toInt < 1099511627776) :
    (((c0 * w0) + (c1 * w1)) + (c2 * w2)).toInt = n0 * c0.toInt + n1 * c1.toInt + n2 * c2.toInt := by
  have one : ∀ {c w : Int64} {n : Int}, w.toInt = n → 0 ≤ n ∧ n ≤ 4 → 0 ≤ c.toInt ∧ c.toInt < 1099511627776 → (c * w).toInt = n * c.toInt ∧ 0 ≤ n * c.toInt ∧ n * c.toInt ≤ 4398046511104 := by
    intro c w n hw hn hc
    have m := c_lmul c w
    have r := rng64 (c * w)
    rw [hw, Int.mul_comm] at m
    have p0 : 0 ≤ n * c.toInt := Int.mul_nonneg hn.1 hc.1
    have q1 : n * c.toInt ≤ n * 1099511627776 := Int.mul_le_mul_of_nonneg_left (by omega) hn.1
    refine ⟨by omega, p0, by omega⟩
  obtain ⟨a0, a1, a2⟩ := one h0 b0 k0
  obtain ⟨d0, d1, d2⟩ := one h1 b1 k1
  obtain ⟨f0, f1, f2⟩ := one h2 b2 k2
  have s1 := c_ladd (c0 * w0) (c1 * w1)
  have r1 := rng64 ((c0 * w0) + (c1 * w1))
  have s2 := c_ladd ((c0 * w0) + (c1 * w1)) (c2 * w2)
  have r2 := rng64 (((c0 * w0) + (c1 * w1)) + (c2 * w2))
  omega
theorem own_end {B : List Int64} {el : Nat → Int} {t : Nat} {c0 c1 c2 : Int64} {m0 m1 m2 p0 p1 p2 n g0 g1 g2 mo kk e0 e1 e2 : Int32} (hC0 : 0 ≤ c0.toInt ∧ c0.toInt < 1099511627776) (hC1 : 0 ≤ c1.toInt ∧ c1.toInt < 1099511627776) (hC2 : 0 ≤ c2.toInt ∧ c2.toInt < 1099511627776) (hM0 : 1 ≤ m0.toInt ∧ m0.toInt ≤ 4) (hM1 : 1 ≤ m1.toInt ∧ m1.toInt ≤ 4) (hM2 : 1 ≤ m2.toInt ∧ m2.toInt ≤ 4) (hs : own_sel p0 p1 p2 n g0 g1 g2) (hR : own_R B el t mo.toNatClampNeg) (hch : own_chain mo.toNatClampNeg (own_gl [c0, c1, c2] [m0, m1, m2] n g0 g1 g2) el t) (hm0 : 0 ≤ mo.toInt) (hm1 : mo.toInt ≤ 12) (hm : mo.toInt ≤ own_em n g0 g1 g2 m0 0 + own_em n g0 g1 g2 m1 1 + own_em n g0 g1 g2 m2 2) (hk : 0 ≤ kk.toInt ∧ kk.toInt ≤ mo.toInt) (he0 : e0 = own_e p0 m0) (he1 : e1 = own_e p1 m1) (he2 : e2 = own_e p2 m2) :
    B.getD kk.toNatClampNeg 0 = (((c0 * (own_minI e0 (own_maxI (0 : Int32) (kk - own_ahd c0 0 c1 1 e1 c2 2 e2))).toInt64) + (c1 * (own_minI e1 (own_maxI (0 : Int32) (kk - own_ahd c1 1 c0 0 e0 c2 2 e2))).toInt64)) + (c2 * (own_minI e2 (own_maxI (0 : Int32) (kk - own_ahd c2 2 c0 0 e0 c1 1 e1))).toInt64)) := by
  obtain ⟨q0, q1, q2⟩ := own_sel01 hs
  obtain ⟨v0, u0⟩ := own_ev q0 he0 hM0
  obtain ⟨v1, u1⟩ := own_ev q1 he1 hM1
  obtain ⟨v2, u2⟩ := own_ev q2 he2 hM2
  obtain ⟨s0, s1, s2⟩ := own_selem (m0 := m0) (m1 := m1) (m2 := m2) hs
  rw [s0, s1, s2, ← he0, ← he1, ← he2] at hm
  rw [own_selgl hs] at hch
  have n0 := own_nat v0.1
  have n1 := own_nat v1.1
  have n2 := own_nat v2.1
  have nk := own_nat hk.1
  have nm := own_nat hm0
  obtain ⟨ht, hp⟩ := own_law (k := kk.toNatClampNeg) hch (by omega) e0.toNatClampNeg e1.toNatClampNeg e2.toNatClampNeg u0 u1 u2 (by omega)
  have r := (hR kk.toNatClampNeg (by omega)).1 (by omega)
  have a0 := own_ahdv (cg := c0) (g := 0) (ca := c1) (a := 1) (cb := c2) (b := 2) v1 v2
  have a1 := own_ahdv (cg := c1) (g := 1) (ca := c0) (a := 0) (cb := c2) (b := 2) v0 v2
  have a2 := own_ahdv (cg := c2) (g := 2) (ca := c0) (a := 0) (cb := c1) (b := 1) v0 v1
  rw [own_prcB (a := c0) (b := c1) (i := 0) (j := 1) (by decide), own_prcB (a := c0) (b := c2) (i := 0) (j := 2) (by decide)] at a0
  rw [own_prcA (a := c0) (b := c1) (i := 0) (j := 1) (by decide), own_prcB (a := c1) (b := c2) (i := 1) (j := 2) (by decide)] at a1
  rw [own_prcA (a := c0) (b := c2) (i := 0) (j := 2) (by decide), own_prcA (a := c1) (b := c2) (i := 1) (j := 2) (by decide)] at a2
  have zz : ¬ (1 : Int32) = 0 := by decide
  have x0 : (own_ahd c0 0 c1 1 e1 c2 2 e2).toInt = (((if c1.toInt < c0.toInt then e1.toNatClampNeg else 0) + (if c2.toInt < c0.toInt then e2.toNatClampNeg else 0) : Nat) : Int) := by
    rw [a0]
    by_cases h1 : c1 < c0
    · by_cases h2 : c2 < c0
      · rw [if_pos h1, if_neg zz, if_pos h2, if_neg zz, if_pos (own_ltL h1), if_pos (own_ltL h2)]; omega
      · rw [if_pos h1, if_neg zz, if_neg h2, if_pos rfl, if_pos (own_ltL h1), if_neg (by have := own_nltL h2; omega)]; omega
    · by_cases h2 : c2 < c0
      · rw [if_neg h1, if_pos rfl, if_pos h2, if_neg zz, if_neg (by have := own_nltL h1; omega), if_pos (own_ltL h2)]; omega
      · rw [if_neg h1, if_pos rfl, if_neg h2, if_pos rfl, if_neg (by have := own_nltL h1; omega), if_neg (by have := own_nltL h2; omega)]; omega
  have x1 : (own_ahd c1 1 c0 0 e0 c2 2 e2).toInt = (((if c0.toInt ≤ c1.toInt then e0.toNatClampNeg else 0) + (if c2.toInt < c1.toInt then e2.toNatClampNeg else 0) : Nat) : Int) := by
    rw [a1]
    by_cases h1 : c1 < c0
    · by_cases h2 : c2 < c1
      · rw [if_pos h1, if_pos rfl, if_pos h2, if_neg zz, if_neg (by have := own_ltL h1; omega), if_pos (own_ltL h2)]; omega
      · rw [if_pos h1, if_pos rfl, if_neg h2, if_pos rfl, if_neg (by have := own_ltL h1; omega), if_neg (by have := own_nltL h2; omega)]; omega
    · by_cases h2 : c2 < c1
      · rw [if_neg h1, if_neg zz, if_pos h2, if_neg zz, if_pos (own_nltL h1), if_pos (own_ltL h2)]; omega
      · rw [if_neg h1, if_neg zz, if_neg h2, if_pos rfl, if_pos (own_nltL h1), if_neg (by have := own_nltL h2; omega)]; omega
  have x2 : (own_ahd c2 2 c0 0 e0 c1 1 e1).toInt = (((if c0.toInt ≤ c2.toInt then e0.toNatClampNeg else 0) + (if c1.toInt ≤ c2.toInt then e1.toNatClampNeg else 0) : Nat) : Int) := by
    rw [a2]
    by_cases h1 : c2 < c0
    · by_cases h2 : c2 < c1
      · rw [if_pos h1, if_pos rfl, if_pos h2, if_pos rfl, if_neg (by have := own_ltL h1; omega), if_neg (by have := own_ltL h2; omega)]; omega
      · rw [if_pos h1, if_pos rfl, if_neg h2, if_neg zz, if_neg (by have := own_ltL h1; omega), if_pos (own_nltL h2)]; omega
    · by_cases h2 : c2 < c1
      · rw [if_neg h1, if_neg zz, if_pos h2, if_pos rfl, if_pos (own_nltL h1), if_neg (by have := own_ltL h2; omega)]; omega
      · rw [if_neg h1, if_neg zz, if_neg h2, if_neg zz, if_pos (own_nltL h1), if_pos (own_nltL h2)]; omega
  have bnd : ∀ {P Q : Prop} [Decidable P] [Decidable Q] {a b : Nat}, a ≤ 4 → b ≤ 4 → (if P then a else 0) + (if Q then b else 0) ≤ 8 := by
    intro P Q _ _ a b ha hb
    split <;> split <;> omega
  have y0 := bnd (P := c1.toInt < c0.toInt) (Q := c2.toInt < c0.toInt) (a := e1.toNatClampNeg) (b := e2.toNatClampNeg) (by omega) (by omega)
  have y1 := bnd (P := c0.toInt ≤ c1.toInt) (Q := c2.toInt < c1.toInt) (a := e0.toNatClampNeg) (b := e2.toNatClampNeg) (by omega) (by omega)
  have y2 := bnd (P := c0.toInt ≤ c2.toInt) (Q := c1.toInt ≤ c2.toInt) (a := e0.toNatClampNeg) (b := e1.toNatClampNeg) (by omega) (by omega)
  have w0 := own_tkv (k := kk) (e := e0) (a := own_ahd c0 0 c1 1 e1 c2 2 e2) (by omega) v0 (by omega)
  have w1 := own_tkv (k := kk) (e := e1) (a := own_ahd c1 1 c0 0 e0 c2 2 e2) (by omega) v1 (by omega)
  have w2 := own_tkv (k := kk) (e := e2) (a := own_ahd c2 2 c0 0 e0 c1 1 e1) (by omega) v2 (by omega)
  have z0 := own_nat (j := own_ahd c0 0 c1 1 e1 c2 2 e2) (by omega)
  have z1 := own_nat (j := own_ahd c1 1 c0 0 e0 c2 2 e2) (by omega)
  have z2 := own_nat (j := own_ahd c2 2 c0 0 e0 c1 1 e1) (by omega)
  have i0 : (own_ahd c0 0 c1 1 e1 c2 2 e2).toNatClampNeg = (if c1.toInt < c0.toInt then e1.toNatClampNeg else 0) + (if c2.toInt < c0.toInt then e2.toNatClampNeg else 0) := by omega
  have i1 : (own_ahd c1 1 c0 0 e0 c2 2 e2).toNatClampNeg = (if c0.toInt ≤ c1.toInt then e0.toNatClampNeg else 0) + (if c2.toInt < c1.toInt then e2.toNatClampNeg else 0) := by omega
  have i2 : (own_ahd c2 2 c0 0 e0 c1 1 e1).toNatClampNeg = (if c0.toInt ≤ c2.toInt then e0.toNatClampNeg else 0) + (if c1.toInt ≤ c2.toInt then e1.toNatClampNeg else 0) := by omega
  rw [i0] at w0
  rw [i1] at w1
  rw [i2] at w2
  have fin := own_mul3 w0 w1 w2 (by omega) (by omega) (by omega) hC0 hC1 hC2
  exact Int64.toInt_inj.mp (by rw [r, hp, fin])
theorem d2_0 : decode method_3_code 0 = .ok (.lload_n 0, 1) := by decide +kernel
theorem d2_1 : decode method_3_code 1 = .ok (.lload_n 3, 1) := by decide +kernel
theorem d2_2 : decode method_3_code 2 = .ok (.lcmp, 1) := by decide +kernel
theorem d2_3 : decode method_3_code 3 = .ok (.ifCond .lt 15, 3) := by decide +kernel
theorem d2_18 : decode method_3_code 18 = .ok (.iconst 1, 1) := by decide +kernel
theorem d2_19 : decode method_3_code 19 = .ok (.goto 4, 3) := by decide +kernel
theorem d2_23 : decode method_3_code 23 = .ok (.ireturn, 1) := by decide +kernel
theorem d2_6 : decode method_3_code 6 = .ok (.lload_n 0, 1) := by decide +kernel
theorem d2_7 : decode method_3_code 7 = .ok (.lload_n 3, 1) := by decide +kernel
theorem d2_8 : decode method_3_code 8 = .ok (.lcmp, 1) := by decide +kernel
theorem d2_9 : decode method_3_code 9 = .ok (.ifCond .ne 13, 3) := by decide +kernel
theorem d2_12 : decode method_3_code 12 = .ok (.iload_n 2, 1) := by decide +kernel
theorem d2_13 : decode method_3_code 13 = .ok (.iload 5, 2) := by decide +kernel
theorem d2_15 : decode method_3_code 15 = .ok (.if_icmp .ge 7, 3) := by decide +kernel
theorem d2_22 : decode method_3_code 22 = .ok (.iconst 0, 1) := by decide +kernel
theorem pn_CompletionBoundsCheapestPinLaw : plainName "com/example/errantry/errantry/staff/CompletionBoundsCheapestPinLaw" = true := by first | (simp [plainName, overriddenIn]; done) | decide +kernel
theorem ef_rm2 (m : MethodId) (x0 : Int64) (x1 : Int32) (x2 : Int64) (x3 : Int32) : entryFrame m #[(.long x0), (.int x1), (.long x2), (.int x3)] 6 = mkF m 0 #[.val (.long x0), .second, .val (.int x1), .val (.long x2), .second, .val (.int x3)] [] := by first | (simp [entryFrame, mkF, argsToLocals, Value.category]; done) | rfl
def Q2 (Z : State) (ca : Int64) (ia : Int32) (cb : Int64) (ib : Int32) (h0 : Heap) (n0 : Nat) (v : Option Value) (h : Heap) (L : List Loc) : Prop := v = some (.int (own_prc ca ia cb ib)) ∧ Fr n0 L ∧ h = h0
set_option maxRecDepth 65536 in
set_option maxHeartbeats 40000000 in
theorem rm2 (l : Launch) (Z : State) (a0 : Array Value) (hw : ∀ d ∈ tables_1, d.before a0 Z = true) (ws : List Jvm.Cond) (ca : Int64) (ia : Int32) (cb : Int64) (ib : Int32) (h0 : Heap) (n0 : Nat) (O0 : Old Z n0 h0) :
    MetFree l (⟨"com/example/errantry/errantry/staff/CompletionBoundsCheapestPinLaw", "precedes", "(JIJI)Z"⟩ : MethodName) (head1 (Jvm.Cond.code (⟨"com/example/errantry/errantry/staff/CompletionBoundsCheapestPinLaw", "precedes", "(JIJI)Z"⟩ : MethodName) method_3_code 6 (some .boolean) :: ws) ({ frames := 0, cells := 0, slots := 0, locals := 0 } : Room)) (fun a U => a = #[(.long ca), (.int ia), (.long cb), (.int ib)] ∧ Z.Warmed39 U.vm ∧ U.heap = h0) (fun _ _ _ _ _ => True) (fun _ U o U' => ∃ v L, o = .returned v ∧ Q2 Z ca ia cb ib h0 n0 v U'.heap L ∧ FrameEnd U o U' L ({ frames := 0, cells := 0, slots := 0, locals := 0 } : Room).cells ({ frames := 0, cells := 0, slots := 0, locals := 0 } : Room).slots) := by
  refine MetFree.of_bodySF (plainFor_of_name pn_CompletionBoundsCheapestPinLaw) hisR ?_
  intro p e s m args below meth c s₁ Bd hml0 hP hK
  obtain ⟨rfl, hZ, hh⟩ := hP
  have hx := Bd.exec
  have hby := Bd.bytes
  have hlk : meth.locks = false := BodyLoose.notSynchronized Bd
  have hml : c.maxLocals = 6 := hml0
  have hown : s.vm.findClass "com/example/errantry/errantry/staff/CompletionBoundsCheapestPinLaw" = some m.cls := findClass_of_methodNamed Bd.named
  have hnm := (name_of_methodNamed Bd.named Bd.method).1
  have X0 : Stand p l e ({ frames := 0, cells := 0, slots := 0, locals := 0 } : Room) s m #[(.long ca), (.int ia), (.long cb), (.int ib)] below meth c s₁ [] 0 0 := Stand.of_body Bd
  have e0 : s₁.heap = h0 := by rw [← hh, Bd.state]; rfl
  have N0 := Fr.nil n0
  show Goes p e below s (Q2 Z ca ia cb ib h0 n0) ({ frames := 0, cells := 0, slots := 0, locals := 0 } : Room).cells ({ frames := 0, cells := 0, slots := 0, locals := 0 } : Room).slots (s₁.setTop (entryFrame m #[(.long ca), (.int ia), (.long cb), (.int ib)] 6))
  refine Goes.enter (g' := (mkF m 0 #[.val (.long ca), .second, .val (.int ia), .val (.long cb), .second, .val (.int ib)] [])) (ef_rm2 m ca ia cb ib) ?_
  refine Goes.step (fun _ k => pw_lloadN X0.here hx (hb hby d2_0) rfl _ (pw_lloadN X0.here hx (hb hby d2_1) rfl _ k)) ?_
  refine Goes.step (B := s₁.setTop (mkF m 3 #[.val (.long ca), .second, .val (.int ia), .val (.long cb), .second, .val (.int ib)] [(.int (lcmpW ca cb))])) (fun _ k => XS.lcmp X0.here hx rfl (hb hby d2_2) rfl k) ?_
  by_cases hc3_0 : ca < cb
  · refine Goes.step (fun _ k => pw_ifYes X0.here hx (pc' := 18) (hb hby d2_3) ((if0 _ _).trans (tlt ((lw_lt _ _).mpr hc3_0)).1) (by decide) (by decide) _ (pw_iconst X0.here hx (v := (1 : Int32)) (hb hby d2_18) rfl _ (pw_goto X0.here hx (pc' := 23) (hb hby d2_19) (by decide) (by decide) _ k))) ?_
    exact Goes.retN X0 hx e0 (t := .boolean) Bd.returns (by simp) hlk (hb hby d2_23) (by decide) (by decide) (⟨(by unfold own_prc; rw [if_pos hc3_0]; try rfl), N0, rfl⟩)
  · refine Goes.step (fun _ k => pw_ifNo X0.here hx (hb hby d2_3) ((if0 _ _).trans (flt (fun q => hc3_0 ((lw_lt _ _).mp q))).1) _ (pw_lloadN X0.here hx (hb hby d2_6) rfl _ (pw_lloadN X0.here hx (hb hby d2_7) rfl _ k))) ?_
    refine Goes.step (B := s₁.setTop (mkF m 9 #[.val (.long ca), .second, .val (.int ia), .val (.long cb), .second, .val (.int ib)] [(.int (lcmpW ca cb))])) (fun _ k => XS.lcmp X0.here hx rfl (hb hby d2_8) rfl k) ?_
    by_cases hc9_1 : ca = cb
    · refine Goes.step (fun _ k => pw_ifNo X0.here hx (hb hby d2_9) ((if0 _ _).trans (teq ((lw_eq _ _).mpr hc9_1)).2) _ (pw_iloadN X0.here hx (hb hby d2_12) rfl _ (pw_iload X0.here hx (hb hby d2_13) rfl _ k))) ?_
      by_cases hc15_2 : ia < ib
      · refine Goes.step (fun _ k => pw_icmpNo X0.here hx (hb hby d2_15) (tlt hc15_2).2.1 _ (pw_iconst X0.here hx (v := (1 : Int32)) (hb hby d2_18) rfl _ (pw_goto X0.here hx (pc' := 23) (hb hby d2_19) (by decide) (by decide) _ k))) ?_
        exact Goes.retN X0 hx e0 (t := .boolean) Bd.returns (by simp) hlk (hb hby d2_23) (by decide) (by decide) (⟨(by unfold own_prc; rw [if_neg hc3_0, if_pos hc9_1, if_pos hc15_2]; try rfl), N0, rfl⟩)
      · refine Goes.step (fun _ k => pw_icmpYes X0.here hx (pc' := 22) (hb hby d2_15) (flt hc15_2).2.1 (by decide) (by decide) _ (pw_iconst X0.here hx (v := (0 : Int32)) (hb hby d2_22) rfl _ k)) ?_
        exact Goes.retN X0 hx e0 (t := .boolean) Bd.returns (by simp) hlk (hb hby d2_23) (by decide) (by decide) (⟨(by unfold own_prc; rw [if_neg hc3_0, if_pos hc9_1, if_neg hc15_2]; try rfl), N0, rfl⟩)
    · refine Goes.step (fun _ k => pw_ifYes X0.here hx (pc' := 22) (hb hby d2_9) ((if0 _ _).trans (feq (fun q => hc9_1 ((lw_eq _ _).mp q))).2) (by decide) (by decide) _ (pw_iconst X0.here hx (v := (0 : Int32)) (hb hby d2_22) rfl _ k)) ?_
      exact Goes.retN X0 hx e0 (t := .boolean) Bd.returns (by simp) hlk (hb hby d2_23) (by decide) (by decide) (⟨(by unfold own_prc; rw [if_neg hc3_0, if_neg hc9_1]; try rfl), N0, rfl⟩)
theorem d1_0 : decode method_4_code 0 = .ok (.iconst 0, 1) := by decide +kernel
theorem d1_1 : decode method_4_code 1 = .ok (.istore 9, 2) := by decide +kernel
theorem d1_3 : decode method_4_code 3 = .ok (.lload_n 3, 1) := by decide +kernel
theorem d1_4 : decode method_4_code 4 = .ok (.iload 5, 2) := by decide +kernel
theorem d1_6 : decode method_4_code 6 = .ok (.lload_n 0, 1) := by decide +kernel
theorem d1_7 : decode method_4_code 7 = .ok (.iload_n 2, 1) := by decide +kernel
theorem d1_8 : decode method_4_code 8 = .ok (.invokestatic 49, 3) := by decide +kernel
theorem own_w7 {Z : State} {a0 : Array Value} (hw : ∀ d ∈ tables_1, d.before a0 Z = true) : (Jvm.Cond.methodLink "com/example/errantry/errantry/staff/CompletionBoundsCheapestPinLaw" (49 : Nat) ({ cls := "com/example/errantry/errantry/staff/CompletionBoundsCheapestPinLaw", name := "precedes", desc := "(JIJI)Z" } : Jvm.MethodName)).before a0 Z = true := hw _ (List.mem_of_getElem? (i := 7) rfl)
theorem own_w9 {Z : State} {a0 : Array Value} (hw : ∀ d ∈ tables_1, d.before a0 Z = true) : (Jvm.Cond.code ({ cls := "com/example/errantry/errantry/staff/CompletionBoundsCheapestPinLaw", name := "precedes", desc := "(JIJI)Z" } : Jvm.MethodName) method_3_code (6 : Nat) (Option.some Jvm.ClassFile.FieldType.boolean)).before a0 Z = true := hw _ (List.mem_of_getElem? (i := 9) rfl)
theorem own_w5 {Z : State} {a0 : Array Value} (hw : ∀ d ∈ tables_1, d.before a0 Z = true) : (Jvm.Cond.initialized "com/example/errantry/errantry/staff/CompletionBoundsCheapestPinLaw").before a0 Z = true := hw _ (List.mem_of_getElem? (i := 5) rfl)
theorem pd_0 : parseMethodDescriptor "(JIJI)Z" = some ⟨[.long, .int, .long, .int], some .boolean⟩ := by decide +kernel
theorem own_w8 {Z : State} {a0 : Array Value} (hw : ∀ d ∈ tables_1, d.before a0 Z = true) : (Jvm.Cond.static ({ cls := "com/example/errantry/errantry/staff/CompletionBoundsCheapestPinLaw", name := "precedes", desc := "(JIJI)Z" } : Jvm.MethodName)).before a0 Z = true := hw _ (List.mem_of_getElem? (i := 8) rfl)
theorem d1_11 : decode method_4_code 11 = .ok (.ifCond .eq 6, 3) := by decide +kernel
theorem d1_17 : decode method_4_code 17 = .ok (.lload 6, 2) := by decide +kernel
theorem d1_19 : decode method_4_code 19 = .ok (.iload 8, 2) := by decide +kernel
theorem d1_21 : decode method_4_code 21 = .ok (.lload_n 0, 1) := by decide +kernel
theorem d1_22 : decode method_4_code 22 = .ok (.iload_n 2, 1) := by decide +kernel
theorem d1_23 : decode method_4_code 23 = .ok (.invokestatic 49, 3) := by decide +kernel
theorem d1_26 : decode method_4_code 26 = .ok (.ifCond .eq 6, 3) := by decide +kernel
theorem d1_32 : decode method_4_code 32 = .ok (.iload 9, 2) := by decide +kernel
theorem d1_34 : decode method_4_code 34 = .ok (.ireturn, 1) := by decide +kernel
theorem d1_29 : decode method_4_code 29 = .ok (.iinc 9 1, 3) := by decide +kernel
theorem d1_14 : decode method_4_code 14 = .ok (.iinc 9 1, 3) := by decide +kernel
theorem ef_rm1 (m : MethodId) (x0 : Int64) (x1 : Int32) (x2 : Int64) (x3 : Int32) (x4 : Int64) (x5 : Int32) : entryFrame m #[(.long x0), (.int x1), (.long x2), (.int x3), (.long x4), (.int x5)] 10 = mkF m 0 #[.val (.long x0), .second, .val (.int x1), .val (.long x2), .second, .val (.int x3), .val (.long x4), .second, .val (.int x5), .unset] [] := by first | (simp [entryFrame, mkF, argsToLocals, Value.category]; done) | rfl
def Q1 (Z : State) (cg : Int64) (ig : Int32) (ca : Int64) (ia : Int32) (cb : Int64) (ib : Int32) (h0 : Heap) (n0 : Nat) (v : Option Value) (h : Heap) (L : List Loc) : Prop := v = some (.int (own_psn cg ig ca ia cb ib)) ∧ Fr n0 L ∧ h = h0
set_option maxRecDepth 65536 in
set_option maxHeartbeats 40000000 in
theorem rm1 (l : Launch) (Z : State) (a0 : Array Value) (hw : ∀ d ∈ tables_1, d.before a0 Z = true) (ws : List Jvm.Cond) (cg : Int64) (ig : Int32) (ca : Int64) (ia : Int32) (cb : Int64) (ib : Int32) (h0 : Heap) (n0 : Nat) (O0 : Old Z n0 h0) :
    MetFree l (⟨"com/example/errantry/errantry/staff/CompletionBoundsCheapestPinLaw", "position", "(JIJIJI)I"⟩ : MethodName) (head1 (Jvm.Cond.code (⟨"com/example/errantry/errantry/staff/CompletionBoundsCheapestPinLaw", "position", "(JIJIJI)I"⟩ : MethodName) method_4_code 10 (some .int) :: ws) ({ frames := 1, cells := 0, slots := 0, locals := 17 } : Room)) (fun a U => a = #[(.long cg), (.int ig), (.long ca), (.int ia), (.long cb), (.int ib)] ∧ Z.Warmed39 U.vm ∧ U.heap = h0) (fun _ _ _ _ _ => True) (fun _ U o U' => ∃ v L, o = .returned v ∧ Q1 Z cg ig ca ia cb ib h0 n0 v U'.heap L ∧ FrameEnd U o U' L ({ frames := 1, cells := 0, slots := 0, locals := 17 } : Room).cells ({ frames := 1, cells := 0, slots := 0, locals := 17 } : Room).slots) := by
  refine MetFree.of_bodySF (plainFor_of_name pn_CompletionBoundsCheapestPinLaw) hisR ?_
  intro p e s m args below meth c s₁ Bd hml0 hP hK
  obtain ⟨rfl, hZ, hh⟩ := hP
  have hx := Bd.exec
  have hby := Bd.bytes
  have hlk : meth.locks = false := BodyLoose.notSynchronized Bd
  have hml : c.maxLocals = 10 := hml0
  have hown : s.vm.findClass "com/example/errantry/errantry/staff/CompletionBoundsCheapestPinLaw" = some m.cls := findClass_of_methodNamed Bd.named
  have hnm := (name_of_methodNamed Bd.named Bd.method).1
  have X0 : Stand p l e ({ frames := 1, cells := 0, slots := 0, locals := 17 } : Room) s m #[(.long cg), (.int ig), (.long ca), (.int ia), (.long cb), (.int ib)] below meth c s₁ [] 0 0 := Stand.of_body Bd
  have e0 : s₁.heap = h0 := by rw [← hh, Bd.state]; rfl
  have N0 := Fr.nil n0
  show Goes p e below s (Q1 Z cg ig ca ia cb ib h0 n0) ({ frames := 1, cells := 0, slots := 0, locals := 17 } : Room).cells ({ frames := 1, cells := 0, slots := 0, locals := 17 } : Room).slots (s₁.setTop (entryFrame m #[(.long cg), (.int ig), (.long ca), (.int ia), (.long cb), (.int ib)] 10))
  refine Goes.enter (g' := (mkF m 0 #[.val (.long cg), .second, .val (.int ig), .val (.long ca), .second, .val (.int ia), .val (.long cb), .second, .val (.int ib), .unset] [])) (ef_rm1 m cg ig ca ia cb ib) ?_
  refine Goes.step (fun _ k => pw_iconst X0.here hx (v := (0 : Int32)) (hb hby d1_0) rfl _ (pw_istore X0.here hx (l' := #[.val (.long cg), .second, .val (.int ig), .val (.long ca), .second, .val (.int ia), .val (.long cb), .second, .val (.int ib), .val (.int 0)]) (hb hby d1_1) rfl _ (pw_lloadN X0.here hx (hb hby d1_3) rfl _ (pw_iload X0.here hx (hb hby d1_4) rfl _ (pw_lloadN X0.here hx (hb hby d1_6) rfl _ (pw_iloadN X0.here hx (hb hby d1_7) rfl _ k)))))) ?_
  obtain ⟨_, _, ⟨T1, L1, k1, n1⟩, -, X1, ⟨Lc1, hQ1, l1, y1, z1⟩, st1⟩ := Jvm.LawKit.callS X0 hx (y := (⟨"com/example/errantry/errantry/staff/CompletionBoundsCheapestPinLaw", "precedes", "(JIJI)Z"⟩ : MethodName)) hown (mvT hZ (own_w7 hw)) (mvT hZ (own_w8 hw)) (mvT hZ (own_w5 hw)) (mvT hZ (own_w9 hw)) (by decide) (backOf (W := 0) (rm2 l Z a0 hw [] ca ia cg ig h0 n0 O0 ) hZ (own_w9 hw) (own_w5 hw) (by decide) (by decide)) (g := (mkF m 8 #[.val (.long cg), .second, .val (.int ig), .val (.long ca), .second, .val (.int ia), .val (.long cb), .second, .val (.int ib), .val (.int 0)] [(.int ig), (.long cg), (.int ia), (.long ca)])) rfl (by rw [hml]; rfl) (argsL := [(.long ca), (.int ia), (.long cg), (.int ig)]) (rest := []) (lenOf pd_0 rfl) rfl (by show 2 * 0 + _ ≤ _; exact Nat.le_of_eq rfl) (hb hby d1_8) (fun _ _ => ⟨rfl, e0, (by decide : 0 + 0 ≤ _), (by decide : 0 + 0 ≤ _)⟩)
  dsimp only [Pt.U, Pt.locs, Pt.cells, Pt.slots] at X1 l1 y1 z1 st1 hQ1
  subst l1 y1 z1
  obtain ⟨rfl, Nq1, eh1⟩ := hQ1
  have N1 := Fr.app N0 Nq1
  refine Goes.step (B := T1.setTop (mkF m 11 #[.val (.long cg), .second, .val (.int ig), .val (.long ca), .second, .val (.int ia), .val (.long cb), .second, .val (.int ib), .val (.int 0)] [(.int (own_prc ca ia cg ig))])) st1 ?_
  by_cases hc11_1 : (own_prc ca ia cg ig) = (0 : Int32)
  · refine Goes.step (fun _ k => pw_ifYes X1.here hx (pc' := 17) (hb hby d1_11) ((if0 _ _).trans (teq hc11_1).1) (by decide) (by decide) _ (pw_lload X1.here hx (hb hby d1_17) rfl _ (pw_iload X1.here hx (hb hby d1_19) rfl _ (pw_lloadN X1.here hx (hb hby d1_21) rfl _ (pw_iloadN X1.here hx (hb hby d1_22) rfl _ k))))) ?_
    obtain ⟨_, _, ⟨T3, L3, k3, n3⟩, -, X3, ⟨Lc3, hQ3, l3, y3, z3⟩, st3⟩ := Jvm.LawKit.callS X1 hx (y := (⟨"com/example/errantry/errantry/staff/CompletionBoundsCheapestPinLaw", "precedes", "(JIJI)Z"⟩ : MethodName)) hown (mvT hZ (own_w7 hw)) (mvT hZ (own_w8 hw)) (mvT hZ (own_w5 hw)) (mvT hZ (own_w9 hw)) (by decide) (backOf (W := 0) (rm2 l Z a0 hw [] cb ib cg ig h0 n0 O0 ) hZ (own_w9 hw) (own_w5 hw) (by decide) (by decide)) (g := (mkF m 23 #[.val (.long cg), .second, .val (.int ig), .val (.long ca), .second, .val (.int ia), .val (.long cb), .second, .val (.int ib), .val (.int 0)] [(.int ig), (.long cg), (.int ib), (.long cb)])) rfl (by rw [hml]; rfl) (argsL := [(.long cb), (.int ib), (.long cg), (.int ig)]) (rest := []) (lenOf pd_0 rfl) rfl (by show 2 * 0 + _ ≤ _; exact Nat.le_of_eq rfl) (hb hby d1_23) (fun _ _ => ⟨rfl, eh1, (by decide : 0 + 0 ≤ _), (by decide : 0 + 0 ≤ _)⟩)
    dsimp only [Pt.U, Pt.locs, Pt.cells, Pt.slots] at X3 l3 y3 z3 st3 hQ3
    subst l3 y3 z3
    obtain ⟨rfl, Nq3, eh3⟩ := hQ3
    have N3 := Fr.app N1 Nq3
    refine Goes.step (B := T3.setTop (mkF m 26 #[.val (.long cg), .second, .val (.int ig), .val (.long ca), .second, .val (.int ia), .val (.long cb), .second, .val (.int ib), .val (.int 0)] [(.int (own_prc cb ib cg ig))])) st3 ?_
    by_cases hc26_3 : (own_prc cb ib cg ig) = (0 : Int32)
    · refine Goes.step (fun _ k => pw_ifYes X3.here hx (pc' := 32) (hb hby d1_26) ((if0 _ _).trans (teq hc26_3).1) (by decide) (by decide) _ (pw_iload X3.here hx (hb hby d1_32) rfl _ k)) ?_
      exact Goes.retI X3 hx eh3 Bd.returns hlk (hb hby d1_34) (by decide) (by decide) (⟨(by unfold own_psn; rw [if_pos hc11_1, if_pos hc26_3]; try rfl), N3, rfl⟩)
    · refine Goes.step (fun _ k => pw_ifNo X3.here hx (hb hby d1_26) ((if0 _ _).trans (feq hc26_3).1) _ (pw_iinc X3.here hx (l' := #[.val (.long cg), .second, .val (.int ig), .val (.long ca), .second, .val (.int ia), .val (.long cb), .second, .val (.int ib), .val (.int 1)]) (hb hby d1_29) rfl rfl _ (pw_iload X3.here hx (hb hby d1_32) rfl _ k))) ?_
      exact Goes.retI X3 hx eh3 Bd.returns hlk (hb hby d1_34) (by decide) (by decide) (⟨(by unfold own_psn; rw [if_pos hc11_1, if_neg hc26_3]; try rfl), N3, rfl⟩)
  · refine Goes.step (fun _ k => pw_ifNo X1.here hx (hb hby d1_11) ((if0 _ _).trans (feq hc11_1).1) _ (pw_iinc X1.here hx (l' := #[.val (.long cg), .second, .val (.int ig), .val (.long ca), .second, .val (.int ia), .val (.long cb), .second, .val (.int ib), .val (.int 1)]) (hb hby d1_14) rfl rfl _ (pw_lload X1.here hx (hb hby d1_17) rfl _ (pw_iload X1.here hx (hb hby d1_19) rfl _ (pw_lloadN X1.here hx (hb hby d1_21) rfl _ (pw_iloadN X1.here hx (hb hby d1_22) rfl _ k)))))) ?_
    obtain ⟨_, _, ⟨T5, L5, k5, n5⟩, -, X5, ⟨Lc5, hQ5, l5, y5, z5⟩, st5⟩ := Jvm.LawKit.callS X1 hx (y := (⟨"com/example/errantry/errantry/staff/CompletionBoundsCheapestPinLaw", "precedes", "(JIJI)Z"⟩ : MethodName)) hown (mvT hZ (own_w7 hw)) (mvT hZ (own_w8 hw)) (mvT hZ (own_w5 hw)) (mvT hZ (own_w9 hw)) (by decide) (backOf (W := 0) (rm2 l Z a0 hw [] cb ib cg ig h0 n0 O0 ) hZ (own_w9 hw) (own_w5 hw) (by decide) (by decide)) (g := (mkF m 23 #[.val (.long cg), .second, .val (.int ig), .val (.long ca), .second, .val (.int ia), .val (.long cb), .second, .val (.int ib), .val (.int 1)] [(.int ig), (.long cg), (.int ib), (.long cb)])) rfl (by rw [hml]; rfl) (argsL := [(.long cb), (.int ib), (.long cg), (.int ig)]) (rest := []) (lenOf pd_0 rfl) rfl (by show 2 * 0 + _ ≤ _; exact Nat.le_of_eq rfl) (hb hby d1_23) (fun _ _ => ⟨rfl, eh1, (by decide : 0 + 0 ≤ _), (by decide : 0 + 0 ≤ _)⟩)
    dsimp only [Pt.U, Pt.locs, Pt.cells, Pt.slots] at X5 l5 y5 z5 st5 hQ5
    subst l5 y5 z5
    obtain ⟨rfl, Nq5, eh5⟩ := hQ5
    have N5 := Fr.app N1 Nq5
    refine Goes.step (B := T5.setTop (mkF m 26 #[.val (.long cg), .second, .val (.int ig), .val (.long ca), .second, .val (.int ia), .val (.long cb), .second, .val (.int ib), .val (.int 1)] [(.int (own_prc cb ib cg ig))])) st5 ?_
    by_cases hc26_5 : (own_prc cb ib cg ig) = (0 : Int32)
    · refine Goes.step (fun _ k => pw_ifYes X5.here hx (pc' := 32) (hb hby d1_26) ((if0 _ _).trans (teq hc26_5).1) (by decide) (by decide) _ (pw_iload X5.here hx (hb hby d1_32) rfl _ k)) ?_
      exact Goes.retI X5 hx eh5 Bd.returns hlk (hb hby d1_34) (by decide) (by decide) (⟨(by unfold own_psn; rw [if_neg hc11_1, if_pos hc26_5]; try rfl), N5, rfl⟩)
    · refine Goes.step (fun _ k => pw_ifNo X5.here hx (hb hby d1_26) ((if0 _ _).trans (feq hc26_5).1) _ (pw_iinc X5.here hx (l' := #[.val (.long cg), .second, .val (.int ig), .val (.long ca), .second, .val (.int ia), .val (.long cb), .second, .val (.int ib), .val (.int 2)]) (hb hby d1_29) rfl rfl _ (pw_iload X5.here hx (hb hby d1_32) rfl _ k))) ?_
      exact Goes.retI X5 hx eh5 Bd.returns hlk (hb hby d1_34) (by decide) (by decide) (⟨(by unfold own_psn; rw [if_neg hc11_1, if_neg hc26_5]; try rfl), N5, rfl⟩)
theorem d11_0 : decode method_5_code 0 = .ok (.iconst 0, 1) := by decide +kernel
theorem d11_1 : decode method_5_code 1 = .ok (.istore 11, 2) := by decide +kernel
theorem d11_3 : decode method_5_code 3 = .ok (.lload_n 3, 1) := by decide +kernel
theorem d11_4 : decode method_5_code 4 = .ok (.iload 5, 2) := by decide +kernel
theorem d11_6 : decode method_5_code 6 = .ok (.lload_n 0, 1) := by decide +kernel
theorem d11_7 : decode method_5_code 7 = .ok (.iload_n 2, 1) := by decide +kernel
theorem d11_8 : decode method_5_code 8 = .ok (.invokestatic 49, 3) := by decide +kernel
theorem d11_11 : decode method_5_code 11 = .ok (.ifCond .eq 10, 3) := by decide +kernel
theorem d11_21 : decode method_5_code 21 = .ok (.lload 7, 2) := by decide +kernel
theorem d11_23 : decode method_5_code 23 = .ok (.iload 9, 2) := by decide +kernel
theorem d11_25 : decode method_5_code 25 = .ok (.lload_n 0, 1) := by decide +kernel
theorem d11_26 : decode method_5_code 26 = .ok (.iload_n 2, 1) := by decide +kernel
theorem d11_27 : decode method_5_code 27 = .ok (.invokestatic 49, 3) := by decide +kernel
theorem d11_30 : decode method_5_code 30 = .ok (.ifCond .eq 10, 3) := by decide +kernel
theorem d11_40 : decode method_5_code 40 = .ok (.iload 11, 2) := by decide +kernel
theorem d11_42 : decode method_5_code 42 = .ok (.ireturn, 1) := by decide +kernel
theorem d11_33 : decode method_5_code 33 = .ok (.iload 11, 2) := by decide +kernel
theorem d11_35 : decode method_5_code 35 = .ok (.iload 10, 2) := by decide +kernel
theorem d11_37 : decode method_5_code 37 = .ok (.iadd, 1) := by decide +kernel
theorem d11_38 : decode method_5_code 38 = .ok (.istore 11, 2) := by decide +kernel
theorem d11_14 : decode method_5_code 14 = .ok (.iload 11, 2) := by decide +kernel
theorem d11_16 : decode method_5_code 16 = .ok (.iload 6, 2) := by decide +kernel
theorem d11_18 : decode method_5_code 18 = .ok (.iadd, 1) := by decide +kernel
theorem d11_19 : decode method_5_code 19 = .ok (.istore 11, 2) := by decide +kernel
theorem ef_rm11 (m : MethodId) (x0 : Int64) (x1 : Int32) (x2 : Int64) (x3 : Int32) (x4 : Int32) (x5 : Int64) (x6 : Int32) (x7 : Int32) : entryFrame m #[(.long x0), (.int x1), (.long x2), (.int x3), (.int x4), (.long x5), (.int x6), (.int x7)] 12 = mkF m 0 #[.val (.long x0), .second, .val (.int x1), .val (.long x2), .second, .val (.int x3), .val (.int x4), .val (.long x5), .second, .val (.int x6), .val (.int x7), .unset] [] := by first | (simp [entryFrame, mkF, argsToLocals, Value.category]; done) | rfl
def Q11 (Z : State) (cg : Int64) (ig : Int32) (ca : Int64) (ia : Int32) (ea : Int32) (cb : Int64) (ib : Int32) (eb : Int32) (h0 : Heap) (n0 : Nat) (v : Option Value) (h : Heap) (L : List Loc) : Prop := v = some (.int (own_ahd cg ig ca ia ea cb ib eb)) ∧ Fr n0 L ∧ h = h0
set_option maxRecDepth 65536 in
set_option maxHeartbeats 40000000 in
theorem rm11 (l : Launch) (Z : State) (a0 : Array Value) (hw : ∀ d ∈ tables_1, d.before a0 Z = true) (ws : List Jvm.Cond) (cg : Int64) (ig : Int32) (ca : Int64) (ia : Int32) (ea : Int32) (cb : Int64) (ib : Int32) (eb : Int32) (h0 : Heap) (n0 : Nat) (O0 : Old Z n0 h0) :
    MetFree l (⟨"com/example/errantry/errantry/staff/CompletionBoundsCheapestPinLaw", "ahead", "(JIJIIJII)I"⟩ : MethodName) (head1 (Jvm.Cond.code (⟨"com/example/errantry/errantry/staff/CompletionBoundsCheapestPinLaw", "ahead", "(JIJIIJII)I"⟩ : MethodName) method_5_code 12 (some .int) :: ws) ({ frames := 1, cells := 0, slots := 0, locals := 17 } : Room)) (fun a U => a = #[(.long cg), (.int ig), (.long ca), (.int ia), (.int ea), (.long cb), (.int ib), (.int eb)] ∧ Z.Warmed39 U.vm ∧ U.heap = h0) (fun _ _ _ _ _ => True) (fun _ U o U' => ∃ v L, o = .returned v ∧ Q11 Z cg ig ca ia ea cb ib eb h0 n0 v U'.heap L ∧ FrameEnd U o U' L ({ frames := 1, cells := 0, slots := 0, locals := 17 } : Room).cells ({ frames := 1, cells := 0, slots := 0, locals := 17 } : Room).slots) := by
  refine MetFree.of_bodySF (plainFor_of_name pn_CompletionBoundsCheapestPinLaw) hisR ?_
  intro p e s m args below meth c s₁ Bd hml0 hP hK
  obtain ⟨rfl, hZ, hh⟩ := hP
  have hx := Bd.exec
  have hby := Bd.bytes
  have hlk : meth.locks = false := BodyLoose.notSynchronized Bd
  have hml : c.maxLocals = 12 := hml0
  have hown : s.vm.findClass "com/example/errantry/errantry/staff/CompletionBoundsCheapestPinLaw" = some m.cls := findClass_of_methodNamed Bd.named
  have hnm := (name_of_methodNamed Bd.named Bd.method).1
  have X0 : Stand p l e ({ frames := 1, cells := 0, slots := 0, locals := 17 } : Room) s m #[(.long cg), (.int ig), (.long ca), (.int ia), (.int ea), (.long cb), (.int ib), (.int eb)] below meth c s₁ [] 0 0 := Stand.of_body Bd
  have e0 : s₁.heap = h0 := by rw [← hh, Bd.state]; rfl
  have N0 := Fr.nil n0
  show Goes p e below s (Q11 Z cg ig ca ia ea cb ib eb h0 n0) ({ frames := 1, cells := 0, slots := 0, locals := 17 } : Room).cells ({ frames := 1, cells := 0, slots := 0, locals := 17 } : Room).slots (s₁.setTop (entryFrame m #[(.long cg), (.int ig), (.long ca), (.int ia), (.int ea), (.long cb), (.int ib), (.int eb)] 12))
  refine Goes.enter (g' := (mkF m 0 #[.val (.long cg), .second, .val (.int ig), .val (.long ca), .second, .val (.int ia), .val (.int ea), .val (.long cb), .second, .val (.int ib), .val (.int eb), .unset] [])) (ef_rm11 m cg ig ca ia ea cb ib eb) ?_
  refine Goes.step (fun _ k => pw_iconst X0.here hx (v := (0 : Int32)) (hb hby d11_0) rfl _ (pw_istore X0.here hx (l' := #[.val (.long cg), .second, .val (.int ig), .val (.long ca), .second, .val (.int ia), .val (.int ea), .val (.long cb), .second, .val (.int ib), .val (.int eb), .val (.int 0)]) (hb hby d11_1) rfl _ (pw_lloadN X0.here hx (hb hby d11_3) rfl _ (pw_iload X0.here hx (hb hby d11_4) rfl _ (pw_lloadN X0.here hx (hb hby d11_6) rfl _ (pw_iloadN X0.here hx (hb hby d11_7) rfl _ k)))))) ?_
  obtain ⟨_, _, ⟨T1, L1, k1, n1⟩, -, X1, ⟨Lc1, hQ1, l1, y1, z1⟩, st1⟩ := Jvm.LawKit.callS X0 hx (y := (⟨"com/example/errantry/errantry/staff/CompletionBoundsCheapestPinLaw", "precedes", "(JIJI)Z"⟩ : MethodName)) hown (mvT hZ (own_w7 hw)) (mvT hZ (own_w8 hw)) (mvT hZ (own_w5 hw)) (mvT hZ (own_w9 hw)) (by decide) (backOf (W := 0) (rm2 l Z a0 hw [] ca ia cg ig h0 n0 O0 ) hZ (own_w9 hw) (own_w5 hw) (by decide) (by decide)) (g := (mkF m 8 #[.val (.long cg), .second, .val (.int ig), .val (.long ca), .second, .val (.int ia), .val (.int ea), .val (.long cb), .second, .val (.int ib), .val (.int eb), .val (.int 0)] [(.int ig), (.long cg), (.int ia), (.long ca)])) rfl (by rw [hml]; rfl) (argsL := [(.long ca), (.int ia), (.long cg), (.int ig)]) (rest := []) (lenOf pd_0 rfl) rfl (by show 2 * 0 + _ ≤ _; exact Nat.le_of_eq rfl) (hb hby d11_8) (fun _ _ => ⟨rfl, e0, (by decide : 0 + 0 ≤ _), (by decide : 0 + 0 ≤ _)⟩)
  dsimp only [Pt.U, Pt.locs, Pt.cells, Pt.slots] at X1 l1 y1 z1 st1 hQ1
  subst l1 y1 z1
  obtain ⟨rfl, Nq1, eh1⟩ := hQ1
  have N1 := Fr.app N0 Nq1
  refine Goes.step (B := T1.setTop (mkF m 11 #[.val (.long cg), .second, .val (.int ig), .val (.long ca), .second, .val (.int ia), .val (.int ea), .val (.long cb), .second, .val (.int ib), .val (.int eb), .val (.int 0)] [(.int (own_prc ca ia cg ig))])) st1 ?_
  by_cases hc11_1 : (own_prc ca ia cg ig) = (0 : Int32)
  · refine Goes.step (fun _ k => pw_ifYes X1.here hx (pc' := 21) (hb hby d11_11) ((if0 _ _).trans (teq hc11_1).1) (by decide) (by decide) _ (pw_lload X1.here hx (hb hby d11_21) rfl _ (pw_iload X1.here hx (hb hby d11_23) rfl _ (pw_lloadN X1.here hx (hb hby d11_25) rfl _ (pw_iloadN X1.here hx (hb hby d11_26) rfl _ k))))) ?_
    obtain ⟨_, _, ⟨T3, L3, k3, n3⟩, -, X3, ⟨Lc3, hQ3, l3, y3, z3⟩, st3⟩ := Jvm.LawKit.callS X1 hx (y := (⟨"com/example/errantry/errantry/staff/CompletionBoundsCheapestPinLaw", "precedes", "(JIJI)Z"⟩ : MethodName)) hown (mvT hZ (own_w7 hw)) (mvT hZ (own_w8 hw)) (mvT hZ (own_w5 hw)) (mvT hZ (own_w9 hw)) (by decide) (backOf (W := 0) (rm2 l Z a0 hw [] cb ib cg ig h0 n0 O0 ) hZ (own_w9 hw) (own_w5 hw) (by decide) (by decide)) (g := (mkF m 27 #[.val (.long cg), .second, .val (.int ig), .val (.long ca), .second, .val (.int ia), .val (.int ea), .val (.long cb), .second, .val (.int ib), .val (.int eb), .val (.int 0)] [(.int ig), (.long cg), (.int ib), (.long cb)])) rfl (by rw [hml]; rfl) (argsL := [(.long cb), (.int ib), (.long cg), (.int ig)]) (rest := []) (lenOf pd_0 rfl) rfl (by show 2 * 0 + _ ≤ _; exact Nat.le_of_eq rfl) (hb hby d11_27) (fun _ _ => ⟨rfl, eh1, (by decide : 0 + 0 ≤ _), (by decide : 0 + 0 ≤ _)⟩)
    dsimp only [Pt.U, Pt.locs, Pt.cells, Pt.slots] at X3 l3 y3 z3 st3 hQ3
    subst l3 y3 z3
    obtain ⟨rfl, Nq3, eh3⟩ := hQ3
    have N3 := Fr.app N1 Nq3
    refine Goes.step (B := T3.setTop (mkF m 30 #[.val (.long cg), .second, .val (.int ig), .val (.long ca), .second, .val (.int ia), .val (.int ea), .val (.long cb), .second, .val (.int ib), .val (.int eb), .val (.int 0)] [(.int (own_prc cb ib cg ig))])) st3 ?_
    by_cases hc30_3 : (own_prc cb ib cg ig) = (0 : Int32)
    · refine Goes.step (fun _ k => pw_ifYes X3.here hx (pc' := 40) (hb hby d11_30) ((if0 _ _).trans (teq hc30_3).1) (by decide) (by decide) _ (pw_iload X3.here hx (hb hby d11_40) rfl _ k)) ?_
      exact Goes.retI X3 hx eh3 Bd.returns hlk (hb hby d11_42) (by decide) (by decide) (⟨(by unfold own_ahd; rw [if_pos hc11_1, if_pos hc30_3]; try rfl), N3, rfl⟩)
    · refine Goes.step (fun _ k => pw_ifNo X3.here hx (hb hby d11_30) ((if0 _ _).trans (feq hc30_3).1) _ (pw_iload X3.here hx (hb hby d11_33) rfl _ (pw_iload X3.here hx (hb hby d11_35) rfl _ (pw_iadd X3.here hx (hb hby d11_37) _ (pw_istore X3.here hx (l' := #[.val (.long cg), .second, .val (.int ig), .val (.long ca), .second, .val (.int ia), .val (.int ea), .val (.long cb), .second, .val (.int ib), .val (.int eb), .val (.int ((0 : Int32) + eb))]) (hb hby d11_38) rfl _ (pw_iload X3.here hx (hb hby d11_40) rfl _ k)))))) ?_
      exact Goes.retI X3 hx eh3 Bd.returns hlk (hb hby d11_42) (by decide) (by decide) (⟨(by unfold own_ahd; rw [if_pos hc11_1, if_neg hc30_3]; try rfl), N3, rfl⟩)
  · refine Goes.step (fun _ k => pw_ifNo X1.here hx (hb hby d11_11) ((if0 _ _).trans (feq hc11_1).1) _ (pw_iload X1.here hx (hb hby d11_14) rfl _ (pw_iload X1.here hx (hb hby d11_16) rfl _ (pw_iadd X1.here hx (hb hby d11_18) _ (pw_istore X1.here hx (l' := #[.val (.long cg), .second, .val (.int ig), .val (.long ca), .second, .val (.int ia), .val (.int ea), .val (.long cb), .second, .val (.int ib), .val (.int eb), .val (.int ((0 : Int32) + ea))]) (hb hby d11_19) rfl _ (pw_lload X1.here hx (hb hby d11_21) rfl _ k)))))) ?_
    refine Goes.step (fun _ k => pw_iload X1.here hx (hb hby d11_23) rfl _ (pw_lloadN X1.here hx (hb hby d11_25) rfl _ (pw_iloadN X1.here hx (hb hby d11_26) rfl _ k))) ?_
    obtain ⟨_, _, ⟨T5, L5, k5, n5⟩, -, X5, ⟨Lc5, hQ5, l5, y5, z5⟩, st5⟩ := Jvm.LawKit.callS X1 hx (y := (⟨"com/example/errantry/errantry/staff/CompletionBoundsCheapestPinLaw", "precedes", "(JIJI)Z"⟩ : MethodName)) hown (mvT hZ (own_w7 hw)) (mvT hZ (own_w8 hw)) (mvT hZ (own_w5 hw)) (mvT hZ (own_w9 hw)) (by decide) (backOf (W := 0) (rm2 l Z a0 hw [] cb ib cg ig h0 n0 O0 ) hZ (own_w9 hw) (own_w5 hw) (by decide) (by decide)) (g := (mkF m 27 #[.val (.long cg), .second, .val (.int ig), .val (.long ca), .second, .val (.int ia), .val (.int ea), .val (.long cb), .second, .val (.int ib), .val (.int eb), .val (.int ((0 : Int32) + ea))] [(.int ig), (.long cg), (.int ib), (.long cb)])) rfl (by rw [hml]; rfl) (argsL := [(.long cb), (.int ib), (.long cg), (.int ig)]) (rest := []) (lenOf pd_0 rfl) rfl (by show 2 * 0 + _ ≤ _; exact Nat.le_of_eq rfl) (hb hby d11_27) (fun _ _ => ⟨rfl, eh1, (by decide : 0 + 0 ≤ _), (by decide : 0 + 0 ≤ _)⟩)
    dsimp only [Pt.U, Pt.locs, Pt.cells, Pt.slots] at X5 l5 y5 z5 st5 hQ5
    subst l5 y5 z5
    obtain ⟨rfl, Nq5, eh5⟩ := hQ5
    have N5 := Fr.app N1 Nq5
    refine Goes.step (B := T5.setTop (mkF m 30 #[.val (.long cg), .second, .val (.int ig), .val (.long ca), .second, .val (.int ia), .val (.int ea), .val (.long cb), .second, .val (.int ib), .val (.int eb), .val (.int ((0 : Int32) + ea))] [(.int (own_prc cb ib cg ig))])) st5 ?_
    by_cases hc30_5 : (own_prc cb ib cg ig) = (0 : Int32)
    · refine Goes.step (fun _ k => pw_ifYes X5.here hx (pc' := 40) (hb hby d11_30) ((if0 _ _).trans (teq hc30_5).1) (by decide) (by decide) _ (pw_iload X5.here hx (hb hby d11_40) rfl _ k)) ?_
      exact Goes.retI X5 hx eh5 Bd.returns hlk (hb hby d11_42) (by decide) (by decide) (⟨(by unfold own_ahd; rw [if_neg hc11_1, if_pos hc30_5]; try rfl), N5, rfl⟩)
    · refine Goes.step (fun _ k => pw_ifNo X5.here hx (hb hby d11_30) ((if0 _ _).trans (feq hc30_5).1) _ (pw_iload X5.here hx (hb hby d11_33) rfl _ (pw_iload X5.here hx (hb hby d11_35) rfl _ (pw_iadd X5.here hx (hb hby d11_37) _ (pw_istore X5.here hx (l' := #[.val (.long cg), .second, .val (.int ig), .val (.long ca), .second, .val (.int ia), .val (.int ea), .val (.long cb), .second, .val (.int ib), .val (.int eb), .val (.int (((0 : Int32) + ea) + eb))]) (hb hby d11_38) rfl _ (pw_iload X5.here hx (hb hby d11_40) rfl _ k)))))) ?_
      exact Goes.retI X5 hx eh5 Bd.returns hlk (hb hby d11_42) (by decide) (by decide) (⟨(by unfold own_ahd; rw [if_neg hc11_1, if_neg hc30_5]; try rfl), N5, rfl⟩)
theorem d13_0 : decode jdk_29_method_65_code 0 = .ok (.iload_n 0, 1) := by decide +kernel
theorem d13_1 : decode jdk_29_method_65_code 1 = .ok (.iload_n 1, 1) := by decide +kernel
theorem d13_2 : decode jdk_29_method_65_code 2 = .ok (.if_icmp .lt 7, 3) := by decide +kernel
theorem d13_9 : decode jdk_29_method_65_code 9 = .ok (.iload_n 1, 1) := by decide +kernel
theorem d13_10 : decode jdk_29_method_65_code 10 = .ok (.ireturn, 1) := by decide +kernel
theorem d13_5 : decode jdk_29_method_65_code 5 = .ok (.iload_n 0, 1) := by decide +kernel
theorem d13_6 : decode jdk_29_method_65_code 6 = .ok (.goto 4, 3) := by decide +kernel
theorem ef_rm13 (m : MethodId) (x0 : Int32) (x1 : Int32) : entryFrame m #[(.int x0), (.int x1)] 2 = mkF m 0 #[.val (.int x0), .val (.int x1)] [] := by first | (simp [entryFrame, mkF, argsToLocals, Value.category]; done) | rfl
def Q13 (Z : State) (p1 : Int32) (p2 : Int32) (h0 : Heap) (n0 : Nat) (v : Option Value) (h : Heap) (L : List Loc) : Prop := v = some (.int (own_maxI p1 p2)) ∧ Fr n0 L ∧ h = h0
set_option maxRecDepth 65536 in
set_option maxHeartbeats 40000000 in
theorem rm13 (l : Launch) (Z : State) (a0 : Array Value) (hw : ∀ d ∈ tables_1, d.before a0 Z = true) (ws : List Jvm.Cond) (p1 : Int32) (p2 : Int32) (h0 : Heap) (n0 : Nat) (O0 : Old Z n0 h0) :
    MetFree l (⟨"java/lang/Math", "max", "(II)I"⟩ : MethodName) (head1 (Jvm.Cond.code (⟨"java/lang/Math", "max", "(II)I"⟩ : MethodName) jdk_29_method_65_code 2 (some .int) :: ws) ({ frames := 0, cells := 0, slots := 0, locals := 0 } : Room)) (fun a U => a = #[(.int p1), (.int p2)] ∧ Z.Warmed39 U.vm ∧ U.heap = h0) (fun _ _ _ _ _ => True) (fun _ U o U' => ∃ v L, o = .returned v ∧ Q13 Z p1 p2 h0 n0 v U'.heap L ∧ FrameEnd U o U' L ({ frames := 0, cells := 0, slots := 0, locals := 0 } : Room).cells ({ frames := 0, cells := 0, slots := 0, locals := 0 } : Room).slots) := by
  refine MetFree.of_bodySF (Jvm.Free.JP.mathPlain rfl (by decide +kernel)) hisR ?_
  intro p e s m args below meth c s₁ Bd hml0 hP hK
  obtain ⟨rfl, hZ, hh⟩ := hP
  have hx := Bd.exec
  have hby := Bd.bytes
  have hlk : meth.locks = false := BodyLoose.notSynchronized Bd
  have hml : c.maxLocals = 2 := hml0
  have hown : s.vm.findClass "java/lang/Math" = some m.cls := findClass_of_methodNamed Bd.named
  have hnm := (name_of_methodNamed Bd.named Bd.method).1
  have X0 : Stand p l e ({ frames := 0, cells := 0, slots := 0, locals := 0 } : Room) s m #[(.int p1), (.int p2)] below meth c s₁ [] 0 0 := Stand.of_body Bd
  have e0 : s₁.heap = h0 := by rw [← hh, Bd.state]; rfl
  have N0 := Fr.nil n0
  show Goes p e below s (Q13 Z p1 p2 h0 n0) ({ frames := 0, cells := 0, slots := 0, locals := 0 } : Room).cells ({ frames := 0, cells := 0, slots := 0, locals := 0 } : Room).slots (s₁.setTop (entryFrame m #[(.int p1), (.int p2)] 2))
  refine Goes.enter (g' := (mkF m 0 #[.val (.int p1), .val (.int p2)] [])) (ef_rm13 m p1 p2) ?_
  refine Goes.step (fun _ k => pw_iloadN X0.here hx (hb hby d13_0) rfl _ (pw_iloadN X0.here hx (hb hby d13_1) rfl _ k)) ?_
  by_cases hc2_0 : p1 < p2
  · refine Goes.step (fun _ k => pw_icmpYes X0.here hx (pc' := 9) (hb hby d13_2) (tlt hc2_0).1 (by decide) (by decide) _ (pw_iloadN X0.here hx (hb hby d13_9) rfl _ k)) ?_
    exact Goes.retI X0 hx e0 Bd.returns hlk (hb hby d13_10) (by decide) (by decide) (⟨(by unfold own_maxI; rw [if_pos hc2_0]; try rfl), N0, rfl⟩)
  · refine Goes.step (fun _ k => pw_icmpNo X0.here hx (hb hby d13_2) (flt hc2_0).1 _ (pw_iloadN X0.here hx (hb hby d13_5) rfl _ (pw_goto X0.here hx (pc' := 10) (hb hby d13_6) (by decide) (by decide) _ k))) ?_
    exact Goes.retI X0 hx e0 Bd.returns hlk (hb hby d13_10) (by decide) (by decide) (⟨(by unfold own_maxI; rw [if_neg hc2_0]; try rfl), N0, rfl⟩)
theorem d14_0 : decode jdk_29_method_69_code 0 = .ok (.iload_n 0, 1) := by decide +kernel
theorem d14_1 : decode jdk_29_method_69_code 1 = .ok (.iload_n 1, 1) := by decide +kernel
theorem d14_2 : decode jdk_29_method_69_code 2 = .ok (.if_icmp .gt 7, 3) := by decide +kernel
theorem d14_9 : decode jdk_29_method_69_code 9 = .ok (.iload_n 1, 1) := by decide +kernel
theorem d14_10 : decode jdk_29_method_69_code 10 = .ok (.ireturn, 1) := by decide +kernel
theorem d14_5 : decode jdk_29_method_69_code 5 = .ok (.iload_n 0, 1) := by decide +kernel
theorem d14_6 : decode jdk_29_method_69_code 6 = .ok (.goto 4, 3) := by decide +kernel
theorem ef_rm14 (m : MethodId) (x0 : Int32) (x1 : Int32) : entryFrame m #[(.int x0), (.int x1)] 2 = mkF m 0 #[.val (.int x0), .val (.int x1)] [] := by first | (simp [entryFrame, mkF, argsToLocals, Value.category]; done) | rfl
def Q14 (Z : State) (p1 : Int32) (p2 : Int32) (h0 : Heap) (n0 : Nat) (v : Option Value) (h : Heap) (L : List Loc) : Prop := v = some (.int (own_minI p1 p2)) ∧ Fr n0 L ∧ h = h0
set_option maxRecDepth 65536 in
set_option maxHeartbeats 40000000 in
theorem rm14 (l : Launch) (Z : State) (a0 : Array Value) (hw : ∀ d ∈ tables_1, d.before a0 Z = true) (ws : List Jvm.Cond) (p1 : Int32) (p2 : Int32) (h0 : Heap) (n0 : Nat) (O0 : Old Z n0 h0) :
    MetFree l (⟨"java/lang/Math", "min", "(II)I"⟩ : MethodName) (head1 (Jvm.Cond.code (⟨"java/lang/Math", "min", "(II)I"⟩ : MethodName) jdk_29_method_69_code 2 (some .int) :: ws) ({ frames := 0, cells := 0, slots := 0, locals := 0 } : Room)) (fun a U => a = #[(.int p1), (.int p2)] ∧ Z.Warmed39 U.vm ∧ U.heap = h0) (fun _ _ _ _ _ => True) (fun _ U o U' => ∃ v L, o = .returned v ∧ Q14 Z p1 p2 h0 n0 v U'.heap L ∧ FrameEnd U o U' L ({ frames := 0, cells := 0, slots := 0, locals := 0 } : Room).cells ({ frames := 0, cells := 0, slots := 0, locals := 0 } : Room).slots) := by
  refine MetFree.of_bodySF (Jvm.Free.JP.mathPlain rfl (by decide +kernel)) hisR ?_
  intro p e s m args below meth c s₁ Bd hml0 hP hK
  obtain ⟨rfl, hZ, hh⟩ := hP
  have hx := Bd.exec
  have hby := Bd.bytes
  have hlk : meth.locks = false := BodyLoose.notSynchronized Bd
  have hml : c.maxLocals = 2 := hml0
  have hown : s.vm.findClass "java/lang/Math" = some m.cls := findClass_of_methodNamed Bd.named
  have hnm := (name_of_methodNamed Bd.named Bd.method).1
  have X0 : Stand p l e ({ frames := 0, cells := 0, slots := 0, locals := 0 } : Room) s m #[(.int p1), (.int p2)] below meth c s₁ [] 0 0 := Stand.of_body Bd
  have e0 : s₁.heap = h0 := by rw [← hh, Bd.state]; rfl
  have N0 := Fr.nil n0
  show Goes p e below s (Q14 Z p1 p2 h0 n0) ({ frames := 0, cells := 0, slots := 0, locals := 0 } : Room).cells ({ frames := 0, cells := 0, slots := 0, locals := 0 } : Room).slots (s₁.setTop (entryFrame m #[(.int p1), (.int p2)] 2))
  refine Goes.enter (g' := (mkF m 0 #[.val (.int p1), .val (.int p2)] [])) (ef_rm14 m p1 p2) ?_
  refine Goes.step (fun _ k => pw_iloadN X0.here hx (hb hby d14_0) rfl _ (pw_iloadN X0.here hx (hb hby d14_1) rfl _ k)) ?_
  by_cases hc2_0 : p2 < p1
  · refine Goes.step (fun _ k => pw_icmpYes X0.here hx (pc' := 9) (hb hby d14_2) (tlt hc2_0).2.2.1 (by decide) (by decide) _ (pw_iloadN X0.here hx (hb hby d14_9) rfl _ k)) ?_
    exact Goes.retI X0 hx e0 Bd.returns hlk (hb hby d14_10) (by decide) (by decide) (⟨(by unfold own_minI; rw [if_pos hc2_0]; try rfl), N0, rfl⟩)
  · refine Goes.step (fun _ k => pw_icmpNo X0.here hx (hb hby d14_2) (flt hc2_0).2.2.1 _ (pw_iloadN X0.here hx (hb hby d14_5) rfl _ (pw_goto X0.here hx (pc' := 10) (hb hby d14_6) (by decide) (by decide) _ k))) ?_
    exact Goes.retI X0 hx e0 Bd.returns hlk (hb hby d14_10) (by decide) (by decide) (⟨(by unfold own_minI; rw [if_neg hc2_0]; try rfl), N0, rfl⟩)
theorem d15_0 : decode jdk_29_method_66_code 0 = .ok (.lload_n 0, 1) := by decide +kernel
theorem d15_1 : decode jdk_29_method_66_code 1 = .ok (.lload_n 2, 1) := by decide +kernel
theorem d15_2 : decode jdk_29_method_66_code 2 = .ok (.lcmp, 1) := by decide +kernel
theorem d15_3 : decode jdk_29_method_66_code 3 = .ok (.ifCond .lt 7, 3) := by decide +kernel
theorem d15_10 : decode jdk_29_method_66_code 10 = .ok (.lload_n 2, 1) := by decide +kernel
theorem d15_11 : decode jdk_29_method_66_code 11 = .ok (.lreturn, 1) := by decide +kernel
theorem d15_6 : decode jdk_29_method_66_code 6 = .ok (.lload_n 0, 1) := by decide +kernel
theorem d15_7 : decode jdk_29_method_66_code 7 = .ok (.goto 4, 3) := by decide +kernel
theorem ef_rm15 (m : MethodId) (x0 : Int64) (x1 : Int64) : entryFrame m #[(.long x0), (.long x1)] 4 = mkF m 0 #[.val (.long x0), .second, .val (.long x1), .second] [] := by first | (simp [entryFrame, mkF, argsToLocals, Value.category]; done) | rfl
def Q15 (Z : State) (p1 : Int64) (p2 : Int64) (h0 : Heap) (n0 : Nat) (v : Option Value) (h : Heap) (L : List Loc) : Prop := v = some (.long (own_maxJ p1 p2)) ∧ Fr n0 L ∧ h = h0
set_option maxRecDepth 65536 in
set_option maxHeartbeats 40000000 in
theorem rm15 (l : Launch) (Z : State) (a0 : Array Value) (hw : ∀ d ∈ tables_1, d.before a0 Z = true) (ws : List Jvm.Cond) (p1 : Int64) (p2 : Int64) (h0 : Heap) (n0 : Nat) (O0 : Old Z n0 h0) :
    MetFree l (⟨"java/lang/Math", "max", "(JJ)J"⟩ : MethodName) (head1 (Jvm.Cond.code (⟨"java/lang/Math", "max", "(JJ)J"⟩ : MethodName) jdk_29_method_66_code 4 (some .long) :: ws) ({ frames := 0, cells := 0, slots := 0, locals := 0 } : Room)) (fun a U => a = #[(.long p1), (.long p2)] ∧ Z.Warmed39 U.vm ∧ U.heap = h0) (fun _ _ _ _ _ => True) (fun _ U o U' => ∃ v L, o = .returned v ∧ Q15 Z p1 p2 h0 n0 v U'.heap L ∧ FrameEnd U o U' L ({ frames := 0, cells := 0, slots := 0, locals := 0 } : Room).cells ({ frames := 0, cells := 0, slots := 0, locals := 0 } : Room).slots) := by
  refine MetFree.of_bodySF (Jvm.Free.JP.mathPlain rfl (by decide +kernel)) hisR ?_
  intro p e s m args below meth c s₁ Bd hml0 hP hK
  obtain ⟨rfl, hZ, hh⟩ := hP
  have hx := Bd.exec
  have hby := Bd.bytes
  have hlk : meth.locks = false := BodyLoose.notSynchronized Bd
  have hml : c.maxLocals = 4 := hml0
  have hown : s.vm.findClass "java/lang/Math" = some m.cls := findClass_of_methodNamed Bd.named
  have hnm := (name_of_methodNamed Bd.named Bd.method).1
  have X0 : Stand p l e ({ frames := 0, cells := 0, slots := 0, locals := 0 } : Room) s m #[(.long p1), (.long p2)] below meth c s₁ [] 0 0 := Stand.of_body Bd
  have e0 : s₁.heap = h0 := by rw [← hh, Bd.state]; rfl
  have N0 := Fr.nil n0
  show Goes p e below s (Q15 Z p1 p2 h0 n0) ({ frames := 0, cells := 0, slots := 0, locals := 0 } : Room).cells ({ frames := 0, cells := 0, slots := 0, locals := 0 } : Room).slots (s₁.setTop (entryFrame m #[(.long p1), (.long p2)] 4))
  refine Goes.enter (g' := (mkF m 0 #[.val (.long p1), .second, .val (.long p2), .second] [])) (ef_rm15 m p1 p2) ?_
  refine Goes.step (fun _ k => pw_lloadN X0.here hx (hb hby d15_0) rfl _ (pw_lloadN X0.here hx (hb hby d15_1) rfl _ k)) ?_
  refine Goes.step (B := s₁.setTop (mkF m 3 #[.val (.long p1), .second, .val (.long p2), .second] [(.int (lcmpW p1 p2))])) (fun _ k => XS.lcmp X0.here hx rfl (hb hby d15_2) rfl k) ?_
  by_cases hc3_0 : p1 < p2
  · refine Goes.step (fun _ k => pw_ifYes X0.here hx (pc' := 10) (hb hby d15_3) ((if0 _ _).trans (tlt ((lw_lt _ _).mpr hc3_0)).1) (by decide) (by decide) _ (pw_lloadN X0.here hx (hb hby d15_10) rfl _ k)) ?_
    exact Goes.retJ X0 hx e0 Bd.returns hlk (hb hby d15_11) (by decide) (by decide) (⟨(by unfold own_maxJ; rw [if_pos hc3_0]; try rfl), N0, rfl⟩)
  · refine Goes.step (fun _ k => pw_ifNo X0.here hx (hb hby d15_3) ((if0 _ _).trans (flt (fun q => hc3_0 ((lw_lt _ _).mp q))).1) _ (pw_lloadN X0.here hx (hb hby d15_6) rfl _ (pw_goto X0.here hx (pc' := 11) (hb hby d15_7) (by decide) (by decide) _ k))) ?_
    exact Goes.retJ X0 hx e0 Bd.returns hlk (hb hby d15_11) (by decide) (by decide) (⟨(by unfold own_maxJ; rw [if_neg hc3_0]; try rfl), N0, rfl⟩)
theorem d16_0 : decode jdk_29_method_70_code 0 = .ok (.lload_n 0, 1) := by decide +kernel
theorem d16_1 : decode jdk_29_method_70_code 1 = .ok (.lload_n 2, 1) := by decide +kernel
theorem d16_2 : decode jdk_29_method_70_code 2 = .ok (.lcmp, 1) := by decide +kernel
theorem d16_3 : decode jdk_29_method_70_code 3 = .ok (.ifCond .gt 7, 3) := by decide +kernel
theorem d16_10 : decode jdk_29_method_70_code 10 = .ok (.lload_n 2, 1) := by decide +kernel
theorem d16_11 : decode jdk_29_method_70_code 11 = .ok (.lreturn, 1) := by decide +kernel
theorem d16_6 : decode jdk_29_method_70_code 6 = .ok (.lload_n 0, 1) := by decide +kernel
theorem d16_7 : decode jdk_29_method_70_code 7 = .ok (.goto 4, 3) := by decide +kernel
theorem ef_rm16 (m : MethodId) (x0 : Int64) (x1 : Int64) : entryFrame m #[(.long x0), (.long x1)] 4 = mkF m 0 #[.val (.long x0), .second, .val (.long x1), .second] [] := by first | (simp [entryFrame, mkF, argsToLocals, Value.category]; done) | rfl
def Q16 (Z : State) (p1 : Int64) (p2 : Int64) (h0 : Heap) (n0 : Nat) (v : Option Value) (h : Heap) (L : List Loc) : Prop := v = some (.long (own_mnJ p1 p2)) ∧ Fr n0 L ∧ h = h0
set_option maxRecDepth 65536 in
set_option maxHeartbeats 40000000 in
theorem rm16 (l : Launch) (Z : State) (a0 : Array Value) (hw : ∀ d ∈ tables_1, d.before a0 Z = true) (ws : List Jvm.Cond) (p1 : Int64) (p2 : Int64) (h0 : Heap) (n0 : Nat) (O0 : Old Z n0 h0) :
    MetFree l (⟨"java/lang/Math", "min", "(JJ)J"⟩ : MethodName) (head1 (Jvm.Cond.code (⟨"java/lang/Math", "min", "(JJ)J"⟩ : MethodName) jdk_29_method_70_code 4 (some .long) :: ws) ({ frames := 0, cells := 0, slots := 0, locals := 0 } : Room)) (fun a U => a = #[(.long p1), (.long p2)] ∧ Z.Warmed39 U.vm ∧ U.heap = h0) (fun _ _ _ _ _ => True) (fun _ U o U' => ∃ v L, o = .returned v ∧ Q16 Z p1 p2 h0 n0 v U'.heap L ∧ FrameEnd U o U' L ({ frames := 0, cells := 0, slots := 0, locals := 0 } : Room).cells ({ frames := 0, cells := 0, slots := 0, locals := 0 } : Room).slots) := by
  refine MetFree.of_bodySF (Jvm.Free.JP.mathPlain rfl (by decide +kernel)) hisR ?_
  intro p e s m args below meth c s₁ Bd hml0 hP hK
  obtain ⟨rfl, hZ, hh⟩ := hP
  have hx := Bd.exec
  have hby := Bd.bytes
  have hlk : meth.locks = false := BodyLoose.notSynchronized Bd
  have hml : c.maxLocals = 4 := hml0
  have hown : s.vm.findClass "java/lang/Math" = some m.cls := findClass_of_methodNamed Bd.named
  have hnm := (name_of_methodNamed Bd.named Bd.method).1
  have X0 : Stand p l e ({ frames := 0, cells := 0, slots := 0, locals := 0 } : Room) s m #[(.long p1), (.long p2)] below meth c s₁ [] 0 0 := Stand.of_body Bd
  have e0 : s₁.heap = h0 := by rw [← hh, Bd.state]; rfl
  have N0 := Fr.nil n0
  show Goes p e below s (Q16 Z p1 p2 h0 n0) ({ frames := 0, cells := 0, slots := 0, locals := 0 } : Room).cells ({ frames := 0, cells := 0, slots := 0, locals := 0 } : Room).slots (s₁.setTop (entryFrame m #[(.long p1), (.long p2)] 4))
  refine Goes.enter (g' := (mkF m 0 #[.val (.long p1), .second, .val (.long p2), .second] [])) (ef_rm16 m p1 p2) ?_
  refine Goes.step (fun _ k => pw_lloadN X0.here hx (hb hby d16_0) rfl _ (pw_lloadN X0.here hx (hb hby d16_1) rfl _ k)) ?_
  refine Goes.step (B := s₁.setTop (mkF m 3 #[.val (.long p1), .second, .val (.long p2), .second] [(.int (lcmpW p1 p2))])) (fun _ k => XS.lcmp X0.here hx rfl (hb hby d16_2) rfl k) ?_
  by_cases hc3_0 : p2 < p1
  · refine Goes.step (fun _ k => pw_ifYes X0.here hx (pc' := 10) (hb hby d16_3) ((if0 _ _).trans (tlt ((lw_gt _ _).mpr hc3_0)).2.2.1) (by decide) (by decide) _ (pw_lloadN X0.here hx (hb hby d16_10) rfl _ k)) ?_
    exact Goes.retJ X0 hx e0 Bd.returns hlk (hb hby d16_11) (by decide) (by decide) (⟨(by unfold own_mnJ; rw [if_pos hc3_0]; try rfl), N0, rfl⟩)
  · refine Goes.step (fun _ k => pw_ifNo X0.here hx (hb hby d16_3) ((if0 _ _).trans (flt (fun q => hc3_0 ((lw_gt _ _).mp q))).2.2.1) _ (pw_lloadN X0.here hx (hb hby d16_6) rfl _ (pw_goto X0.here hx (pc' := 11) (hb hby d16_7) (by decide) (by decide) _ k))) ?_
    exact Goes.retJ X0 hx e0 Bd.returns hlk (hb hby d16_11) (by decide) (by decide) (⟨(by unfold own_mnJ; rw [if_neg hc3_0]; try rfl), N0, rfl⟩)
theorem d12_0 : decode method_6_code 0 = .ok (.iload_n 1, 1) := by decide +kernel
theorem d12_1 : decode method_6_code 1 = .ok (.iconst 0, 1) := by decide +kernel
theorem d12_2 : decode method_6_code 2 = .ok (.iload_n 0, 1) := by decide +kernel
theorem d12_3 : decode method_6_code 3 = .ok (.iload_n 2, 1) := by decide +kernel
theorem d12_4 : decode method_6_code 4 = .ok (.isub, 1) := by decide +kernel
theorem d12_5 : decode method_6_code 5 = .ok (.invokestatic 53, 3) := by decide +kernel
theorem own_w90 {Z : State} {a0 : Array Value} (hw : ∀ d ∈ tables_1, d.before a0 Z = true) : (Jvm.Cond.methodLink "com/example/errantry/errantry/staff/CompletionBoundsCheapestPinLaw" (53 : Nat) ({ cls := "java/lang/Math", name := "max", desc := "(II)I" } : Jvm.MethodName)).before a0 Z = true := hw _ (List.mem_of_getElem? (i := 90) rfl)
theorem own_w93 {Z : State} {a0 : Array Value} (hw : ∀ d ∈ tables_1, d.before a0 Z = true) : (Jvm.Cond.code ({ cls := "java/lang/Math", name := "max", desc := "(II)I" } : Jvm.MethodName) jdk_29_method_65_code (2 : Nat) (Option.some Jvm.ClassFile.FieldType.int)).before a0 Z = true := hw _ (List.mem_of_getElem? (i := 93) rfl)
theorem own_w92 {Z : State} {a0 : Array Value} (hw : ∀ d ∈ tables_1, d.before a0 Z = true) : (Jvm.Cond.initialized "java/lang/Math").before a0 Z = true := hw _ (List.mem_of_getElem? (i := 92) rfl)
theorem pd_1 : parseMethodDescriptor "(II)I" = some ⟨[.int, .int], some .int⟩ := by decide +kernel
theorem own_w91 {Z : State} {a0 : Array Value} (hw : ∀ d ∈ tables_1, d.before a0 Z = true) : (Jvm.Cond.static ({ cls := "java/lang/Math", name := "max", desc := "(II)I" } : Jvm.MethodName)).before a0 Z = true := hw _ (List.mem_of_getElem? (i := 91) rfl)
theorem d12_8 : decode method_6_code 8 = .ok (.invokestatic 56, 3) := by decide +kernel
theorem own_w94 {Z : State} {a0 : Array Value} (hw : ∀ d ∈ tables_1, d.before a0 Z = true) : (Jvm.Cond.methodLink "com/example/errantry/errantry/staff/CompletionBoundsCheapestPinLaw" (56 : Nat) ({ cls := "java/lang/Math", name := "min", desc := "(II)I" } : Jvm.MethodName)).before a0 Z = true := hw _ (List.mem_of_getElem? (i := 94) rfl)
theorem own_w96 {Z : State} {a0 : Array Value} (hw : ∀ d ∈ tables_1, d.before a0 Z = true) : (Jvm.Cond.code ({ cls := "java/lang/Math", name := "min", desc := "(II)I" } : Jvm.MethodName) jdk_29_method_69_code (2 : Nat) (Option.some Jvm.ClassFile.FieldType.int)).before a0 Z = true := hw _ (List.mem_of_getElem? (i := 96) rfl)
theorem own_w95 {Z : State} {a0 : Array Value} (hw : ∀ d ∈ tables_1, d.before a0 Z = true) : (Jvm.Cond.static ({ cls := "java/lang/Math", name := "min", desc := "(II)I" } : Jvm.MethodName)).before a0 Z = true := hw _ (List.mem_of_getElem? (i := 95) rfl)
theorem d12_11 : decode method_6_code 11 = .ok (.i2l, 1) := by decide +kernel
theorem d12_12 : decode method_6_code 12 = .ok (.lreturn, 1) := by decide +kernel
theorem ef_rm12 (m : MethodId) (x0 : Int32) (x1 : Int32) (x2 : Int32) : entryFrame m #[(.int x0), (.int x1), (.int x2)] 3 = mkF m 0 #[.val (.int x0), .val (.int x1), .val (.int x2)] [] := by first | (simp [entryFrame, mkF, argsToLocals, Value.category]; done) | rfl
def Q12 (Z : State) (p1 : Int32) (p2 : Int32) (p3 : Int32) (h0 : Heap) (n0 : Nat) (v : Option Value) (h : Heap) (L : List Loc) : Prop := v = some (.long ((own_minI p2 (own_maxI (0 : Int32) (p1 - p3))).toInt64)) ∧ Fr n0 L ∧ h = h0
set_option maxRecDepth 65536 in
set_option maxHeartbeats 40000000 in
theorem rm12 (l : Launch) (Z : State) (a0 : Array Value) (hw : ∀ d ∈ tables_1, d.before a0 Z = true) (ws : List Jvm.Cond) (p1 : Int32) (p2 : Int32) (p3 : Int32) (h0 : Heap) (n0 : Nat) (O0 : Old Z n0 h0) :
    MetFree l (⟨"com/example/errantry/errantry/staff/CompletionBoundsCheapestPinLaw", "taken", "(III)J"⟩ : MethodName) (head1 (Jvm.Cond.code (⟨"com/example/errantry/errantry/staff/CompletionBoundsCheapestPinLaw", "taken", "(III)J"⟩ : MethodName) method_6_code 3 (some .long) :: ws) ({ frames := 1, cells := 0, slots := 0, locals := 14 } : Room)) (fun a U => a = #[(.int p1), (.int p2), (.int p3)] ∧ Z.Warmed39 U.vm ∧ U.heap = h0) (fun _ _ _ _ _ => True) (fun _ U o U' => ∃ v L, o = .returned v ∧ Q12 Z p1 p2 p3 h0 n0 v U'.heap L ∧ FrameEnd U o U' L ({ frames := 1, cells := 0, slots := 0, locals := 14 } : Room).cells ({ frames := 1, cells := 0, slots := 0, locals := 14 } : Room).slots) := by
  refine MetFree.of_bodySF (plainFor_of_name pn_CompletionBoundsCheapestPinLaw) hisR ?_
  intro p e s m args below meth c s₁ Bd hml0 hP hK
  obtain ⟨rfl, hZ, hh⟩ := hP
  have hx := Bd.exec
  have hby := Bd.bytes
  have hlk : meth.locks = false := BodyLoose.notSynchronized Bd
  have hml : c.maxLocals = 3 := hml0
  have hown : s.vm.findClass "com/example/errantry/errantry/staff/CompletionBoundsCheapestPinLaw" = some m.cls := findClass_of_methodNamed Bd.named
  have hnm := (name_of_methodNamed Bd.named Bd.method).1
  have X0 : Stand p l e ({ frames := 1, cells := 0, slots := 0, locals := 14 } : Room) s m #[(.int p1), (.int p2), (.int p3)] below meth c s₁ [] 0 0 := Stand.of_body Bd
  have e0 : s₁.heap = h0 := by rw [← hh, Bd.state]; rfl
  have N0 := Fr.nil n0
  show Goes p e below s (Q12 Z p1 p2 p3 h0 n0) ({ frames := 1, cells := 0, slots := 0, locals := 14 } : Room).cells ({ frames := 1, cells := 0, slots := 0, locals := 14 } : Room).slots (s₁.setTop (entryFrame m #[(.int p1), (.int p2), (.int p3)] 3))
  refine Goes.enter (g' := (mkF m 0 #[.val (.int p1), .val (.int p2), .val (.int p3)] [])) (ef_rm12 m p1 p2 p3) ?_
  refine Goes.step (fun _ k => pw_iloadN X0.here hx (hb hby d12_0) rfl _ (pw_iconst X0.here hx (v := (0 : Int32)) (hb hby d12_1) rfl _ (pw_iloadN X0.here hx (hb hby d12_2) rfl _ (pw_iloadN X0.here hx (hb hby d12_3) rfl _ (pw_isub X0.here hx (hb hby d12_4) _ k))))) ?_
  obtain ⟨_, _, ⟨T1, L1, k1, n1⟩, -, X1, ⟨Lc1, hQ1, l1, y1, z1⟩, st1⟩ := Jvm.LawKit.callS X0 hx (y := (⟨"java/lang/Math", "max", "(II)I"⟩ : MethodName)) hown (mvT hZ (own_w90 hw)) (mvT hZ (own_w91 hw)) (mvT hZ (own_w92 hw)) (mvT hZ (own_w93 hw)) (by decide) (backOf (W := 1) (rm13 l Z a0 hw [] (0 : Int32) (p1 - p3) h0 n0 O0 ) hZ (own_w93 hw) (own_w92 hw) (by decide) (by decide)) (g := (mkF m 5 #[.val (.int p1), .val (.int p2), .val (.int p3)] [(.int (p1 - p3)), (.int 0), (.int p2)])) rfl (by rw [hml]; rfl) (argsL := [(.int 0), (.int (p1 - p3))]) (rest := [(.int p2)]) (lenOf pd_1 rfl) rfl (by show 2 * 0 + _ ≤ _; exact Nat.le_of_eq rfl) (hb hby d12_5) (fun _ _ => ⟨rfl, e0, (by decide : 0 + 0 ≤ _), (by decide : 0 + 0 ≤ _)⟩)
  dsimp only [Pt.U, Pt.locs, Pt.cells, Pt.slots] at X1 l1 y1 z1 st1 hQ1
  subst l1 y1 z1
  obtain ⟨rfl, Nq1, eh1⟩ := hQ1
  have N1 := Fr.app N0 Nq1
  refine Goes.step (B := T1.setTop (mkF m 8 #[.val (.int p1), .val (.int p2), .val (.int p3)] [(.int (own_maxI (0 : Int32) (p1 - p3))), (.int p2)])) st1 ?_
  obtain ⟨_, _, ⟨T2, L2, k2, n2⟩, -, X2, ⟨Lc2, hQ2, l2, y2, z2⟩, st2⟩ := Jvm.LawKit.callS X1 hx (y := (⟨"java/lang/Math", "min", "(II)I"⟩ : MethodName)) hown (mvT hZ (own_w94 hw)) (mvT hZ (own_w95 hw)) (mvT hZ (own_w92 hw)) (mvT hZ (own_w96 hw)) (by decide) (backOf (W := 0) (rm14 l Z a0 hw [] p2 (own_maxI (0 : Int32) (p1 - p3)) h0 n0 O0 ) hZ (own_w96 hw) (own_w92 hw) (by decide) (by decide)) (g := (mkF m 8 #[.val (.int p1), .val (.int p2), .val (.int p3)] [(.int (own_maxI (0 : Int32) (p1 - p3))), (.int p2)])) rfl (by rw [hml]; rfl) (argsL := [(.int p2), (.int (own_maxI (0 : Int32) (p1 - p3)))]) (rest := []) (lenOf pd_1 rfl) rfl (by show 2 * 0 + _ ≤ _; exact Nat.le_of_eq rfl) (hb hby d12_8) (fun _ _ => ⟨rfl, eh1, (by decide : 0 + 0 ≤ _), (by decide : 0 + 0 ≤ _)⟩)
  dsimp only [Pt.U, Pt.locs, Pt.cells, Pt.slots] at X2 l2 y2 z2 st2 hQ2
  subst l2 y2 z2
  obtain ⟨rfl, Nq2, eh2⟩ := hQ2
  have N2 := Fr.app N1 Nq2
  refine Goes.step (B := T2.setTop (mkF m 11 #[.val (.int p1), .val (.int p2), .val (.int p3)] [(.int (own_minI p2 (own_maxI (0 : Int32) (p1 - p3))))])) st2 ?_
  refine Goes.step (B := T2.setTop (mkF m 12 #[.val (.int p1), .val (.int p2), .val (.int p3)] [(.long (own_minI p2 (own_maxI (0 : Int32) (p1 - p3))).toInt64)])) (fun _ k => XS.i2l X2.here hx rfl (hb hby d12_11) rfl k) ?_
  exact Goes.retJ X2 hx eh2 Bd.returns hlk (hb hby d12_12) (by decide) (by decide) (⟨rfl, N2, rfl⟩)
theorem d9_0 : decode prog_38_method_6_code 0 = .ok (.aload_n 0, 1) := by decide +kernel
theorem d9_1 : decode prog_38_method_6_code 1 = .ok (.getfield 64, 3) := by decide +kernel
theorem own_w61 {Z : State} {a0 : Array Value} (hw : ∀ d ∈ tables_1, d.before a0 Z = true) : (Jvm.Cond.fieldLink "com/example/errantry/errantry/staff/CompletionBounds" (64 : Nat) "com/example/errantry/errantry/staff/CompletionBounds" "most" "I").before a0 Z = true := hw _ (List.mem_of_getElem? (i := 61) rfl)
theorem d9_4 : decode prog_38_method_6_code 4 = .ok (.ireturn, 1) := by decide +kernel
theorem pn_CompletionBounds : plainName "com/example/errantry/errantry/staff/CompletionBounds" = true := by first | (simp [plainName, overriddenIn]; done) | decide +kernel
theorem ef_rm9 (m : MethodId) (x0 : Addr) : entryFrame m #[(.ref x0)] 1 = mkF m 0 #[.val (.ref x0)] [] := by first | (simp [entryFrame, mkF, argsToLocals, Value.category]; done) | rfl
def Q9 (Z : State) (a1 : Addr) (mo : Int32) (h0 : Heap) (n0 : Nat) (v : Option Value) (h : Heap) (L : List Loc) : Prop := v = some (.int mo) ∧ Fr n0 L ∧ h = h0
set_option maxRecDepth 65536 in
set_option maxHeartbeats 40000000 in
theorem rm9 (l : Launch) (Z : State) (a0 : Array Value) (hw : ∀ d ∈ tables_1, d.before a0 Z = true) (ws : List Jvm.Cond) (a1 : Addr) (mo : Int32) (h0 : Heap) (n0 : Nat) (O0 : Old Z n0 h0) (Fm : Fld Z h0 a1 "com/example/errantry/errantry/staff/CompletionBounds" "most" "I" (.int mo)) :
    MetFree l (⟨"com/example/errantry/errantry/staff/CompletionBounds", "most", "()I"⟩ : MethodName) (head1 (Jvm.Cond.code (⟨"com/example/errantry/errantry/staff/CompletionBounds", "most", "()I"⟩ : MethodName) prog_38_method_6_code 1 (some .int) :: ws) ({ frames := 0, cells := 0, slots := 0, locals := 0 } : Room)) (fun a U => a = #[(.ref a1)] ∧ Z.Warmed39 U.vm ∧ U.heap = h0) (fun _ _ _ _ _ => True) (fun _ U o U' => ∃ v L, o = .returned v ∧ Q9 Z a1 mo h0 n0 v U'.heap L ∧ FrameEnd U o U' L ({ frames := 0, cells := 0, slots := 0, locals := 0 } : Room).cells ({ frames := 0, cells := 0, slots := 0, locals := 0 } : Room).slots) := by
  refine MetFree.of_bodySF (plainFor_of_name pn_CompletionBounds) hisR ?_
  intro p e s m args below meth c s₁ Bd hml0 hP hK
  obtain ⟨rfl, hZ, hh⟩ := hP
  have hx := Bd.exec
  have hby := Bd.bytes
  have hlk : meth.locks = false := BodyLoose.notSynchronized Bd
  have hml : c.maxLocals = 1 := hml0
  have hown : s.vm.findClass "com/example/errantry/errantry/staff/CompletionBounds" = some m.cls := findClass_of_methodNamed Bd.named
  have hnm := (name_of_methodNamed Bd.named Bd.method).1
  have X0 : Stand p l e ({ frames := 0, cells := 0, slots := 0, locals := 0 } : Room) s m #[(.ref a1)] below meth c s₁ [] 0 0 := Stand.of_body Bd
  have e0 : s₁.heap = h0 := by rw [← hh, Bd.state]; rfl
  have N0 := Fr.nil n0
  show Goes p e below s (Q9 Z a1 mo h0 n0) ({ frames := 0, cells := 0, slots := 0, locals := 0 } : Room).cells ({ frames := 0, cells := 0, slots := 0, locals := 0 } : Room).slots (s₁.setTop (entryFrame m #[(.ref a1)] 1))
  refine Goes.enter (g' := (mkF m 0 #[.val (.ref a1)] [])) (ef_rm9 m a1) ?_
  refine Goes.step (fun _ k => pw_aloadN X0.here hx (hb hby d9_0) rfl rfl _ k) ?_
  obtain ⟨T1, X1, e1, st1⟩ := getF X0 hx hZ hown (host := "") (Or.inl (own_w61 hw)) Via.refl e0 Fm (g := (mkF m 1 #[.val (.ref a1)] [(.ref a1)])) rfl rfl (hb hby d9_1)
  refine Goes.step (B := T1.setTop (mkF m 4 #[.val (.ref a1)] [(.int mo)])) st1 ?_
  exact Goes.retI X1 hx e1 Bd.returns hlk (hb hby d9_4) (by decide) (by decide) (⟨rfl, N0, rfl⟩)
theorem d10_0 : decode prog_38_method_7_code 0 = .ok (.aload_n 0, 1) := by decide +kernel
theorem d10_1 : decode prog_38_method_7_code 1 = .ok (.getfield 34, 3) := by decide +kernel
theorem own_w36 {Z : State} {a0 : Array Value} (hw : ∀ d ∈ tables_1, d.before a0 Z = true) : (Jvm.Cond.fieldLink "com/example/errantry/errantry/staff/CompletionBounds" (34 : Nat) "com/example/errantry/errantry/staff/CompletionBounds" "cheapest" "[[J").before a0 Z = true := hw _ (List.mem_of_getElem? (i := 36) rfl)
theorem d10_4 : decode prog_38_method_7_code 4 = .ok (.aload_n 0, 1) := by decide +kernel
theorem d10_5 : decode prog_38_method_7_code 5 = .ok (.getfield 52, 3) := by decide +kernel
theorem own_w53 {Z : State} {a0 : Array Value} (hw : ∀ d ∈ tables_1, d.before a0 Z = true) : (Jvm.Cond.fieldLink "com/example/errantry/errantry/staff/CompletionBounds" (52 : Nat) "com/example/errantry/errantry/staff/CompletionBounds" "poolSize" "I").before a0 Z = true := hw _ (List.mem_of_getElem? (i := 53) rfl)
theorem d10_8 : decode prog_38_method_7_code 8 = .ok (.aaload, 1) := by decide +kernel
theorem d10_9 : decode prog_38_method_7_code 9 = .ok (.iload_n 1, 1) := by decide +kernel
theorem d10_10 : decode prog_38_method_7_code 10 = .ok (.laload, 1) := by decide +kernel
theorem d10_11 : decode prog_38_method_7_code 11 = .ok (.lreturn, 1) := by decide +kernel
theorem ef_rmCH (m : MethodId) (x0 : Addr) (x1 : Int32) : entryFrame m #[(.ref x0), (.int x1)] 2 = mkF m 0 #[.val (.ref x0), .val (.int x1)] [] := by first | (simp [entryFrame, mkF, argsToLocals, Value.category]; done) | rfl
def QCH (Z : State) (a1 : Addr) (cA : Addr) (kc : ClassId) (rl : List Value) (rn : Addr) (kr : ClassId) (zr : Int32) (B : List Int64) (pn : Int32) (kk : Int32) (h0 : Heap) (n0 : Nat) (v : Option Value) (h : Heap) (L : List Loc) : Prop := v = some (.long (B.getD kk.toNatClampNeg 0)) ∧ Fr n0 L ∧ h = h0
set_option maxRecDepth 65536 in
set_option maxHeartbeats 40000000 in
theorem rmCH (l : Launch) (Z : State) (a0 : Array Value) (hw : ∀ d ∈ tables_1, d.before a0 Z = true) (ws : List Jvm.Cond) (a1 : Addr) (cA : Addr) (kc : ClassId) (rl : List Value) (rn : Addr) (kr : ClassId) (zr : Int32) (B : List Int64) (pn : Int32) (kk : Int32) (h0 : Heap) (n0 : Nat) (O0 : Old Z n0 h0) (Fc : Fld Z h0 a1 "com/example/errantry/errantry/staff/CompletionBounds" "cheapest" "[[J" (.ref cA)) (Fp : Fld Z h0 a1 "com/example/errantry/errantry/staff/CompletionBounds" "poolSize" "I" (.int pn)) (Vc : Arv Z h0 cA kc (.array .long) (4 : Int32) rl .null) (hrl : rl.getD pn.toNatClampNeg .null = .ref rn) (hpn : ¬ pn < 0 ∧ pn < (4 : Int32)) (Vr : Arv Z h0 rn kr .long zr (B.map Value.long) (.long 0)) (hkk : ¬ kk < 0 ∧ kk < zr) :
    MetFree l (⟨"com/example/errantry/errantry/staff/CompletionBounds", "cheapest", "(I)J"⟩ : MethodName) (head1 (Jvm.Cond.code (⟨"com/example/errantry/errantry/staff/CompletionBounds", "cheapest", "(I)J"⟩ : MethodName) prog_38_method_7_code 2 (some .long) :: ws) ({ frames := 0, cells := 0, slots := 0, locals := 0 } : Room)) (fun a U => a = #[(.ref a1), (.int kk)] ∧ Z.Warmed39 U.vm ∧ U.heap = h0) (fun _ _ _ _ _ => True) (fun _ U o U' => ∃ v L, o = .returned v ∧ QCH Z a1 cA kc rl rn kr zr B pn kk h0 n0 v U'.heap L ∧ FrameEnd U o U' L ({ frames := 0, cells := 0, slots := 0, locals := 0 } : Room).cells ({ frames := 0, cells := 0, slots := 0, locals := 0 } : Room).slots) := by
  refine MetFree.of_bodySF (plainFor_of_name pn_CompletionBounds) hisR ?_
  intro p e s m args below meth c s₁ Bd hml0 hP hK
  obtain ⟨rfl, hZ, hh⟩ := hP
  have hx := Bd.exec
  have hby := Bd.bytes
  have hlk : meth.locks = false := BodyLoose.notSynchronized Bd
  have hml : c.maxLocals = 2 := hml0
  have hown : s.vm.findClass "com/example/errantry/errantry/staff/CompletionBounds" = some m.cls := findClass_of_methodNamed Bd.named
  have hnm := (name_of_methodNamed Bd.named Bd.method).1
  have X0 : Stand p l e ({ frames := 0, cells := 0, slots := 0, locals := 0 } : Room) s m #[(.ref a1), (.int kk)] below meth c s₁ [] 0 0 := Stand.of_body Bd
  have e0 : s₁.heap = h0 := by rw [← hh, Bd.state]; rfl
  have N0 := Fr.nil n0
  show Goes p e below s (QCH Z a1 cA kc rl rn kr zr B pn kk h0 n0) ({ frames := 0, cells := 0, slots := 0, locals := 0 } : Room).cells ({ frames := 0, cells := 0, slots := 0, locals := 0 } : Room).slots (s₁.setTop (entryFrame m #[(.ref a1), (.int kk)] 2))
  refine Goes.enter (g' := (mkF m 0 #[.val (.ref a1), .val (.int kk)] [])) (ef_rmCH m a1 kk) ?_
  refine Goes.step (fun _ k => pw_aloadN X0.here hx (hb hby d10_0) rfl rfl _ k) ?_
  obtain ⟨T1, X1, e1, st1⟩ := getF X0 hx hZ hown (host := "") (Or.inl (own_w36 hw)) Via.refl e0 Fc (g := (mkF m 1 #[.val (.ref a1), .val (.int kk)] [(.ref a1)])) rfl rfl (hb hby d10_1)
  refine Goes.step (B := T1.setTop (mkF m 4 #[.val (.ref a1), .val (.int kk)] [(.ref cA)])) st1 ?_
  refine Goes.step (fun _ k => pw_aloadN X1.here hx (hb hby d10_4) rfl rfl _ k) ?_
  obtain ⟨T2, X2, e2, st2⟩ := getF X1 hx hZ hown (host := "") (Or.inl (own_w53 hw)) Via.refl e1 Fp (g := (mkF m 5 #[.val (.ref a1), .val (.int kk)] [(.ref a1), (.ref cA)])) rfl rfl (hb hby d10_5)
  refine Goes.step (B := T2.setTop (mkF m 8 #[.val (.ref a1), .val (.int kk)] [(.int pn), (.ref cA)])) st2 ?_
  obtain ⟨c3, Ar3, -, Sz3, Nn3, Hs3, -⟩ := id Vc
  have hin3 : ¬ (pn < 0 ∨ c3.slots.size ≤ (pn).toNatClampNeg) := inb_of Sz3 hpn
  refine Goes.step (B := T2.setTop (mkF m 9 #[.val (.ref a1), .val (.int kk)] [(.ref rn)])) (X2.aaload hx (j := pn) (v := (.ref rn)) (by rw [e2]; exact Ar3.1) (State.isArrayOf_alike hZ.alike Ar3.2.1) rfl Ar3.2.2 hin3 (Has.at Hs3 hin3 hrl) (g := (mkF m 8 #[.val (.ref a1), .val (.int kk)] [(.int pn), (.ref cA)])) rfl rfl (hb hby d10_8)) ?_
  refine Goes.step (fun _ k => pw_iloadN X2.here hx (hb hby d10_9) rfl _ k) ?_
  obtain ⟨c4, Ar4, -, Sz4, Nn4, Hs4, -⟩ := id Vr
  have hin4 : ¬ (kk < 0 ∨ c4.slots.size ≤ (kk).toNatClampNeg) := inb_of Sz4 hkk
  refine Goes.step (B := T2.setTop (mkF m 11 #[.val (.ref a1), .val (.int kk)] [(.long (B.getD kk.toNatClampNeg 0))])) (X2.laload hx (j := kk) (v := (.long (B.getD kk.toNatClampNeg 0))) (by rw [e2]; exact Ar4.1) (State.isArrayOf_alike hZ.alike Ar4.2.1) Ar4.2.2 hin4 (Has.at Hs4 hin4 (own_getDL B _)) (g := (mkF m 10 #[.val (.ref a1), .val (.int kk)] [(.int kk), (.ref rn)])) rfl rfl (hb hby d10_10)) ?_
  exact Goes.retJ X2 hx e2 Bd.returns hlk (hb hby d10_11) (by decide) (by decide) (⟨rfl, N0, rfl⟩)
theorem d7_0 : decode prog_38_method_4_code 0 = .ok (.aload_n 0, 1) := by decide +kernel
theorem d7_1 : decode prog_38_method_4_code 1 = .ok (.ifnull 13, 3) := by decide +kernel
theorem d7_14 : decode prog_38_method_4_code 14 = .ok (.iload_n 1, 1) := by decide +kernel
theorem d7_15 : decode prog_38_method_4_code 15 = .ok (.iconst 1, 1) := by decide +kernel
theorem d7_16 : decode prog_38_method_4_code 16 = .ok (.iadd, 1) := by decide +kernel
theorem d7_17 : decode prog_38_method_4_code 17 = .ok (.newarray .long, 2) := by decide +kernel
theorem own_w10 {Z : State} {a0 : Array Value} (hw : ∀ d ∈ tables_1, d.before a0 Z = true) : (Jvm.Cond.arrayClass Jvm.ClassFile.FieldType.long).before a0 Z = true := hw _ (List.mem_of_getElem? (i := 10) rfl)
theorem d7_19 : decode prog_38_method_4_code 19 = .ok (.areturn, 1) := by decide +kernel
theorem ef_rmROW (m : MethodId) (x1 : Int32) : entryFrame m #[.null, (.int x1)] 2 = mkF m 0 #[.val .null, .val (.int x1)] [] := by first | (simp [entryFrame, mkF, argsToLocals, Value.category]; done) | rfl
def QROW (Z : State) (mo : Int32) (h0 : Heap) (n0 : Nat) (v : Option Value) (h : Heap) (L : List Loc) : Prop := ∃ (x : Addr) (k : ClassId), v = some (.ref x) ∧ Fr n0 L ∧ Keep h0 h [] ∧ n0 ≤ x ∧ h0.size ≤ x ∧ Exa Z h x "[J" ∧ Arv Z h x k .long (mo + (1 : Int32)) ((List.replicate (mo + (1 : Int32)).toNatClampNeg (0 : Int64)).map Value.long) (.long 0)
set_option maxRecDepth 65536 in
set_option maxHeartbeats 40000000 in
theorem rmROW (l : Launch) (Z : State) (a0 : Array Value) (hw : ∀ d ∈ tables_1, d.before a0 Z = true) (ws : List Jvm.Cond) (mo : Int32) (h0 : Heap) (n0 : Nat) (O0 : Old Z n0 h0) (hm0 : 0 ≤ mo.toInt) (hm1 : mo.toInt ≤ 12) :
    MetFree l (⟨"com/example/errantry/errantry/staff/CompletionBounds", "row", "([JI)[J"⟩ : MethodName) (head1 (Jvm.Cond.code (⟨"com/example/errantry/errantry/staff/CompletionBounds", "row", "([JI)[J"⟩ : MethodName) prog_38_method_4_code 2 (some (.array .long)) :: ws) ({ frames := 0, cells := 1, slots := 13, locals := 0 } : Room)) (fun a U => a = #[.null, (.int mo)] ∧ Z.Warmed39 U.vm ∧ U.heap = h0) (fun _ _ _ _ _ => True) (fun _ U o U' => ∃ v L, o = .returned v ∧ QROW Z mo h0 n0 v U'.heap L ∧ FrameEnd U o U' L ({ frames := 0, cells := 1, slots := 13, locals := 0 } : Room).cells ({ frames := 0, cells := 1, slots := 13, locals := 0 } : Room).slots) := by
  refine MetFree.of_bodySF (plainFor_of_name pn_CompletionBounds) hisR ?_
  intro p e s m args below meth c s₁ Bd hml0 hP hK
  obtain ⟨rfl, hZ, hh⟩ := hP
  have hx := Bd.exec
  have hby := Bd.bytes
  have hlk : meth.locks = false := BodyLoose.notSynchronized Bd
  have hml : c.maxLocals = 2 := hml0
  have hown : s.vm.findClass "com/example/errantry/errantry/staff/CompletionBounds" = some m.cls := findClass_of_methodNamed Bd.named
  have hnm := (name_of_methodNamed Bd.named Bd.method).1
  have X0 : Stand p l e ({ frames := 0, cells := 1, slots := 13, locals := 0 } : Room) s m #[.null, (.int mo)] below meth c s₁ [] 0 0 := Stand.of_body Bd
  have e0 : s₁.heap = h0 := by rw [← hh, Bd.state]; rfl
  have N0 := Fr.nil n0
  show Goes p e below s (QROW Z mo h0 n0) ({ frames := 0, cells := 1, slots := 13, locals := 0 } : Room).cells ({ frames := 0, cells := 1, slots := 13, locals := 0 } : Room).slots (s₁.setTop (entryFrame m #[.null, (.int mo)] 2))
  refine Goes.enter (g' := (mkF m 0 #[.val .null, .val (.int mo)] [])) (ef_rmROW m mo) ?_
  have tz := own_p1 (a := mo) (by omega)
  have hz0 : ¬ (mo + (1 : Int32)) < 0 := own_nlt (by rw [own_i0]; omega)
  have nz := own_nat (j := mo + 1) (by omega)
  refine Goes.step (fun _ k => pw_aloadN X0.here hx (hb hby d7_0) rfl rfl _ k) ?_
  refine Goes.step (B := s₁.setTop (mkF m 14 #[.val .null, .val (.int mo)] [])) (fun _ k => XS.ifnullYes X0.here hx rfl (pc0 := 1) (pc' := 14) rfl (hb hby d7_1) rfl (by decide) (by decide) k) ?_
  refine Goes.step (fun _ k => pw_iloadN X0.here hx (hb hby d7_14) rfl _ (pw_iconst X0.here hx (v := (1 : Int32)) (hb hby d7_15) rfl _ (pw_iadd X0.here hx (hb hby d7_16) _ k))) ?_
  obtain ⟨T1, h1, k1, X1, e1, E1, A1, G1, st1⟩ := newPE (aty := .long) X0 hx hZ (own_w10 hw) e0 (g := (mkF m 17 #[.val .null, .val (.int mo)] [(.int (mo + (1 : Int32)))])) rfl (hb hby d7_17) rfl hz0 (cap := 13) (by omega) (by decide) (by decide) (by decide) (ad := "[J") rfl
  obtain ⟨b1, g1⟩ : ∃ z, z = h0.size := ⟨_, rfl⟩
  rw [← g1] at A1 G1 st1
  have g_b1 : n0 ≤ b1 := Nat.le_trans (own_z O0) (Nat.le_of_eq g1.symm)
  have O_1 := O0.ext E1
  have sz_b1 : h0.size ≤ b1 := Nat.le_trans (Keep.refl h0 []).1 (Nat.le_of_eq g1.symm)
  have K_1 := (Keep.refl h0 []).ext E1
  have V_b1 := Arv.new A1 hz0
  refine Goes.step (B := T1.setTop (mkF m 19 #[.val .null, .val (.int mo)] [(.ref b1)])) st1 ?_
  have Vp_b1 := Arv.pad V_b1 (own_padL (mo + (1 : Int32)).toNatClampNeg)
  exact Goes.retA X1 hx e1 Bd.returns rfl rfl hlk (hb hby d7_19) (by decide) (by decide) (⟨b1, k1, rfl, N0, K_1, g_b1, sz_b1, G1, Vp_b1⟩)
theorem d8_0 : decode jdk_65_method_103_code 0 = .ok (.iconst 0, 1) := by decide +kernel
theorem d8_1 : decode jdk_65_method_103_code 1 = .ok (.istore_n 2, 1) := by decide +kernel
theorem d8_2 : decode jdk_65_method_103_code 2 = .ok (.aload_n 0, 1) := by decide +kernel
theorem d8_3 : decode jdk_65_method_103_code 3 = .ok (.arraylength, 1) := by decide +kernel
theorem d8_4 : decode jdk_65_method_103_code 4 = .ok (.istore_n 3, 1) := by decide +kernel
theorem d8_5 : decode jdk_65_method_103_code 5 = .ok (.iload_n 2, 1) := by decide +kernel
theorem d8_6 : decode jdk_65_method_103_code 6 = .ok (.iload_n 3, 1) := by decide +kernel
theorem d8_7 : decode jdk_65_method_103_code 7 = .ok (.if_icmp .ge 13, 3) := by decide +kernel
theorem d8_20 : decode jdk_65_method_103_code 20 = .ok (.return_, 1) := by decide +kernel
theorem d8_10 : decode jdk_65_method_103_code 10 = .ok (.aload_n 0, 1) := by decide +kernel
theorem d8_11 : decode jdk_65_method_103_code 11 = .ok (.iload_n 2, 1) := by decide +kernel
theorem d8_12 : decode jdk_65_method_103_code 12 = .ok (.iload_n 1, 1) := by decide +kernel
theorem d8_13 : decode jdk_65_method_103_code 13 = .ok (.iastore, 1) := by decide +kernel
theorem d8_14 : decode jdk_65_method_103_code 14 = .ok (.iinc 2 1, 3) := by decide +kernel
theorem d8_17 : decode jdk_65_method_103_code 17 = .ok (.goto (-12), 3) := by decide +kernel
theorem pn_Arrays : plainName "java/util/Arrays" = true := by first | (simp [plainName, overriddenIn]; done) | decide +kernel
theorem ef_rmFILL (m : MethodId) (x0 : Addr) (x1 : Int32) : entryFrame m #[(.ref x0), (.int x1)] 4 = mkF m 0 #[.val (.ref x0), .val (.int x1), .unset, .unset] [] := by first | (simp [entryFrame, mkF, argsToLocals, Value.category]; done) | rfl
def QFILL (Z : State) (ff : Addr) (kf : ClassId) (zf : Int32) (lv0 : List Value) (p1 : Int32) (h0 : Heap) (n0 : Nat) (v : Option Value) (h : Heap) (L : List Loc) : Prop := v = none ∧ Fr n0 L ∧ Keep h0 h [ff]
set_option maxRecDepth 65536 in
set_option maxHeartbeats 40000000 in
theorem rmFILL (l : Launch) (Z : State) (a0 : Array Value) (hw : ∀ d ∈ tables_1, d.before a0 Z = true) (ws : List Jvm.Cond) (ff : Addr) (kf : ClassId) (zf : Int32) (lv0 : List Value) (p1 : Int32) (h0 : Heap) (n0 : Nat) (O0 : Old Z n0 h0) (Vf : Arv Z h0 ff kf .int zf lv0 (.int 0)) (gf : n0 ≤ ff) (hl0 : lv0.length = zf.toNatClampNeg) (hz9 : zf.toInt < 1000) :
    MetFree l (⟨"java/util/Arrays", "fill", "([II)V"⟩ : MethodName) (head1 (Jvm.Cond.code (⟨"java/util/Arrays", "fill", "([II)V"⟩ : MethodName) jdk_65_method_103_code 4 none :: ws) ({ frames := 0, cells := 0, slots := 0, locals := 0 } : Room)) (fun a U => a = #[(.ref ff), (.int p1)] ∧ Z.Warmed39 U.vm ∧ U.heap = h0) (fun _ _ _ _ _ => True) (fun _ U o U' => ∃ v L, o = .returned v ∧ QFILL Z ff kf zf lv0 p1 h0 n0 v U'.heap L ∧ FrameEnd U o U' L ({ frames := 0, cells := 0, slots := 0, locals := 0 } : Room).cells ({ frames := 0, cells := 0, slots := 0, locals := 0 } : Room).slots) := by
  refine MetFree.of_bodySF (plainFor_of_name pn_Arrays) hisR ?_
  intro p e s m args below meth c s₁ Bd hml0 hP hK
  obtain ⟨rfl, hZ, hh⟩ := hP
  have hx := Bd.exec
  have hby := Bd.bytes
  have hlk : meth.locks = false := BodyLoose.notSynchronized Bd
  have hml : c.maxLocals = 4 := hml0
  have hown : s.vm.findClass "java/util/Arrays" = some m.cls := findClass_of_methodNamed Bd.named
  have hnm := (name_of_methodNamed Bd.named Bd.method).1
  have X0 : Stand p l e ({ frames := 0, cells := 0, slots := 0, locals := 0 } : Room) s m #[(.ref ff), (.int p1)] below meth c s₁ [] 0 0 := Stand.of_body Bd
  have e0 : s₁.heap = h0 := by rw [← hh, Bd.state]; rfl
  have N0 := Fr.nil n0
  show Goes p e below s (QFILL Z ff kf zf lv0 p1 h0 n0) ({ frames := 0, cells := 0, slots := 0, locals := 0 } : Room).cells ({ frames := 0, cells := 0, slots := 0, locals := 0 } : Room).slots (s₁.setTop (entryFrame m #[(.ref ff), (.int p1)] 4))
  refine Goes.enter (g' := (mkF m 0 #[.val (.ref ff), .val (.int p1), .unset, .unset] [])) (ef_rmFILL m ff p1) ?_
  have hz0 : ¬ zf < 0 := by obtain ⟨_, _, _, _, q, _⟩ := id Vf; exact q
  have tz := own_nlt' hz0
  rw [own_i0] at tz
  have nz := own_nat tz
  refine Goes.step (fun _ k => pw_iconst X0.here hx (v := (0 : Int32)) (hb hby d8_0) rfl _ (pw_istoreN X0.here hx (l' := #[.val (.ref ff), .val (.int p1), .val (.int 0), .unset]) (hb hby d8_1) rfl _ (pw_aloadN X0.here hx (hb hby d8_2) rfl rfl _ k))) ?_
  obtain ⟨c1, Ar1, -, Sz1, Nn1, -, -⟩ := id Vf
  have len1 := X0.arraylength hx (by rw [e0]; exact Ar1.1) (State.isArrayOf_alike hZ.alike Ar1.2.1) (g := (mkF m 3 #[.val (.ref ff), .val (.int p1), .val (.int 0), .unset] [(.ref ff)])) rfl rfl (hb hby d8_3)
  rw [len_of Sz1 Nn1] at len1
  refine Goes.step (B := s₁.setTop (mkF m 4 #[.val (.ref ff), .val (.int p1), .val (.int 0), .unset] [(.int zf)])) len1 ?_
  refine Goes.step (fun _ k => pw_istoreN X0.here hx (l' := #[.val (.ref ff), .val (.int p1), .val (.int 0), .val (.int zf)]) (hb hby d8_4) rfl _ k) ?_
  have J2 : ∀ (d : Nat), ∀ (Tj2 : State) (Hj2 : Heap) (lj2 : List Loc) (fi : Int32) (lv : List Value), Stand p l e ({ frames := 0, cells := 0, slots := 0, locals := 0 } : Room) s m #[(.ref ff), (.int p1)] below meth c Tj2 lj2 0 0 → Tj2.heap = Hj2 → Old Z n0 Hj2 → Fr n0 lj2 → Keep h0 Hj2 [ff] → Arv Z Hj2 ff kf .int zf lv (.int 0) → ((d : Int) + fi.toInt = zf.toInt ∧ 0 ≤ fi.toInt ∧ lv.length = zf.toNatClampNeg) → Goes p e below s (QFILL Z ff kf zf lv0 p1 h0 n0) ({ frames := 0, cells := 0, slots := 0, locals := 0 } : Room).cells ({ frames := 0, cells := 0, slots := 0, locals := 0 } : Room).slots (Tj2.setTop (mkF m 5 #[.val (.ref ff), .val (.int p1), .val (.int fi), .val (.int zf)] [])) := by
   intro d
   induction d with
   | zero =>
     intro Tj2 Hj2 lj2 fi lv Xj2 ej2 Oj2 Nj2 Kj2 fj2_0 hJ2
     obtain ⟨hd, hi0, hl⟩ := hJ2
     refine Goes.step (fun _ k => pw_iloadN Xj2.here hx (hb hby d8_5) rfl _ (pw_iloadN Xj2.here hx (hb hby d8_6) rfl _ (pw_icmpYes Xj2.here hx (pc' := 20) (hb hby d8_7) (flt (own_nlt (by omega))).2.1 (by decide) (by decide) _ k))) ?_
     exact Goes.retV Xj2 hx ej2 Bd.returns hlk (hb hby d8_20) (by decide) (by decide) (⟨rfl, Nj2, Kj2⟩)
   | succ d ih2 =>
     intro Tj2 Hj2 lj2 fi lv Xj2 ej2 Oj2 Nj2 Kj2 fj2_0 hJ2
     obtain ⟨hd, hi0, hl⟩ := hJ2
     have hlt : fi < zf := own_lt (by omega)
     have ni := own_nat hi0
     refine Goes.step (fun _ k => pw_iloadN Xj2.here hx (hb hby d8_5) rfl _ (pw_iloadN Xj2.here hx (hb hby d8_6) rfl _ (pw_icmpNo Xj2.here hx (hb hby d8_7) (tlt hlt).2.1 _ (pw_aloadN Xj2.here hx (hb hby d8_10) rfl rfl _ (pw_iloadN Xj2.here hx (hb hby d8_11) rfl _ (pw_iloadN Xj2.here hx (hb hby d8_12) rfl _ k)))))) ?_
     obtain ⟨c3, Ar3, q3, Sz3, Nn3, Hs3, Gs3⟩ := id fj2_0
     have hin3 : ¬ (fi < 0 ∨ c3.slots.size ≤ (fi).toNatClampNeg) := inb_of Sz3 ⟨own_nlt (by rw [own_i0]; exact hi0), hlt⟩
     obtain ⟨T3, h3, X3, e3, W3, st3⟩ := stI Xj2 hx hZ ej2 Ar3 (j := fi) hin3 (g := (mkF m 13 #[.val (.ref ff), .val (.int p1), .val (.int fi), .val (.int zf)] [(.int p1), (.int fi), (.ref ff)])) rfl rfl (hb hby d8_13)
     have V3 : Arv Z h3 ff kf .int zf (lv.set (fi).toNatClampNeg (.int p1)) (.int 0) := Arv.set Ar3 q3 Sz3 Nn3 Hs3 Gs3 rfl W3 _ rfl (by rw [hl]; have q := own_lt0 hlt; omega)
     have N3 := Fr.snoc X3 Nj2 gf
     have O_3 := Oj2.wr W3 gf
     have K_3 := Kj2.wr W3 (Or.inl (List.mem_of_getElem? (i := 0) rfl))
     refine Goes.step (B := T3.setTop (mkF m 14 #[.val (.ref ff), .val (.int p1), .val (.int fi), .val (.int zf)] [])) st3 ?_
     refine Goes.step (fun _ k => pw_iinc X3.here hx (l' := #[.val (.ref ff), .val (.int p1), .val (.int (fi + (1 : Int32))), .val (.int zf)]) (hb hby d8_14) rfl rfl _ (pw_goto X3.here hx (pc' := 5) (hb hby d8_17) (by decide) (by decide) _ k)) ?_
     exact ih2 _ _ _ (fi + (1 : Int32)) (lv.set fi.toNatClampNeg (.int p1)) X3 e3 O_3 N3 K_3 V3 ⟨by rw [own_p1 (by omega)]; omega, by rw [own_p1 (by omega)]; omega, by rw [List.length_set]; exact hl⟩
  exact J2 zf.toInt.toNat _ _ _ (0 : Int32) lv0 X0 e0 O0 N0 (Keep.refl h0 [ff]) Vf ⟨by rw [own_i0]; omega, by decide, hl0⟩
theorem d17_0 : decode prog_38_method_5_code 0 = .ok (.aload_n 0, 1) := by decide +kernel
theorem d17_1 : decode prog_38_method_5_code 1 = .ok (.getfield 15, 3) := by decide +kernel
theorem own_w23 {Z : State} {a0 : Array Value} (hw : ∀ d ∈ tables_1, d.before a0 Z = true) : (Jvm.Cond.fieldLink "com/example/errantry/errantry/staff/CompletionBounds" (15 : Nat) "com/example/errantry/errantry/staff/CompletionBounds" "cost" "[J").before a0 Z = true := hw _ (List.mem_of_getElem? (i := 23) rfl)
theorem d17_4 : decode prog_38_method_5_code 4 = .ok (.iload_n 3, 1) := by decide +kernel
theorem d17_5 : decode prog_38_method_5_code 5 = .ok (.laload, 1) := by decide +kernel
theorem d17_6 : decode prog_38_method_5_code 6 = .ok (.lstore 5, 2) := by decide +kernel
theorem d17_8 : decode prog_38_method_5_code 8 = .ok (.aload_n 0, 1) := by decide +kernel
theorem d17_9 : decode prog_38_method_5_code 9 = .ok (.getfield 19, 3) := by decide +kernel
theorem own_w25 {Z : State} {a0 : Array Value} (hw : ∀ d ∈ tables_1, d.before a0 Z = true) : (Jvm.Cond.fieldLink "com/example/errantry/errantry/staff/CompletionBounds" (19 : Nat) "com/example/errantry/errantry/staff/CompletionBounds" "members" "[I").before a0 Z = true := hw _ (List.mem_of_getElem? (i := 25) rfl)
theorem d17_12 : decode prog_38_method_5_code 12 = .ok (.iload_n 3, 1) := by decide +kernel
theorem d17_13 : decode prog_38_method_5_code 13 = .ok (.iaload, 1) := by decide +kernel
theorem d17_14 : decode prog_38_method_5_code 14 = .ok (.istore 7, 2) := by decide +kernel
theorem d17_16 : decode prog_38_method_5_code 16 = .ok (.iconst 0, 1) := by decide +kernel
theorem d17_17 : decode prog_38_method_5_code 17 = .ok (.istore 8, 2) := by decide +kernel
theorem d17_62 : decode prog_38_method_5_code 62 = .ok (.iconst 0, 1) := by decide +kernel
theorem d17_63 : decode prog_38_method_5_code 63 = .ok (.istore 9, 2) := by decide +kernel
theorem d17_65 : decode prog_38_method_5_code 65 = .ok (.iload 9, 2) := by decide +kernel
theorem d17_67 : decode prog_38_method_5_code 67 = .ok (.iload 4, 2) := by decide +kernel
theorem d17_69 : decode prog_38_method_5_code 69 = .ok (.if_icmp .gt 96, 3) := by decide +kernel
theorem d17_165 : decode prog_38_method_5_code 165 = .ok (.return_, 1) := by decide +kernel
theorem d17_153 : decode prog_38_method_5_code 153 = .ok (.aload_n 2, 1) := by decide +kernel
theorem d17_154 : decode prog_38_method_5_code 154 = .ok (.iload 9, 2) := by decide +kernel
theorem d17_156 : decode prog_38_method_5_code 156 = .ok (.lload 10, 2) := by decide +kernel
theorem d17_158 : decode prog_38_method_5_code 158 = .ok (.lastore, 1) := by decide +kernel
theorem d17_159 : decode prog_38_method_5_code 159 = .ok (.iinc 9 1, 3) := by decide +kernel
theorem d17_162 : decode prog_38_method_5_code 162 = .ok (.goto (-97), 3) := by decide +kernel
theorem d17_72 : decode prog_38_method_5_code 72 = .ok (.iload 9, 2) := by decide +kernel
theorem d17_74 : decode prog_38_method_5_code 74 = .ok (.iload 8, 2) := by decide +kernel
theorem d17_76 : decode prog_38_method_5_code 76 = .ok (.if_icmp .gt 12, 3) := by decide +kernel
theorem d17_88 : decode prog_38_method_5_code 88 = .ok (.iload 9, 2) := by decide +kernel
theorem d17_90 : decode prog_38_method_5_code 90 = .ok (.iload 8, 2) := by decide +kernel
theorem d17_92 : decode prog_38_method_5_code 92 = .ok (.iload 7, 2) := by decide +kernel
theorem d17_94 : decode prog_38_method_5_code 94 = .ok (.iadd, 1) := by decide +kernel
theorem d17_95 : decode prog_38_method_5_code 95 = .ok (.if_icmp .gt 22, 3) := by decide +kernel
theorem d17_117 : decode prog_38_method_5_code 117 = .ok (.aload_n 1, 1) := by decide +kernel
theorem d17_118 : decode prog_38_method_5_code 118 = .ok (.iload 9, 2) := by decide +kernel
theorem d17_120 : decode prog_38_method_5_code 120 = .ok (.iload 7, 2) := by decide +kernel
theorem d17_122 : decode prog_38_method_5_code 122 = .ok (.isub, 1) := by decide +kernel
theorem d17_123 : decode prog_38_method_5_code 123 = .ok (.laload, 1) := by decide +kernel
theorem d17_124 : decode prog_38_method_5_code 124 = .ok (.ldc2_w 71, 3) := by decide +kernel
theorem own_w103 {Z : State} {a0 : Array Value} (hw : ∀ d ∈ tables_1, d.before a0 Z = true) : (Jvm.Cond.constantLong "com/example/errantry/errantry/staff/CompletionBounds" (71 : Nat) (9223372036854775807 : Int64)).before a0 Z = true := hw _ (List.mem_of_getElem? (i := 103) rfl)
theorem d17_127 : decode prog_38_method_5_code 127 = .ok (.lcmp, 1) := by decide +kernel
theorem d17_128 : decode prog_38_method_5_code 128 = .ok (.ifCond .ne 9, 3) := by decide +kernel
theorem d17_131 : decode prog_38_method_5_code 131 = .ok (.ldc2_w 71, 3) := by decide +kernel
theorem d17_134 : decode prog_38_method_5_code 134 = .ok (.goto 17, 3) := by decide +kernel
theorem d17_151 : decode prog_38_method_5_code 151 = .ok (.lstore 10, 2) := by decide +kernel
theorem d17_137 : decode prog_38_method_5_code 137 = .ok (.aload_n 1, 1) := by decide +kernel
theorem d17_138 : decode prog_38_method_5_code 138 = .ok (.iload 9, 2) := by decide +kernel
theorem d17_140 : decode prog_38_method_5_code 140 = .ok (.iload 7, 2) := by decide +kernel
theorem d17_142 : decode prog_38_method_5_code 142 = .ok (.isub, 1) := by decide +kernel
theorem d17_143 : decode prog_38_method_5_code 143 = .ok (.laload, 1) := by decide +kernel
theorem d17_144 : decode prog_38_method_5_code 144 = .ok (.iload 7, 2) := by decide +kernel
theorem d17_146 : decode prog_38_method_5_code 146 = .ok (.i2l, 1) := by decide +kernel
theorem d17_147 : decode prog_38_method_5_code 147 = .ok (.lload 5, 2) := by decide +kernel
theorem d17_149 : decode prog_38_method_5_code 149 = .ok (.lmul, 1) := by decide +kernel
theorem d17_150 : decode prog_38_method_5_code 150 = .ok (.ladd, 1) := by decide +kernel
theorem d17_98 : decode prog_38_method_5_code 98 = .ok (.aload_n 1, 1) := by decide +kernel
theorem d17_99 : decode prog_38_method_5_code 99 = .ok (.iload 8, 2) := by decide +kernel
theorem d17_101 : decode prog_38_method_5_code 101 = .ok (.laload, 1) := by decide +kernel
theorem d17_102 : decode prog_38_method_5_code 102 = .ok (.iload 9, 2) := by decide +kernel
theorem d17_104 : decode prog_38_method_5_code 104 = .ok (.iload 8, 2) := by decide +kernel
theorem d17_106 : decode prog_38_method_5_code 106 = .ok (.isub, 1) := by decide +kernel
theorem d17_107 : decode prog_38_method_5_code 107 = .ok (.i2l, 1) := by decide +kernel
theorem d17_108 : decode prog_38_method_5_code 108 = .ok (.lload 5, 2) := by decide +kernel
theorem d17_110 : decode prog_38_method_5_code 110 = .ok (.lmul, 1) := by decide +kernel
theorem d17_111 : decode prog_38_method_5_code 111 = .ok (.ladd, 1) := by decide +kernel
theorem d17_112 : decode prog_38_method_5_code 112 = .ok (.lstore 10, 2) := by decide +kernel
theorem d17_114 : decode prog_38_method_5_code 114 = .ok (.goto 39, 3) := by decide +kernel
theorem d17_79 : decode prog_38_method_5_code 79 = .ok (.aload_n 1, 1) := by decide +kernel
theorem d17_80 : decode prog_38_method_5_code 80 = .ok (.iload 9, 2) := by decide +kernel
theorem d17_82 : decode prog_38_method_5_code 82 = .ok (.laload, 1) := by decide +kernel
theorem d17_83 : decode prog_38_method_5_code 83 = .ok (.lstore 10, 2) := by decide +kernel
theorem d17_85 : decode prog_38_method_5_code 85 = .ok (.goto 68, 3) := by decide +kernel
theorem d17_19 : decode prog_38_method_5_code 19 = .ok (.iload 8, 2) := by decide +kernel
theorem d17_21 : decode prog_38_method_5_code 21 = .ok (.iload 4, 2) := by decide +kernel
theorem d17_23 : decode prog_38_method_5_code 23 = .ok (.if_icmp .ge 39, 3) := by decide +kernel
theorem d17_26 : decode prog_38_method_5_code 26 = .ok (.aload_n 1, 1) := by decide +kernel
theorem d17_27 : decode prog_38_method_5_code 27 = .ok (.iload 8, 2) := by decide +kernel
theorem d17_29 : decode prog_38_method_5_code 29 = .ok (.iconst 1, 1) := by decide +kernel
theorem d17_30 : decode prog_38_method_5_code 30 = .ok (.iadd, 1) := by decide +kernel
theorem d17_31 : decode prog_38_method_5_code 31 = .ok (.laload, 1) := by decide +kernel
theorem d17_32 : decode prog_38_method_5_code 32 = .ok (.ldc2_w 71, 3) := by decide +kernel
theorem d17_35 : decode prog_38_method_5_code 35 = .ok (.lcmp, 1) := by decide +kernel
theorem d17_36 : decode prog_38_method_5_code 36 = .ok (.ifCond .eq 26, 3) := by decide +kernel
theorem d17_39 : decode prog_38_method_5_code 39 = .ok (.aload_n 1, 1) := by decide +kernel
theorem d17_40 : decode prog_38_method_5_code 40 = .ok (.iload 8, 2) := by decide +kernel
theorem d17_42 : decode prog_38_method_5_code 42 = .ok (.iconst 1, 1) := by decide +kernel
theorem d17_43 : decode prog_38_method_5_code 43 = .ok (.iadd, 1) := by decide +kernel
theorem d17_44 : decode prog_38_method_5_code 44 = .ok (.laload, 1) := by decide +kernel
theorem d17_45 : decode prog_38_method_5_code 45 = .ok (.aload_n 1, 1) := by decide +kernel
theorem d17_46 : decode prog_38_method_5_code 46 = .ok (.iload 8, 2) := by decide +kernel
theorem d17_48 : decode prog_38_method_5_code 48 = .ok (.laload, 1) := by decide +kernel
theorem d17_49 : decode prog_38_method_5_code 49 = .ok (.lsub, 1) := by decide +kernel
theorem d17_50 : decode prog_38_method_5_code 50 = .ok (.lload 5, 2) := by decide +kernel
theorem d17_52 : decode prog_38_method_5_code 52 = .ok (.lcmp, 1) := by decide +kernel
theorem d17_53 : decode prog_38_method_5_code 53 = .ok (.ifCond .gt 9, 3) := by decide +kernel
theorem d17_56 : decode prog_38_method_5_code 56 = .ok (.iinc 8 1, 3) := by decide +kernel
theorem d17_59 : decode prog_38_method_5_code 59 = .ok (.goto (-40), 3) := by decide +kernel
theorem ef_rmAG (m : MethodId) (x0 : Addr) (x1 : Addr) (x2 : Addr) (x3 : Int32) (x4 : Int32) : entryFrame m #[(.ref x0), (.ref x1), (.ref x2), (.int x3), (.int x4)] 12 = mkF m 0 #[.val (.ref x0), .val (.ref x1), .val (.ref x2), .val (.int x3), .val (.int x4), .unset, .unset, .unset, .unset, .unset, .unset, .unset] [] := by first | (simp [entryFrame, mkF, argsToLocals, Value.category]; done) | rfl
def QAG (Z : State) (a1 : Addr) (cA : Addr) (kC : ClassId) (mA : Addr) (kM : ClassId) (ct0 : Int64) (ct1 : Int64) (ct2 : Int64) (mb0 : Int32) (mb1 : Int32) (mb2 : Int32) (bA : Addr) (kB : ClassId) (nA : Addr) (kN : ClassId) (zr : Int32) (B : List Int64) (M0 : List Int64) (g : Int32) (col : Int32) (h0 : Heap) (n0 : Nat) (v : Option Value) (h : Heap) (L : List Loc) : Prop := ∃ (M : List Int64) (ea : Int64) (cn : Int32) (q : Nat), v = none ∧ Fr n0 L ∧ Keep h0 h [nA] ∧ ea = (([ct0, ct1, ct2] : List Int64).getD g.toNatClampNeg 0) ∧ cn = (([mb0, mb1, mb2] : List Int32).getD g.toNatClampNeg 0) ∧ Arv Z h nA kN .long zr (M.map Value.long) (.long 0) ∧ own_ch B ea col.toNatClampNeg q ∧ ∀ j, j ≤ col.toNatClampNeg → own_nx B ea cn.toNatClampNeg q j (M.getD j 0)
set_option maxRecDepth 65536 in
set_option maxHeartbeats 40000000 in
theorem rmAG (l : Launch) (Z : State) (a0 : Array Value) (hw : ∀ d ∈ tables_1, d.before a0 Z = true) (ws : List Jvm.Cond) (a1 : Addr) (cA : Addr) (kC : ClassId) (mA : Addr) (kM : ClassId) (ct0 : Int64) (ct1 : Int64) (ct2 : Int64) (mb0 : Int32) (mb1 : Int32) (mb2 : Int32) (bA : Addr) (kB : ClassId) (nA : Addr) (kN : ClassId) (zr : Int32) (B : List Int64) (M0 : List Int64) (g : Int32) (col : Int32) (h0 : Heap) (n0 : Nat) (O0 : Old Z n0 h0) (Fc : Fld Z h0 a1 "com/example/errantry/errantry/staff/CompletionBounds" "cost" "[J" (.ref cA)) (Fm : Fld Z h0 a1 "com/example/errantry/errantry/staff/CompletionBounds" "members" "[I" (.ref mA)) (VC : Arv Z h0 cA kC .long (3 : Int32) [.long ct0, .long ct1, .long ct2] (.long 0)) (VM : Arv Z h0 mA kM .int (3 : Int32) [.int mb0, .int mb1, .int mb2] (.int 0)) (VB : Arv Z h0 bA kB .long zr (B.map Value.long) (.long 0)) (VN : Arv Z h0 nA kN .long zr (M0.map Value.long) (.long 0)) (gn : n0 ≤ nA) (nb : bA ≠ nA) (nc : cA ≠ nA) (nm : mA ≠ nA) (na : a1 ≠ nA) (hg : 0 ≤ g.toInt ∧ g.toInt ≤ 2) (hc : 0 ≤ col.toInt ∧ col.toInt ≤ 12) (hz : zr.toInt = col.toInt + 1) (hM : M0.length = zr.toNatClampNeg) (hmm : 0 ≤ (([mb0, mb1, mb2] : List Int32).getD g.toNatClampNeg 0).toInt ∧ (([mb0, mb1, mb2] : List Int32).getD g.toNatClampNeg 0).toInt ≤ 4) :
    MetFree l (⟨"com/example/errantry/errantry/staff/CompletionBounds", "addGroup", "([J[JII)V"⟩ : MethodName) (head1 (Jvm.Cond.code (⟨"com/example/errantry/errantry/staff/CompletionBounds", "addGroup", "([J[JII)V"⟩ : MethodName) prog_38_method_5_code 12 none :: ws) ({ frames := 0, cells := 0, slots := 0, locals := 0 } : Room)) (fun a U => a = #[(.ref a1), (.ref bA), (.ref nA), (.int g), (.int col)] ∧ Z.Warmed39 U.vm ∧ U.heap = h0) (fun _ _ _ _ _ => True) (fun _ U o U' => ∃ v L, o = .returned v ∧ QAG Z a1 cA kC mA kM ct0 ct1 ct2 mb0 mb1 mb2 bA kB nA kN zr B M0 g col h0 n0 v U'.heap L ∧ FrameEnd U o U' L ({ frames := 0, cells := 0, slots := 0, locals := 0 } : Room).cells ({ frames := 0, cells := 0, slots := 0, locals := 0 } : Room).slots) := by
  refine MetFree.of_bodySF (plainFor_of_name pn_CompletionBounds) hisR ?_
  intro p e s m args below meth c s₁ Bd hml0 hP hK
  obtain ⟨rfl, hZ, hh⟩ := hP
  have hx := Bd.exec
  have hby := Bd.bytes
  have hlk : meth.locks = false := BodyLoose.notSynchronized Bd
  have hml : c.maxLocals = 12 := hml0
  have hown : s.vm.findClass "com/example/errantry/errantry/staff/CompletionBounds" = some m.cls := findClass_of_methodNamed Bd.named
  have hnm := (name_of_methodNamed Bd.named Bd.method).1
  have X0 : Stand p l e ({ frames := 0, cells := 0, slots := 0, locals := 0 } : Room) s m #[(.ref a1), (.ref bA), (.ref nA), (.int g), (.int col)] below meth c s₁ [] 0 0 := Stand.of_body Bd
  have e0 : s₁.heap = h0 := by rw [← hh, Bd.state]; rfl
  have N0 := Fr.nil n0
  show Goes p e below s (QAG Z a1 cA kC mA kM ct0 ct1 ct2 mb0 mb1 mb2 bA kB nA kN zr B M0 g col h0 n0) ({ frames := 0, cells := 0, slots := 0, locals := 0 } : Room).cells ({ frames := 0, cells := 0, slots := 0, locals := 0 } : Room).slots (s₁.setTop (entryFrame m #[(.ref a1), (.ref bA), (.ref nA), (.int g), (.int col)] 12))
  refine Goes.enter (g' := (mkF m 0 #[.val (.ref a1), .val (.ref bA), .val (.ref nA), .val (.int g), .val (.int col), .unset, .unset, .unset, .unset, .unset, .unset, .unset] [])) (ef_rmAG m a1 bA nA g col) ?_
  refine Goes.step (fun _ k => pw_aloadN X0.here hx (hb hby d17_0) rfl rfl _ k) ?_
  obtain ⟨T1, X1, e1, st1⟩ := getF X0 hx hZ hown (host := "") (Or.inl (own_w23 hw)) Via.refl e0 Fc (g := (mkF m 1 #[.val (.ref a1), .val (.ref bA), .val (.ref nA), .val (.int g), .val (.int col), .unset, .unset, .unset, .unset, .unset, .unset, .unset] [(.ref a1)])) rfl rfl (hb hby d17_1)
  refine Goes.step (B := T1.setTop (mkF m 4 #[.val (.ref a1), .val (.ref bA), .val (.ref nA), .val (.int g), .val (.int col), .unset, .unset, .unset, .unset, .unset, .unset, .unset] [(.ref cA)])) st1 ?_
  refine Goes.step (fun _ k => pw_iloadN X1.here hx (hb hby d17_4) rfl _ k) ?_
  obtain ⟨c2, Ar2, -, Sz2, Nn2, Hs2, -⟩ := id VC
  have hin2 : ¬ (g < 0 ∨ c2.slots.size ≤ (g).toNatClampNeg) := inb_of Sz2 (own_gin hg)
  refine Goes.step (B := T1.setTop (mkF m 6 #[.val (.ref a1), .val (.ref bA), .val (.ref nA), .val (.int g), .val (.int col), .unset, .unset, .unset, .unset, .unset, .unset, .unset] [(.long (([ct0, ct1, ct2] : List Int64).getD g.toNatClampNeg 0))])) (X1.laload hx (j := g) (v := (.long (([ct0, ct1, ct2] : List Int64).getD g.toNatClampNeg 0))) (by rw [e1]; exact Ar2.1) (State.isArrayOf_alike hZ.alike Ar2.2.1) Ar2.2.2 hin2 (Has.at Hs2 hin2 (own_getDL [ct0, ct1, ct2] _)) (g := (mkF m 5 #[.val (.ref a1), .val (.ref bA), .val (.ref nA), .val (.int g), .val (.int col), .unset, .unset, .unset, .unset, .unset, .unset, .unset] [(.int g), (.ref cA)])) rfl rfl (hb hby d17_5)) ?_
  obtain ⟨ea, hea⟩ : ∃ z, z = (([ct0, ct1, ct2] : List Int64).getD g.toNatClampNeg 0) := ⟨_, rfl⟩
  rw [← hea]
  refine Goes.step (fun _ k => pw_lstore X1.here hx (l' := #[.val (.ref a1), .val (.ref bA), .val (.ref nA), .val (.int g), .val (.int col), .val (.long ea), .second, .unset, .unset, .unset, .unset, .unset]) (hb hby d17_6) rfl _ (pw_aloadN X1.here hx (hb hby d17_8) rfl rfl _ k)) ?_
  obtain ⟨T3, X3, e3, st3⟩ := getF X1 hx hZ hown (host := "") (Or.inl (own_w25 hw)) Via.refl e1 Fm (g := (mkF m 9 #[.val (.ref a1), .val (.ref bA), .val (.ref nA), .val (.int g), .val (.int col), .val (.long ea), .second, .unset, .unset, .unset, .unset, .unset] [(.ref a1)])) rfl rfl (hb hby d17_9)
  refine Goes.step (B := T3.setTop (mkF m 12 #[.val (.ref a1), .val (.ref bA), .val (.ref nA), .val (.int g), .val (.int col), .val (.long ea), .second, .unset, .unset, .unset, .unset, .unset] [(.ref mA)])) st3 ?_
  refine Goes.step (fun _ k => pw_iloadN X3.here hx (hb hby d17_12) rfl _ k) ?_
  obtain ⟨c4, Ar4, -, Sz4, Nn4, Hs4, -⟩ := id VM
  have hin4 : ¬ (g < 0 ∨ c4.slots.size ≤ (g).toNatClampNeg) := inb_of Sz4 (own_gin hg)
  refine Goes.step (B := T3.setTop (mkF m 14 #[.val (.ref a1), .val (.ref bA), .val (.ref nA), .val (.int g), .val (.int col), .val (.long ea), .second, .unset, .unset, .unset, .unset, .unset] [(.int (([mb0, mb1, mb2] : List Int32).getD g.toNatClampNeg 0))])) (X3.iaload hx (j := g) (v := (.int (([mb0, mb1, mb2] : List Int32).getD g.toNatClampNeg 0))) (by rw [e3]; exact Ar4.1) (State.isArrayOf_alike hZ.alike Ar4.2.1) Ar4.2.2 hin4 (Has.at Hs4 hin4 (own_getD [mb0, mb1, mb2] _)) (g := (mkF m 13 #[.val (.ref a1), .val (.ref bA), .val (.ref nA), .val (.int g), .val (.int col), .val (.long ea), .second, .unset, .unset, .unset, .unset, .unset] [(.int g), (.ref mA)])) rfl rfl (hb hby d17_13)) ?_
  obtain ⟨cn, hcn⟩ : ∃ z, z = (([mb0, mb1, mb2] : List Int32).getD g.toNatClampNeg 0) := ⟨_, rfl⟩
  rw [← hcn]
  rw [← hcn] at hmm
  refine Goes.step (fun _ k => pw_istore X3.here hx (l' := #[.val (.ref a1), .val (.ref bA), .val (.ref nA), .val (.int g), .val (.int col), .val (.long ea), .second, .val (.int cn), .unset, .unset, .unset, .unset]) (hb hby d17_14) rfl _ (pw_iconst X3.here hx (v := (0 : Int32)) (hb hby d17_16) rfl _ (pw_istore X3.here hx (l' := #[.val (.ref a1), .val (.ref bA), .val (.ref nA), .val (.int g), .val (.int col), .val (.long ea), .second, .val (.int cn), .val (.int 0), .unset, .unset, .unset]) (hb hby d17_17) rfl _ k))) ?_
  have J5 : ∀ (Tj5 : State) (Hj5 : Heap) (lj5 : List Loc) (ch : Int32), Stand p l e ({ frames := 0, cells := 0, slots := 0, locals := 0 } : Room) s m #[(.ref a1), (.ref bA), (.ref nA), (.int g), (.int col)] below meth c Tj5 lj5 0 0 → Tj5.heap = Hj5 → Old Z n0 Hj5 → Fr n0 lj5 → Keep h0 Hj5 [nA] → Arv Z Hj5 bA kB .long zr (B.map Value.long) (.long 0) → Arv Z Hj5 nA kN .long zr (M0.map Value.long) (.long 0) → (0 ≤ ch.toInt ∧ ch.toInt ≤ col.toInt ∧ own_ch B ea col.toNatClampNeg ch.toNatClampNeg) → Goes p e below s (QAG Z a1 cA kC mA kM ct0 ct1 ct2 mb0 mb1 mb2 bA kB nA kN zr B M0 g col h0 n0) ({ frames := 0, cells := 0, slots := 0, locals := 0 } : Room).cells ({ frames := 0, cells := 0, slots := 0, locals := 0 } : Room).slots (Tj5.setTop (mkF m 62 #[.val (.ref a1), .val (.ref bA), .val (.ref nA), .val (.int g), .val (.int col), .val (.long ea), .second, .val (.int cn), .val (.int ch), .unset, .unset, .unset] [])) := by
   intro Tj5 Hj5 lj5 ch Xj5 ej5 Oj5 Nj5 Kj5 fj5_0 fj5_1 hJ5
   obtain ⟨hc0, hc1, hch⟩ := hJ5
   refine Goes.step (fun _ k => pw_iconst Xj5.here hx (v := (0 : Int32)) (hb hby d17_62) rfl _ (pw_istore Xj5.here hx (l' := #[.val (.ref a1), .val (.ref bA), .val (.ref nA), .val (.int g), .val (.int col), .val (.long ea), .second, .val (.int cn), .val (.int ch), .val (.int 0), .unset, .unset]) (hb hby d17_63) rfl _ k)) ?_
   have J6 : ∀ (d : Nat), ∀ (Tj6 : State) (Hj6 : Heap) (lj6 : List Loc) (gi : Int32) (M : List Int64) (sA : Slot) (sB : Slot), Stand p l e ({ frames := 0, cells := 0, slots := 0, locals := 0 } : Room) s m #[(.ref a1), (.ref bA), (.ref nA), (.int g), (.int col)] below meth c Tj6 lj6 0 0 → Tj6.heap = Hj6 → Old Z n0 Hj6 → Fr n0 lj6 → Keep h0 Hj6 [nA] → Arv Z Hj6 bA kB .long zr (B.map Value.long) (.long 0) → Arv Z Hj6 nA kN .long zr (M.map Value.long) (.long 0) → ((d : Int) + gi.toInt = col.toInt + 1 ∧ 0 ≤ gi.toInt ∧ M.length = zr.toNatClampNeg ∧ (∀ j, j < gi.toNatClampNeg → own_nx B ea cn.toNatClampNeg ch.toNatClampNeg j (M.getD j 0)) ∧ ((sA = .unset ∧ sB = .unset) ∨ ∃ t, sA = .val (.long t) ∧ sB = .second)) → Goes p e below s (QAG Z a1 cA kC mA kM ct0 ct1 ct2 mb0 mb1 mb2 bA kB nA kN zr B M0 g col h0 n0) ({ frames := 0, cells := 0, slots := 0, locals := 0 } : Room).cells ({ frames := 0, cells := 0, slots := 0, locals := 0 } : Room).slots (Tj6.setTop (mkF m 65 #[.val (.ref a1), .val (.ref bA), .val (.ref nA), .val (.int g), .val (.int col), .val (.long ea), .second, .val (.int cn), .val (.int ch), .val (.int gi), sA, sB] [])) := by
    intro d
    induction d with
    | zero =>
      intro Tj6 Hj6 lj6 gi M sA sB Xj6 ej6 Oj6 Nj6 Kj6 fj6_0 fj6_1 hJ6
      obtain ⟨hd, hi0, hl, hn, hsl⟩ := hJ6
      refine Goes.step (fun _ k => pw_iload Xj6.here hx (hb hby d17_65) rfl _ (pw_iload Xj6.here hx (hb hby d17_67) rfl _ (pw_icmpYes Xj6.here hx (pc' := 165) (hb hby d17_69) (tlt (own_lt (by omega))).2.2.1 (by decide) (by decide) _ k))) ?_
      exact Goes.retV Xj6 hx ej6 Bd.returns hlk (hb hby d17_165) (by decide) (by decide) (⟨M, ea, cn, ch.toNatClampNeg, rfl, Nj6, Kj6, hea, hcn, fj6_1, hch, fun j hj => hn j (by have q1 := own_nat hi0; have q2 := own_nat hc.1; omega)⟩)
    | succ d ih6 =>
      intro Tj6 Hj6 lj6 gi M sA sB Xj6 ej6 Oj6 Nj6 Kj6 fj6_0 fj6_1 hJ6
      obtain ⟨hd, hi0, hl, hn, hsl⟩ := hJ6
      have hle : ¬ col < gi := own_nlt (by omega)
      have nz := own_nat (j := zr) (by omega)
      have ni := own_nat hi0
      have tcc : (ch + cn).toInt = ch.toInt + cn.toInt := own_ad (by omega) (by omega)
      refine Goes.step (fun _ k => pw_iload Xj6.here hx (hb hby d17_65) rfl _ (pw_iload Xj6.here hx (hb hby d17_67) rfl _ (pw_icmpNo Xj6.here hx (hb hby d17_69) (flt hle).2.2.1 _ k))) ?_
      have J7 : ∀ (sm : Int64), own_nx B ea cn.toNatClampNeg ch.toNatClampNeg gi.toNatClampNeg sm → Goes p e below s (QAG Z a1 cA kC mA kM ct0 ct1 ct2 mb0 mb1 mb2 bA kB nA kN zr B M0 g col h0 n0) ({ frames := 0, cells := 0, slots := 0, locals := 0 } : Room).cells ({ frames := 0, cells := 0, slots := 0, locals := 0 } : Room).slots (Tj6.setTop (mkF m 153 #[.val (.ref a1), .val (.ref bA), .val (.ref nA), .val (.int g), .val (.int col), .val (.long ea), .second, .val (.int cn), .val (.int ch), .val (.int gi), .val (.long sm), .second] [])) := by
       intro sm hsm
       refine Goes.step (fun _ k => pw_aloadN Xj6.here hx (hb hby d17_153) rfl rfl _ (pw_iload Xj6.here hx (hb hby d17_154) rfl _ (pw_lload Xj6.here hx (hb hby d17_156) rfl _ k))) ?_
       obtain ⟨c8, Ar8, q8, Sz8, Nn8, Hs8, Gs8⟩ := id fj6_1
       have hin8 : ¬ (gi < 0 ∨ c8.slots.size ≤ (gi).toNatClampNeg) := inb_of Sz8 ⟨own_nlt (by rw [own_i0]; exact hi0), own_lt (by omega)⟩
       obtain ⟨T8, h8, X8, e8, W8, st8⟩ := stJ Xj6 hx hZ ej6 Ar8 (j := gi) hin8 (g := (mkF m 158 #[.val (.ref a1), .val (.ref bA), .val (.ref nA), .val (.int g), .val (.int col), .val (.long ea), .second, .val (.int cn), .val (.int ch), .val (.int gi), .val (.long sm), .second] [(.long sm), (.int gi), (.ref nA)])) rfl rfl (hb hby d17_158)
       have V8 : Arv Z h8 nA kN .long zr ((M.map Value.long).set (gi).toNatClampNeg (.long sm)) (.long 0) := Arv.set Ar8 q8 Sz8 Nn8 Hs8 Gs8 rfl W8 _ rfl (by rw [List.length_map, hl]; omega)
       rw [own_setL] at V8
       have N8 := Fr.snoc X8 Nj6 gn
       have O_8 := Oj6.wr W8 gn
       have K_8 := Kj6.wr W8 (Or.inl (List.mem_of_getElem? (i := 0) rfl))
       refine Goes.step (B := T8.setTop (mkF m 159 #[.val (.ref a1), .val (.ref bA), .val (.ref nA), .val (.int g), .val (.int col), .val (.long ea), .second, .val (.int cn), .val (.int ch), .val (.int gi), .val (.long sm), .second] [])) st8 ?_
       refine Goes.step (fun _ k => pw_iinc X8.here hx (l' := #[.val (.ref a1), .val (.ref bA), .val (.ref nA), .val (.int g), .val (.int col), .val (.long ea), .second, .val (.int cn), .val (.int ch), .val (.int (gi + (1 : Int32))), .val (.long sm), .second]) (hb hby d17_159) rfl rfl _ (pw_goto X8.here hx (pc' := 65) (hb hby d17_162) (by decide) (by decide) _ k)) ?_
       have f9 := (fj6_0.other W8 nb)
       exact ih6 _ _ _ (gi + (1 : Int32)) (M.set gi.toNatClampNeg sm) (.val (.long sm)) .second X8 e8 O_8 N8 K_8 f9 V8 ⟨by rw [own_p1 (by omega)]; omega, by rw [own_p1 (by omega)]; omega, by rw [List.length_set]; exact hl, own_nstep hi0 (by omega) (by rw [hl]; omega) hn hsm, Or.inr ⟨_, rfl, rfl⟩⟩
      refine Goes.step (fun _ k => pw_iload Xj6.here hx (hb hby d17_72) rfl _ (pw_iload Xj6.here hx (hb hby d17_74) rfl _ k)) ?_
      by_cases hc76_9 : ch < gi
      · refine Goes.step (fun _ k => pw_icmpYes Xj6.here hx (pc' := 88) (hb hby d17_76) (tlt hc76_9).2.2.1 (by decide) (by decide) _ (pw_iload Xj6.here hx (hb hby d17_88) rfl _ (pw_iload Xj6.here hx (hb hby d17_90) rfl _ (pw_iload Xj6.here hx (hb hby d17_92) rfl _ (pw_iadd Xj6.here hx (hb hby d17_94) _ k))))) ?_
        by_cases hc95_10 : (ch + cn) < gi
        · refine Goes.step (fun _ k => pw_icmpYes Xj6.here hx (pc' := 117) (hb hby d17_95) (tlt hc95_10).2.2.1 (by decide) (by decide) _ k) ?_
          have tg := own_lt0 hc95_10
          rw [tcc] at tg
          have ts : (gi - cn).toInt = gi.toInt - cn.toInt := own_sb (by omega) (by omega)
          refine Goes.step (fun _ k => pw_aloadN Xj6.here hx (hb hby d17_117) rfl rfl _ (pw_iload Xj6.here hx (hb hby d17_118) rfl _ (pw_iload Xj6.here hx (hb hby d17_120) rfl _ (pw_isub Xj6.here hx (hb hby d17_122) _ k)))) ?_
          obtain ⟨c12, Ar12, -, Sz12, Nn12, Hs12, -⟩ := id fj6_0
          have hin12 : ¬ ((gi - cn) < 0 ∨ c12.slots.size ≤ ((gi - cn)).toNatClampNeg) := inb_of Sz12 ⟨own_nlt (by rw [own_i0]; omega), own_lt (by omega)⟩
          refine Goes.step (B := Tj6.setTop (mkF m 124 #[.val (.ref a1), .val (.ref bA), .val (.ref nA), .val (.int g), .val (.int col), .val (.long ea), .second, .val (.int cn), .val (.int ch), .val (.int gi), sA, sB] [(.long (B.getD (gi - cn).toNatClampNeg 0))])) (Xj6.laload hx (j := (gi - cn)) (v := (.long (B.getD (gi - cn).toNatClampNeg 0))) (by rw [ej6]; exact Ar12.1) (State.isArrayOf_alike hZ.alike Ar12.2.1) Ar12.2.2 hin12 (Has.at Hs12 hin12 (own_getDL B _)) (g := (mkF m 123 #[.val (.ref a1), .val (.ref bA), .val (.ref nA), .val (.int g), .val (.int col), .val (.long ea), .second, .val (.int cn), .val (.int ch), .val (.int gi), sA, sB] [(.int (gi - cn)), (.ref bA)])) rfl rfl (hb hby d17_123)) ?_
          refine Goes.step (B := Tj6.setTop (mkF m 127 #[.val (.ref a1), .val (.ref bA), .val (.ref nA), .val (.int g), .val (.int col), .val (.long ea), .second, .val (.int cn), .val (.int ch), .val (.int gi), sA, sB] [(.long 9223372036854775807), (.long (B.getD (gi - cn).toNatClampNeg 0))])) (Xj6.ldc2Long hx hown (mvT hZ (own_w103 hw)) (g := (mkF m 124 #[.val (.ref a1), .val (.ref bA), .val (.ref nA), .val (.int g), .val (.int col), .val (.long ea), .second, .val (.int cn), .val (.int ch), .val (.int gi), sA, sB] [(.long (B.getD (gi - cn).toNatClampNeg 0))])) rfl (hb hby d17_124)) ?_
          refine Goes.step (B := Tj6.setTop (mkF m 128 #[.val (.ref a1), .val (.ref bA), .val (.ref nA), .val (.int g), .val (.int col), .val (.long ea), .second, .val (.int cn), .val (.int ch), .val (.int gi), sA, sB] [(.int (lcmpW (B.getD (gi - cn).toNatClampNeg 0) (9223372036854775807 : Int64)))])) (fun _ k => XS.lcmp Xj6.here hx rfl (hb hby d17_127) rfl k) ?_
          by_cases hc128_12 : (B.getD (gi - cn).toNatClampNeg 0) = (9223372036854775807 : Int64)
          · refine Goes.step (fun _ k => pw_ifNo Xj6.here hx (hb hby d17_128) ((if0 _ _).trans (teq ((lw_eq _ _).mpr hc128_12)).2) _ k) ?_
            refine Goes.step (B := Tj6.setTop (mkF m 134 #[.val (.ref a1), .val (.ref bA), .val (.ref nA), .val (.int g), .val (.int col), .val (.long ea), .second, .val (.int cn), .val (.int ch), .val (.int gi), sA, sB] [(.long 9223372036854775807)])) (Xj6.ldc2Long hx hown (mvT hZ (own_w103 hw)) (g := (mkF m 131 #[.val (.ref a1), .val (.ref bA), .val (.ref nA), .val (.int g), .val (.int col), .val (.long ea), .second, .val (.int cn), .val (.int ch), .val (.int gi), sA, sB] [])) rfl (hb hby d17_131)) ?_
            refine Goes.step (fun _ k => pw_goto Xj6.here hx (pc' := 151) (hb hby d17_134) (by decide) (by decide) _ (pw_lstore Xj6.here hx (l' := #[.val (.ref a1), .val (.ref bA), .val (.ref nA), .val (.int g), .val (.int col), .val (.long ea), .second, .val (.int cn), .val (.int ch), .val (.int gi), .val (.long 9223372036854775807), .second]) (hb hby d17_151) (by rcases hsl with ⟨q1, q2⟩ | ⟨_, q1, q2⟩ <;> rw [q1, q2] <;> rfl) _ k)) ?_
            exact J7 (9223372036854775807 : Int64) (own_n3 hi0 hc0 hmm.1 (by omega) hc95_10 hc128_12)
          · refine Goes.step (fun _ k => pw_ifYes Xj6.here hx (pc' := 137) (hb hby d17_128) ((if0 _ _).trans (feq (fun q => hc128_12 ((lw_eq _ _).mp q))).2) (by decide) (by decide) _ (pw_aloadN Xj6.here hx (hb hby d17_137) rfl rfl _ (pw_iload Xj6.here hx (hb hby d17_138) rfl _ (pw_iload Xj6.here hx (hb hby d17_140) rfl _ (pw_isub Xj6.here hx (hb hby d17_142) _ k))))) ?_
            obtain ⟨c14, Ar14, -, Sz14, Nn14, Hs14, -⟩ := id fj6_0
            have hin14 : ¬ ((gi - cn) < 0 ∨ c14.slots.size ≤ ((gi - cn)).toNatClampNeg) := inb_of Sz14 ⟨own_nlt (by rw [own_i0]; omega), own_lt (by omega)⟩
            refine Goes.step (B := Tj6.setTop (mkF m 144 #[.val (.ref a1), .val (.ref bA), .val (.ref nA), .val (.int g), .val (.int col), .val (.long ea), .second, .val (.int cn), .val (.int ch), .val (.int gi), sA, sB] [(.long (B.getD (gi - cn).toNatClampNeg 0))])) (Xj6.laload hx (j := (gi - cn)) (v := (.long (B.getD (gi - cn).toNatClampNeg 0))) (by rw [ej6]; exact Ar14.1) (State.isArrayOf_alike hZ.alike Ar14.2.1) Ar14.2.2 hin14 (Has.at Hs14 hin14 (own_getDL B _)) (g := (mkF m 143 #[.val (.ref a1), .val (.ref bA), .val (.ref nA), .val (.int g), .val (.int col), .val (.long ea), .second, .val (.int cn), .val (.int ch), .val (.int gi), sA, sB] [(.int (gi - cn)), (.ref bA)])) rfl rfl (hb hby d17_143)) ?_
            refine Goes.step (fun _ k => pw_iload Xj6.here hx (hb hby d17_144) rfl _ k) ?_
            refine Goes.step (B := Tj6.setTop (mkF m 147 #[.val (.ref a1), .val (.ref bA), .val (.ref nA), .val (.int g), .val (.int col), .val (.long ea), .second, .val (.int cn), .val (.int ch), .val (.int gi), sA, sB] [(.long (cn.toInt64)), (.long (B.getD (gi - cn).toNatClampNeg 0))])) (fun _ k => XS.i2l Xj6.here hx rfl (hb hby d17_146) rfl k) ?_
            refine Goes.step (fun _ k => pw_lload Xj6.here hx (hb hby d17_147) rfl _ k) ?_
            refine Goes.step (B := Tj6.setTop (mkF m 150 #[.val (.ref a1), .val (.ref bA), .val (.ref nA), .val (.int g), .val (.int col), .val (.long ea), .second, .val (.int cn), .val (.int ch), .val (.int gi), sA, sB] [(.long ((cn.toInt64) * ea)), (.long (B.getD (gi - cn).toNatClampNeg 0))])) (fun _ k => XS.lmul Xj6.here hx rfl (hb hby d17_149) rfl k) ?_
            refine Goes.step (B := Tj6.setTop (mkF m 151 #[.val (.ref a1), .val (.ref bA), .val (.ref nA), .val (.int g), .val (.int col), .val (.long ea), .second, .val (.int cn), .val (.int ch), .val (.int gi), sA, sB] [(.long ((B.getD (gi - cn).toNatClampNeg 0) + ((cn.toInt64) * ea)))])) (fun _ k => XS.ladd Xj6.here hx rfl (hb hby d17_150) rfl k) ?_
            refine Goes.step (fun _ k => pw_lstore Xj6.here hx (l' := #[.val (.ref a1), .val (.ref bA), .val (.ref nA), .val (.int g), .val (.int col), .val (.long ea), .second, .val (.int cn), .val (.int ch), .val (.int gi), .val (.long ((B.getD (gi - cn).toNatClampNeg 0) + ((cn.toInt64) * ea))), .second]) (hb hby d17_151) (by rcases hsl with ⟨q1, q2⟩ | ⟨_, q1, q2⟩ <;> rw [q1, q2] <;> rfl) _ k) ?_
            exact J7 ((B.getD (gi - cn).toNatClampNeg 0) + ((cn.toInt64) * ea)) (own_n4 hi0 hc0 hmm.1 (by omega) hc95_10 hc128_12)
        · refine Goes.step (fun _ k => pw_icmpNo Xj6.here hx (hb hby d17_95) (flt hc95_10).2.2.1 _ (pw_aloadN Xj6.here hx (hb hby d17_98) rfl rfl _ (pw_iload Xj6.here hx (hb hby d17_99) rfl _ k))) ?_
          obtain ⟨c15, Ar15, -, Sz15, Nn15, Hs15, -⟩ := id fj6_0
          have hin15 : ¬ (ch < 0 ∨ c15.slots.size ≤ (ch).toNatClampNeg) := inb_of Sz15 ⟨own_nlt (by rw [own_i0]; omega), own_lt (by omega)⟩
          refine Goes.step (B := Tj6.setTop (mkF m 102 #[.val (.ref a1), .val (.ref bA), .val (.ref nA), .val (.int g), .val (.int col), .val (.long ea), .second, .val (.int cn), .val (.int ch), .val (.int gi), sA, sB] [(.long (B.getD ch.toNatClampNeg 0))])) (Xj6.laload hx (j := ch) (v := (.long (B.getD ch.toNatClampNeg 0))) (by rw [ej6]; exact Ar15.1) (State.isArrayOf_alike hZ.alike Ar15.2.1) Ar15.2.2 hin15 (Has.at Hs15 hin15 (own_getDL B _)) (g := (mkF m 101 #[.val (.ref a1), .val (.ref bA), .val (.ref nA), .val (.int g), .val (.int col), .val (.long ea), .second, .val (.int cn), .val (.int ch), .val (.int gi), sA, sB] [(.int ch), (.ref bA)])) rfl rfl (hb hby d17_101)) ?_
          refine Goes.step (fun _ k => pw_iload Xj6.here hx (hb hby d17_102) rfl _ (pw_iload Xj6.here hx (hb hby d17_104) rfl _ (pw_isub Xj6.here hx (hb hby d17_106) _ k))) ?_
          refine Goes.step (B := Tj6.setTop (mkF m 108 #[.val (.ref a1), .val (.ref bA), .val (.ref nA), .val (.int g), .val (.int col), .val (.long ea), .second, .val (.int cn), .val (.int ch), .val (.int gi), sA, sB] [(.long (gi - ch).toInt64), (.long (B.getD ch.toNatClampNeg 0))])) (fun _ k => XS.i2l Xj6.here hx rfl (hb hby d17_107) rfl k) ?_
          refine Goes.step (fun _ k => pw_lload Xj6.here hx (hb hby d17_108) rfl _ k) ?_
          refine Goes.step (B := Tj6.setTop (mkF m 111 #[.val (.ref a1), .val (.ref bA), .val (.ref nA), .val (.int g), .val (.int col), .val (.long ea), .second, .val (.int cn), .val (.int ch), .val (.int gi), sA, sB] [(.long ((gi - ch).toInt64 * ea)), (.long (B.getD ch.toNatClampNeg 0))])) (fun _ k => XS.lmul Xj6.here hx rfl (hb hby d17_110) rfl k) ?_
          refine Goes.step (B := Tj6.setTop (mkF m 112 #[.val (.ref a1), .val (.ref bA), .val (.ref nA), .val (.int g), .val (.int col), .val (.long ea), .second, .val (.int cn), .val (.int ch), .val (.int gi), sA, sB] [(.long ((B.getD ch.toNatClampNeg 0) + ((gi - ch).toInt64 * ea)))])) (fun _ k => XS.ladd Xj6.here hx rfl (hb hby d17_111) rfl k) ?_
          refine Goes.step (fun _ k => pw_lstore Xj6.here hx (l' := #[.val (.ref a1), .val (.ref bA), .val (.ref nA), .val (.int g), .val (.int col), .val (.long ea), .second, .val (.int cn), .val (.int ch), .val (.int gi), .val (.long ((B.getD ch.toNatClampNeg 0) + ((gi - ch).toInt64 * ea))), .second]) (hb hby d17_112) (by rcases hsl with ⟨q1, q2⟩ | ⟨_, q1, q2⟩ <;> rw [q1, q2] <;> rfl) _ (pw_goto Xj6.here hx (pc' := 153) (hb hby d17_114) (by decide) (by decide) _ k)) ?_
          exact J7 ((B.getD ch.toNatClampNeg 0) + ((gi - ch).toInt64 * ea)) (own_n2 hi0 hc0 hmm.1 (by omega) hc76_9 hc95_10)
      · refine Goes.step (fun _ k => pw_icmpNo Xj6.here hx (hb hby d17_76) (flt hc76_9).2.2.1 _ (pw_aloadN Xj6.here hx (hb hby d17_79) rfl rfl _ (pw_iload Xj6.here hx (hb hby d17_80) rfl _ k))) ?_
        obtain ⟨c16, Ar16, -, Sz16, Nn16, Hs16, -⟩ := id fj6_0
        have hin16 : ¬ (gi < 0 ∨ c16.slots.size ≤ (gi).toNatClampNeg) := inb_of Sz16 ⟨own_nlt (by rw [own_i0]; omega), own_lt (by omega)⟩
        refine Goes.step (B := Tj6.setTop (mkF m 83 #[.val (.ref a1), .val (.ref bA), .val (.ref nA), .val (.int g), .val (.int col), .val (.long ea), .second, .val (.int cn), .val (.int ch), .val (.int gi), sA, sB] [(.long (B.getD gi.toNatClampNeg 0))])) (Xj6.laload hx (j := gi) (v := (.long (B.getD gi.toNatClampNeg 0))) (by rw [ej6]; exact Ar16.1) (State.isArrayOf_alike hZ.alike Ar16.2.1) Ar16.2.2 hin16 (Has.at Hs16 hin16 (own_getDL B _)) (g := (mkF m 82 #[.val (.ref a1), .val (.ref bA), .val (.ref nA), .val (.int g), .val (.int col), .val (.long ea), .second, .val (.int cn), .val (.int ch), .val (.int gi), sA, sB] [(.int gi), (.ref bA)])) rfl rfl (hb hby d17_82)) ?_
        refine Goes.step (fun _ k => pw_lstore Xj6.here hx (l' := #[.val (.ref a1), .val (.ref bA), .val (.ref nA), .val (.int g), .val (.int col), .val (.long ea), .second, .val (.int cn), .val (.int ch), .val (.int gi), .val (.long (B.getD gi.toNatClampNeg 0)), .second]) (hb hby d17_83) (by rcases hsl with ⟨q1, q2⟩ | ⟨_, q1, q2⟩ <;> rw [q1, q2] <;> rfl) _ (pw_goto Xj6.here hx (pc' := 153) (hb hby d17_85) (by decide) (by decide) _ k)) ?_
        exact J7 (B.getD gi.toNatClampNeg 0) (own_n1 hi0 hc0 hc76_9)
   exact J6 (col.toInt.toNat + 1) _ _ _ (0 : Int32) M0 .unset .unset Xj5 ej5 Oj5 Nj5 Kj5 fj5_0 fj5_1 ⟨by rw [own_i0]; omega, by decide, hM, fun j h => absurd h (by rw [show (0 : Int32).toNatClampNeg = 0 from by decide]; exact Nat.not_lt_zero j), Or.inl ⟨rfl, rfl⟩⟩
  have J17 : ∀ (d : Nat), ∀ (Tj17 : State) (Hj17 : Heap) (lj17 : List Loc) (ch : Int32), Stand p l e ({ frames := 0, cells := 0, slots := 0, locals := 0 } : Room) s m #[(.ref a1), (.ref bA), (.ref nA), (.int g), (.int col)] below meth c Tj17 lj17 0 0 → Tj17.heap = Hj17 → Old Z n0 Hj17 → Fr n0 lj17 → Keep h0 Hj17 [nA] → Arv Z Hj17 bA kB .long zr (B.map Value.long) (.long 0) → Arv Z Hj17 nA kN .long zr (M0.map Value.long) (.long 0) → ((d : Int) + ch.toInt = col.toInt ∧ 0 ≤ ch.toInt ∧ ∀ i, i < ch.toNatClampNeg → B.getD (i + 1) 0 ≠ (9223372036854775807 : Int64) ∧ (B.getD (i + 1) 0 - B.getD i 0).toInt ≤ ea.toInt) → Goes p e below s (QAG Z a1 cA kC mA kM ct0 ct1 ct2 mb0 mb1 mb2 bA kB nA kN zr B M0 g col h0 n0) ({ frames := 0, cells := 0, slots := 0, locals := 0 } : Room).cells ({ frames := 0, cells := 0, slots := 0, locals := 0 } : Room).slots (Tj17.setTop (mkF m 19 #[.val (.ref a1), .val (.ref bA), .val (.ref nA), .val (.int g), .val (.int col), .val (.long ea), .second, .val (.int cn), .val (.int ch), .unset, .unset, .unset] [])) := by
   intro d
   induction d with
   | zero =>
     intro Tj17 Hj17 lj17 ch Xj17 ej17 Oj17 Nj17 Kj17 fj17_0 fj17_1 hJ17
     obtain ⟨hd, hi0, hi⟩ := hJ17
     refine Goes.step (fun _ k => pw_iload Xj17.here hx (hb hby d17_19) rfl _ (pw_iload Xj17.here hx (hb hby d17_21) rfl _ (pw_icmpYes Xj17.here hx (pc' := 62) (hb hby d17_23) (flt (own_nlt (by omega))).2.1 (by decide) (by decide) _ k))) ?_
     exact J5 _ _ _ ch Xj17 ej17 Oj17 Nj17 Kj17 fj17_0 fj17_1 ⟨hi0, by omega, own_ch0 hi0 (by omega) (by omega) hi (Or.inl (by omega))⟩
   | succ d ih17 =>
     intro Tj17 Hj17 lj17 ch Xj17 ej17 Oj17 Nj17 Kj17 fj17_0 fj17_1 hJ17
     obtain ⟨hd, hi0, hi⟩ := hJ17
     have hlt : ch < col := own_lt (by omega)
     have tc := own_p1 (a := ch) (by omega)
     refine Goes.step (fun _ k => pw_iload Xj17.here hx (hb hby d17_19) rfl _ (pw_iload Xj17.here hx (hb hby d17_21) rfl _ (pw_icmpNo Xj17.here hx (hb hby d17_23) (tlt hlt).2.1 _ (pw_aloadN Xj17.here hx (hb hby d17_26) rfl rfl _ (pw_iload Xj17.here hx (hb hby d17_27) rfl _ (pw_iconst Xj17.here hx (v := (1 : Int32)) (hb hby d17_29) rfl _ k)))))) ?_
     refine Goes.step (fun _ k => pw_iadd Xj17.here hx (hb hby d17_30) _ k) ?_
     obtain ⟨c18, Ar18, -, Sz18, Nn18, Hs18, -⟩ := id fj17_0
     have hin18 : ¬ ((ch + (1 : Int32)) < 0 ∨ c18.slots.size ≤ ((ch + (1 : Int32))).toNatClampNeg) := inb_of Sz18 ⟨own_nlt (by rw [own_i0]; omega), own_lt (by omega)⟩
     refine Goes.step (B := Tj17.setTop (mkF m 32 #[.val (.ref a1), .val (.ref bA), .val (.ref nA), .val (.int g), .val (.int col), .val (.long ea), .second, .val (.int cn), .val (.int ch), .unset, .unset, .unset] [(.long (B.getD (ch + (1 : Int32)).toNatClampNeg 0))])) (Xj17.laload hx (j := (ch + (1 : Int32))) (v := (.long (B.getD (ch + (1 : Int32)).toNatClampNeg 0))) (by rw [ej17]; exact Ar18.1) (State.isArrayOf_alike hZ.alike Ar18.2.1) Ar18.2.2 hin18 (Has.at Hs18 hin18 (own_getDL B _)) (g := (mkF m 31 #[.val (.ref a1), .val (.ref bA), .val (.ref nA), .val (.int g), .val (.int col), .val (.long ea), .second, .val (.int cn), .val (.int ch), .unset, .unset, .unset] [(.int (ch + (1 : Int32))), (.ref bA)])) rfl rfl (hb hby d17_31)) ?_
     refine Goes.step (B := Tj17.setTop (mkF m 35 #[.val (.ref a1), .val (.ref bA), .val (.ref nA), .val (.int g), .val (.int col), .val (.long ea), .second, .val (.int cn), .val (.int ch), .unset, .unset, .unset] [(.long 9223372036854775807), (.long (B.getD (ch + (1 : Int32)).toNatClampNeg 0))])) (Xj17.ldc2Long hx hown (mvT hZ (own_w103 hw)) (g := (mkF m 32 #[.val (.ref a1), .val (.ref bA), .val (.ref nA), .val (.int g), .val (.int col), .val (.long ea), .second, .val (.int cn), .val (.int ch), .unset, .unset, .unset] [(.long (B.getD (ch + (1 : Int32)).toNatClampNeg 0))])) rfl (hb hby d17_32)) ?_
     refine Goes.step (B := Tj17.setTop (mkF m 36 #[.val (.ref a1), .val (.ref bA), .val (.ref nA), .val (.int g), .val (.int col), .val (.long ea), .second, .val (.int cn), .val (.int ch), .unset, .unset, .unset] [(.int (lcmpW (B.getD (ch + (1 : Int32)).toNatClampNeg 0) (9223372036854775807 : Int64)))])) (fun _ k => XS.lcmp Xj17.here hx rfl (hb hby d17_35) rfl k) ?_
     by_cases hc36_18 : (B.getD (ch + (1 : Int32)).toNatClampNeg 0) = (9223372036854775807 : Int64)
     · refine Goes.step (fun _ k => pw_ifYes Xj17.here hx (pc' := 62) (hb hby d17_36) ((if0 _ _).trans (teq ((lw_eq _ _).mpr hc36_18)).1) (by decide) (by decide) _ k) ?_
       exact J5 _ _ _ ch Xj17 ej17 Oj17 Nj17 Kj17 fj17_0 fj17_1 ⟨hi0, by omega, own_ch0 hi0 (by omega) (by omega) hi (Or.inr (Or.inl hc36_18))⟩
     · refine Goes.step (fun _ k => pw_ifNo Xj17.here hx (hb hby d17_36) ((if0 _ _).trans (feq (fun q => hc36_18 ((lw_eq _ _).mp q))).1) _ (pw_aloadN Xj17.here hx (hb hby d17_39) rfl rfl _ (pw_iload Xj17.here hx (hb hby d17_40) rfl _ (pw_iconst Xj17.here hx (v := (1 : Int32)) (hb hby d17_42) rfl _ (pw_iadd Xj17.here hx (hb hby d17_43) _ k))))) ?_
       obtain ⟨c20, Ar20, -, Sz20, Nn20, Hs20, -⟩ := id fj17_0
       have hin20 : ¬ ((ch + (1 : Int32)) < 0 ∨ c20.slots.size ≤ ((ch + (1 : Int32))).toNatClampNeg) := inb_of Sz20 ⟨own_nlt (by rw [own_i0]; omega), own_lt (by omega)⟩
       refine Goes.step (B := Tj17.setTop (mkF m 45 #[.val (.ref a1), .val (.ref bA), .val (.ref nA), .val (.int g), .val (.int col), .val (.long ea), .second, .val (.int cn), .val (.int ch), .unset, .unset, .unset] [(.long (B.getD (ch + (1 : Int32)).toNatClampNeg 0))])) (Xj17.laload hx (j := (ch + (1 : Int32))) (v := (.long (B.getD (ch + (1 : Int32)).toNatClampNeg 0))) (by rw [ej17]; exact Ar20.1) (State.isArrayOf_alike hZ.alike Ar20.2.1) Ar20.2.2 hin20 (Has.at Hs20 hin20 (own_getDL B _)) (g := (mkF m 44 #[.val (.ref a1), .val (.ref bA), .val (.ref nA), .val (.int g), .val (.int col), .val (.long ea), .second, .val (.int cn), .val (.int ch), .unset, .unset, .unset] [(.int (ch + (1 : Int32))), (.ref bA)])) rfl rfl (hb hby d17_44)) ?_
       refine Goes.step (fun _ k => pw_aloadN Xj17.here hx (hb hby d17_45) rfl rfl _ (pw_iload Xj17.here hx (hb hby d17_46) rfl _ k)) ?_
       obtain ⟨c21, Ar21, -, Sz21, Nn21, Hs21, -⟩ := id fj17_0
       have hin21 : ¬ (ch < 0 ∨ c21.slots.size ≤ (ch).toNatClampNeg) := inb_of Sz21 ⟨own_nlt (by rw [own_i0]; omega), own_lt (by omega)⟩
       refine Goes.step (B := Tj17.setTop (mkF m 49 #[.val (.ref a1), .val (.ref bA), .val (.ref nA), .val (.int g), .val (.int col), .val (.long ea), .second, .val (.int cn), .val (.int ch), .unset, .unset, .unset] [(.long (B.getD ch.toNatClampNeg 0)), (.long (B.getD (ch + (1 : Int32)).toNatClampNeg 0))])) (Xj17.laload hx (j := ch) (v := (.long (B.getD ch.toNatClampNeg 0))) (by rw [ej17]; exact Ar21.1) (State.isArrayOf_alike hZ.alike Ar21.2.1) Ar21.2.2 hin21 (Has.at Hs21 hin21 (own_getDL B _)) (g := (mkF m 48 #[.val (.ref a1), .val (.ref bA), .val (.ref nA), .val (.int g), .val (.int col), .val (.long ea), .second, .val (.int cn), .val (.int ch), .unset, .unset, .unset] [(.int ch), (.ref bA), (.long (B.getD (ch + (1 : Int32)).toNatClampNeg 0))])) rfl rfl (hb hby d17_48)) ?_
       refine Goes.step (B := Tj17.setTop (mkF m 50 #[.val (.ref a1), .val (.ref bA), .val (.ref nA), .val (.int g), .val (.int col), .val (.long ea), .second, .val (.int cn), .val (.int ch), .unset, .unset, .unset] [(.long ((B.getD (ch + (1 : Int32)).toNatClampNeg 0) - (B.getD ch.toNatClampNeg 0)))])) (fun _ k => XS.lsub Xj17.here hx rfl (hb hby d17_49) rfl k) ?_
       refine Goes.step (fun _ k => pw_lload Xj17.here hx (hb hby d17_50) rfl _ k) ?_
       refine Goes.step (B := Tj17.setTop (mkF m 53 #[.val (.ref a1), .val (.ref bA), .val (.ref nA), .val (.int g), .val (.int col), .val (.long ea), .second, .val (.int cn), .val (.int ch), .unset, .unset, .unset] [(.int (lcmpW ((B.getD (ch + (1 : Int32)).toNatClampNeg 0) - (B.getD ch.toNatClampNeg 0)) ea))])) (fun _ k => XS.lcmp Xj17.here hx rfl (hb hby d17_52) rfl k) ?_
       by_cases hc53_21 : ea < ((B.getD (ch + (1 : Int32)).toNatClampNeg 0) - (B.getD ch.toNatClampNeg 0))
       · refine Goes.step (fun _ k => pw_ifYes Xj17.here hx (pc' := 62) (hb hby d17_53) ((if0 _ _).trans (tlt ((lw_gt _ _).mpr hc53_21)).2.2.1) (by decide) (by decide) _ k) ?_
         exact J5 _ _ _ ch Xj17 ej17 Oj17 Nj17 Kj17 fj17_0 fj17_1 ⟨hi0, by omega, own_ch0 hi0 (by omega) (by omega) hi (Or.inr (Or.inr hc53_21))⟩
       · refine Goes.step (fun _ k => pw_ifNo Xj17.here hx (hb hby d17_53) ((if0 _ _).trans (flt (fun q => hc53_21 ((lw_gt _ _).mp q))).2.2.1) _ (pw_iinc Xj17.here hx (l' := #[.val (.ref a1), .val (.ref bA), .val (.ref nA), .val (.int g), .val (.int col), .val (.long ea), .second, .val (.int cn), .val (.int (ch + (1 : Int32))), .unset, .unset, .unset]) (hb hby d17_56) rfl rfl _ (pw_goto Xj17.here hx (pc' := 19) (hb hby d17_59) (by decide) (by decide) _ k))) ?_
         exact ih17 _ _ _ (ch + (1 : Int32)) Xj17 ej17 Oj17 Nj17 Kj17 fj17_0 fj17_1 ⟨by rw [own_p1 (by omega)]; omega, by rw [own_p1 (by omega)]; omega, own_chstep hi0 (by omega) hi hc36_18 hc53_21⟩
  exact J17 col.toInt.toNat _ _ _ (0 : Int32) X3 e3 O0 N0 (Keep.refl h0 [nA]) VB VN ⟨by rw [own_i0]; omega, by decide, fun i h => absurd h (by rw [show (0 : Int32).toNatClampNeg = 0 from by decide]; exact Nat.not_lt_zero i)⟩
theorem d6_28 : decode prog_38_method_3_code 28 = .ok (.iconst 0, 1) := by decide +kernel
theorem d6_29 : decode prog_38_method_3_code 29 = .ok (.istore 4, 2) := by decide +kernel
theorem d6_31 : decode prog_38_method_3_code 31 = .ok (.lconst 0, 1) := by decide +kernel
theorem d6_32 : decode prog_38_method_3_code 32 = .ok (.lstore 5, 2) := by decide +kernel
theorem d6_34 : decode prog_38_method_3_code 34 = .ok (.iconst 0, 1) := by decide +kernel
theorem d6_35 : decode prog_38_method_3_code 35 = .ok (.istore 7, 2) := by decide +kernel
theorem d6_37 : decode prog_38_method_3_code 37 = .ok (.iconst 0, 1) := by decide +kernel
theorem d6_38 : decode prog_38_method_3_code 38 = .ok (.istore 8, 2) := by decide +kernel
theorem d6_170 : decode prog_38_method_3_code 170 = .ok (.iconst 0, 1) := by decide +kernel
theorem d6_171 : decode prog_38_method_3_code 171 = .ok (.istore 8, 2) := by decide +kernel
theorem d6_173 : decode prog_38_method_3_code 173 = .ok (.iload 8, 2) := by decide +kernel
theorem d6_175 : decode prog_38_method_3_code 175 = .ok (.iload_n 1, 1) := by decide +kernel
theorem d6_176 : decode prog_38_method_3_code 176 = .ok (.if_icmp .ge 22, 3) := by decide +kernel
theorem d6_198 : decode prog_38_method_3_code 198 = .ok (.iload 4, 2) := by decide +kernel
theorem d6_200 : decode prog_38_method_3_code 200 = .ok (.ireturn, 1) := by decide +kernel
theorem d6_179 : decode prog_38_method_3_code 179 = .ok (.aload_n 0, 1) := by decide +kernel
theorem d6_180 : decode prog_38_method_3_code 180 = .ok (.getfield 26, 3) := by decide +kernel
theorem own_w30 {Z : State} {a0 : Array Value} (hw : ∀ d ∈ tables_1, d.before a0 Z = true) : (Jvm.Cond.fieldLink "com/example/errantry/errantry/staff/CompletionBounds" (26 : Nat) "com/example/errantry/errantry/staff/CompletionBounds" "pooled" "[Z").before a0 Z = true := hw _ (List.mem_of_getElem? (i := 30) rfl)
theorem d6_183 : decode prog_38_method_3_code 183 = .ok (.aload_n 0, 1) := by decide +kernel
theorem d6_184 : decode prog_38_method_3_code 184 = .ok (.getfield 30, 3) := by decide +kernel
theorem own_w32 {Z : State} {a0 : Array Value} (hw : ∀ d ∈ tables_1, d.before a0 Z = true) : (Jvm.Cond.fieldLink "com/example/errantry/errantry/staff/CompletionBounds" (30 : Nat) "com/example/errantry/errantry/staff/CompletionBounds" "pool" "[I").before a0 Z = true := hw _ (List.mem_of_getElem? (i := 32) rfl)
theorem d6_187 : decode prog_38_method_3_code 187 = .ok (.iload 8, 2) := by decide +kernel
theorem d6_189 : decode prog_38_method_3_code 189 = .ok (.iaload, 1) := by decide +kernel
theorem d6_190 : decode prog_38_method_3_code 190 = .ok (.iconst 0, 1) := by decide +kernel
theorem d6_191 : decode prog_38_method_3_code 191 = .ok (.bastore, 1) := by decide +kernel
theorem d6_192 : decode prog_38_method_3_code 192 = .ok (.iinc 8 1, 3) := by decide +kernel
theorem d6_195 : decode prog_38_method_3_code 195 = .ok (.goto (-22), 3) := by decide +kernel
theorem d6_40 : decode prog_38_method_3_code 40 = .ok (.iload 8, 2) := by decide +kernel
theorem d6_42 : decode prog_38_method_3_code 42 = .ok (.aload_n 0, 1) := by decide +kernel
theorem d6_43 : decode prog_38_method_3_code 43 = .ok (.getfield 23, 3) := by decide +kernel
theorem own_w27 {Z : State} {a0 : Array Value} (hw : ∀ d ∈ tables_1, d.before a0 Z = true) : (Jvm.Cond.fieldLink "com/example/errantry/errantry/staff/CompletionBounds" (23 : Nat) "com/example/errantry/errantry/staff/CompletionBounds" "byCost" "[I").before a0 Z = true := hw _ (List.mem_of_getElem? (i := 27) rfl)
theorem d6_46 : decode prog_38_method_3_code 46 = .ok (.arraylength, 1) := by decide +kernel
theorem d6_47 : decode prog_38_method_3_code 47 = .ok (.if_icmp .ge 123, 3) := by decide +kernel
theorem d6_50 : decode prog_38_method_3_code 50 = .ok (.iload 7, 2) := by decide +kernel
theorem d6_52 : decode prog_38_method_3_code 52 = .ok (.ifCond .ne 118, 3) := by decide +kernel
theorem d6_55 : decode prog_38_method_3_code 55 = .ok (.aload_n 0, 1) := by decide +kernel
theorem d6_56 : decode prog_38_method_3_code 56 = .ok (.getfield 23, 3) := by decide +kernel
theorem d6_59 : decode prog_38_method_3_code 59 = .ok (.iload 8, 2) := by decide +kernel
theorem d6_61 : decode prog_38_method_3_code 61 = .ok (.iaload, 1) := by decide +kernel
theorem d6_62 : decode prog_38_method_3_code 62 = .ok (.istore 9, 2) := by decide +kernel
theorem d6_164 : decode prog_38_method_3_code 164 = .ok (.iinc 8 1, 3) := by decide +kernel
theorem d6_167 : decode prog_38_method_3_code 167 = .ok (.goto (-127), 3) := by decide +kernel
theorem d6_64 : decode prog_38_method_3_code 64 = .ok (.aload_n 0, 1) := by decide +kernel
theorem d6_65 : decode prog_38_method_3_code 65 = .ok (.getfield 26, 3) := by decide +kernel
theorem d6_68 : decode prog_38_method_3_code 68 = .ok (.iload 9, 2) := by decide +kernel
theorem d6_70 : decode prog_38_method_3_code 70 = .ok (.baload, 1) := by decide +kernel
theorem d6_71 : decode prog_38_method_3_code 71 = .ok (.ifCond .eq 93, 3) := by decide +kernel
theorem d6_122 : decode prog_38_method_3_code 122 = .ok (.iload 4, 2) := by decide +kernel
theorem d6_124 : decode prog_38_method_3_code 124 = .ok (.iload 10, 2) := by decide +kernel
theorem d6_126 : decode prog_38_method_3_code 126 = .ok (.iadd, 1) := by decide +kernel
theorem d6_127 : decode prog_38_method_3_code 127 = .ok (.istore 4, 2) := by decide +kernel
theorem d6_129 : decode prog_38_method_3_code 129 = .ok (.lload 5, 2) := by decide +kernel
theorem d6_131 : decode prog_38_method_3_code 131 = .ok (.iload 10, 2) := by decide +kernel
theorem d6_133 : decode prog_38_method_3_code 133 = .ok (.i2l, 1) := by decide +kernel
theorem d6_134 : decode prog_38_method_3_code 134 = .ok (.aload_n 0, 1) := by decide +kernel
theorem d6_135 : decode prog_38_method_3_code 135 = .ok (.getfield 15, 3) := by decide +kernel
theorem d6_138 : decode prog_38_method_3_code 138 = .ok (.iload 9, 2) := by decide +kernel
theorem d6_140 : decode prog_38_method_3_code 140 = .ok (.laload, 1) := by decide +kernel
theorem d6_141 : decode prog_38_method_3_code 141 = .ok (.lmul, 1) := by decide +kernel
theorem d6_142 : decode prog_38_method_3_code 142 = .ok (.ladd, 1) := by decide +kernel
theorem d6_143 : decode prog_38_method_3_code 143 = .ok (.lstore 5, 2) := by decide +kernel
theorem d6_145 : decode prog_38_method_3_code 145 = .ok (.iload 10, 2) := by decide +kernel
theorem d6_147 : decode prog_38_method_3_code 147 = .ok (.aload_n 0, 1) := by decide +kernel
theorem d6_148 : decode prog_38_method_3_code 148 = .ok (.getfield 19, 3) := by decide +kernel
theorem d6_151 : decode prog_38_method_3_code 151 = .ok (.iload 9, 2) := by decide +kernel
theorem d6_153 : decode prog_38_method_3_code 153 = .ok (.iaload, 1) := by decide +kernel
theorem d6_154 : decode prog_38_method_3_code 154 = .ok (.if_icmp .ge 7, 3) := by decide +kernel
theorem d6_157 : decode prog_38_method_3_code 157 = .ok (.iconst 1, 1) := by decide +kernel
theorem d6_158 : decode prog_38_method_3_code 158 = .ok (.goto 4, 3) := by decide +kernel
theorem d6_162 : decode prog_38_method_3_code 162 = .ok (.istore 7, 2) := by decide +kernel
theorem d6_161 : decode prog_38_method_3_code 161 = .ok (.iconst 0, 1) := by decide +kernel
theorem d6_74 : decode prog_38_method_3_code 74 = .ok (.aload_n 0, 1) := by decide +kernel
theorem d6_75 : decode prog_38_method_3_code 75 = .ok (.getfield 15, 3) := by decide +kernel
theorem d6_78 : decode prog_38_method_3_code 78 = .ok (.iload 9, 2) := by decide +kernel
theorem d6_80 : decode prog_38_method_3_code 80 = .ok (.laload, 1) := by decide +kernel
theorem d6_81 : decode prog_38_method_3_code 81 = .ok (.lconst 0, 1) := by decide +kernel
theorem d6_82 : decode prog_38_method_3_code 82 = .ok (.lcmp, 1) := by decide +kernel
theorem d6_83 : decode prog_38_method_3_code 83 = .ok (.ifCond .ne 13, 3) := by decide +kernel
theorem d6_86 : decode prog_38_method_3_code 86 = .ok (.aload_n 0, 1) := by decide +kernel
theorem d6_87 : decode prog_38_method_3_code 87 = .ok (.getfield 19, 3) := by decide +kernel
theorem d6_90 : decode prog_38_method_3_code 90 = .ok (.iload 9, 2) := by decide +kernel
theorem d6_92 : decode prog_38_method_3_code 92 = .ok (.iaload, 1) := by decide +kernel
theorem d6_93 : decode prog_38_method_3_code 93 = .ok (.goto 27, 3) := by decide +kernel
theorem d6_120 : decode prog_38_method_3_code 120 = .ok (.istore 10, 2) := by decide +kernel
theorem d6_96 : decode prog_38_method_3_code 96 = .ok (.aload_n 0, 1) := by decide +kernel
theorem d6_97 : decode prog_38_method_3_code 97 = .ok (.getfield 19, 3) := by decide +kernel
theorem d6_100 : decode prog_38_method_3_code 100 = .ok (.iload 9, 2) := by decide +kernel
theorem d6_102 : decode prog_38_method_3_code 102 = .ok (.iaload, 1) := by decide +kernel
theorem d6_103 : decode prog_38_method_3_code 103 = .ok (.i2l, 1) := by decide +kernel
theorem d6_104 : decode prog_38_method_3_code 104 = .ok (.lload_n 2, 1) := by decide +kernel
theorem d6_105 : decode prog_38_method_3_code 105 = .ok (.lload 5, 2) := by decide +kernel
theorem d6_107 : decode prog_38_method_3_code 107 = .ok (.lsub, 1) := by decide +kernel
theorem d6_108 : decode prog_38_method_3_code 108 = .ok (.aload_n 0, 1) := by decide +kernel
theorem d6_109 : decode prog_38_method_3_code 109 = .ok (.getfield 15, 3) := by decide +kernel
theorem d6_112 : decode prog_38_method_3_code 112 = .ok (.iload 9, 2) := by decide +kernel
theorem d6_114 : decode prog_38_method_3_code 114 = .ok (.laload, 1) := by decide +kernel
theorem d6_115 : decode prog_38_method_3_code 115 = .ok (.ldiv, 1) := by decide +kernel
theorem d6_116 : decode prog_38_method_3_code 116 = .ok (.invokestatic 86, 3) := by decide +kernel
theorem own_w100 {Z : State} {a0 : Array Value} (hw : ∀ d ∈ tables_1, d.before a0 Z = true) : (Jvm.Cond.methodLink "com/example/errantry/errantry/staff/CompletionBounds" (86 : Nat) ({ cls := "java/lang/Math", name := "min", desc := "(JJ)J" } : Jvm.MethodName)).before a0 Z = true := hw _ (List.mem_of_getElem? (i := 100) rfl)
theorem own_w102 {Z : State} {a0 : Array Value} (hw : ∀ d ∈ tables_1, d.before a0 Z = true) : (Jvm.Cond.code ({ cls := "java/lang/Math", name := "min", desc := "(JJ)J" } : Jvm.MethodName) jdk_29_method_70_code (4 : Nat) (Option.some Jvm.ClassFile.FieldType.long)).before a0 Z = true := hw _ (List.mem_of_getElem? (i := 102) rfl)
theorem pd_2 : parseMethodDescriptor "(JJ)J" = some ⟨[.long, .long], some .long⟩ := by decide +kernel
theorem own_w101 {Z : State} {a0 : Array Value} (hw : ∀ d ∈ tables_1, d.before a0 Z = true) : (Jvm.Cond.static ({ cls := "java/lang/Math", name := "min", desc := "(JJ)J" } : Jvm.MethodName)).before a0 Z = true := hw _ (List.mem_of_getElem? (i := 101) rfl)
theorem d6_119 : decode prog_38_method_3_code 119 = .ok (.l2i, 1) := by decide +kernel
theorem d6_0 : decode prog_38_method_3_code 0 = .ok (.iconst 0, 1) := by decide +kernel
theorem d6_1 : decode prog_38_method_3_code 1 = .ok (.istore 4, 2) := by decide +kernel
theorem d6_3 : decode prog_38_method_3_code 3 = .ok (.iload 4, 2) := by decide +kernel
theorem d6_5 : decode prog_38_method_3_code 5 = .ok (.iload_n 1, 1) := by decide +kernel
theorem d6_6 : decode prog_38_method_3_code 6 = .ok (.if_icmp .ge 22, 3) := by decide +kernel
theorem d6_9 : decode prog_38_method_3_code 9 = .ok (.aload_n 0, 1) := by decide +kernel
theorem d6_10 : decode prog_38_method_3_code 10 = .ok (.getfield 26, 3) := by decide +kernel
theorem d6_13 : decode prog_38_method_3_code 13 = .ok (.aload_n 0, 1) := by decide +kernel
theorem d6_14 : decode prog_38_method_3_code 14 = .ok (.getfield 30, 3) := by decide +kernel
theorem d6_17 : decode prog_38_method_3_code 17 = .ok (.iload 4, 2) := by decide +kernel
theorem d6_19 : decode prog_38_method_3_code 19 = .ok (.iaload, 1) := by decide +kernel
theorem d6_20 : decode prog_38_method_3_code 20 = .ok (.iconst 1, 1) := by decide +kernel
theorem d6_21 : decode prog_38_method_3_code 21 = .ok (.bastore, 1) := by decide +kernel
theorem d6_22 : decode prog_38_method_3_code 22 = .ok (.iinc 4 1, 3) := by decide +kernel
theorem d6_25 : decode prog_38_method_3_code 25 = .ok (.goto (-22), 3) := by decide +kernel
theorem ef_rmMF (m : MethodId) (x0 : Addr) (x1 : Int32) (x2 : Int64) : entryFrame m #[(.ref x0), (.int x1), (.long x2)] 11 = mkF m 0 #[.val (.ref x0), .val (.int x1), .val (.long x2), .second, .unset, .unset, .unset, .unset, .unset, .unset, .unset] [] := by first | (simp [entryFrame, mkF, argsToLocals, Value.category]; done) | rfl
def QMF (Z : State) (a1 : Addr) (plA : Addr) (kp : ClassId) (pbA : Addr) (kb : ClassId) (qA : Addr) (kq : ClassId) (cA : Addr) (kC : ClassId) (mA : Addr) (kM : ClassId) (ct0 : Int64) (ct1 : Int64) (ct2 : Int64) (mb0 : Int32) (mb1 : Int32) (mb2 : Int32) (bc0 : Int32) (bc1 : Int32) (bc2 : Int32) (x0 : Int32) (x1 : Int32) (x2 : Int32) (n : Int32) (rm : Int64) (h0 : Heap) (n0 : Nat) (v : Option Value) (h : Heap) (L : List Loc) : Prop := ∃ ft : Int32, v = some (.int ft) ∧ Fr n0 L ∧ Keep h0 h [pbA] ∧ 0 ≤ ft.toInt ∧ ft.toInt ≤ own_em n x0 x1 x2 mb0 0 + own_em n x0 x1 x2 mb1 1 + own_em n x0 x1 x2 mb2 2
set_option maxRecDepth 65536 in
set_option maxHeartbeats 40000000 in
theorem rmMF (l : Launch) (Z : State) (a0 : Array Value) (hw : ∀ d ∈ tables_1, d.before a0 Z = true) (ws : List Jvm.Cond) (a1 : Addr) (plA : Addr) (kp : ClassId) (pbA : Addr) (kb : ClassId) (qA : Addr) (kq : ClassId) (cA : Addr) (kC : ClassId) (mA : Addr) (kM : ClassId) (ct0 : Int64) (ct1 : Int64) (ct2 : Int64) (mb0 : Int32) (mb1 : Int32) (mb2 : Int32) (bc0 : Int32) (bc1 : Int32) (bc2 : Int32) (x0 : Int32) (x1 : Int32) (x2 : Int32) (n : Int32) (rm : Int64) (h0 : Heap) (n0 : Nat) (O0 : Old Z n0 h0) (Fpb : Fld Z h0 a1 "com/example/errantry/errantry/staff/CompletionBounds" "pooled" "[Z" (.ref pbA)) (Fpl : Fld Z h0 a1 "com/example/errantry/errantry/staff/CompletionBounds" "pool" "[I" (.ref plA)) (Fbc : Fld Z h0 a1 "com/example/errantry/errantry/staff/CompletionBounds" "byCost" "[I" (.ref qA)) (Fc : Fld Z h0 a1 "com/example/errantry/errantry/staff/CompletionBounds" "cost" "[J" (.ref cA)) (Fm : Fld Z h0 a1 "com/example/errantry/errantry/staff/CompletionBounds" "members" "[I" (.ref mA)) (Vpl : Arv Z h0 plA kp .int (3 : Int32) [.int x0, .int x1, .int x2] (.int 0)) (Vpb : Arv Z h0 pbA kb .boolean (3 : Int32) (([0, 0, 0] : List Int32).map Value.int) (.int 0)) (Vbc : Arv Z h0 qA kq .int (3 : Int32) [.int bc0, .int bc1, .int bc2] (.int 0)) (VC : Arv Z h0 cA kC .long (3 : Int32) [.long ct0, .long ct1, .long ct2] (.long 0)) (VM : Arv Z h0 mA kM .int (3 : Int32) [.int mb0, .int mb1, .int mb2] (.int 0)) (gp : n0 ≤ pbA) (npl : plA ≠ pbA) (nq : qA ≠ pbA) (nc : cA ≠ pbA) (nm : mA ≠ pbA) (na : a1 ≠ pbA) (hn : 0 ≤ n.toInt ∧ n.toInt ≤ 3) (hx0 : 0 < n.toInt → 0 ≤ x0.toInt ∧ x0.toInt ≤ 2) (hx1 : 1 < n.toInt → 0 ≤ x1.toInt ∧ x1.toInt ≤ 2) (hx2 : 2 < n.toInt → 0 ≤ x2.toInt ∧ x2.toInt ≤ 2) (hpm : own_perm bc0 bc1 bc2) (hr : 0 ≤ rm.toInt ∧ rm.toInt < 1152921504606846976) (hC0 : 0 ≤ ct0.toInt ∧ ct0.toInt < 1099511627776) (hC1 : 0 ≤ ct1.toInt ∧ ct1.toInt < 1099511627776) (hC2 : 0 ≤ ct2.toInt ∧ ct2.toInt < 1099511627776) (hM0 : 1 ≤ mb0.toInt ∧ mb0.toInt ≤ 4) (hM1 : 1 ≤ mb1.toInt ∧ mb1.toInt ≤ 4) (hM2 : 1 ≤ mb2.toInt ∧ mb2.toInt ≤ 4) :
    MetFree l (⟨"com/example/errantry/errantry/staff/CompletionBounds", "mostFitting", "(IJ)I"⟩ : MethodName) (head1 (Jvm.Cond.code (⟨"com/example/errantry/errantry/staff/CompletionBounds", "mostFitting", "(IJ)I"⟩ : MethodName) prog_38_method_3_code 11 (some .int) :: ws) ({ frames := 1, cells := 0, slots := 0, locals := 15 } : Room)) (fun a U => a = #[(.ref a1), (.int n), (.long rm)] ∧ Z.Warmed39 U.vm ∧ U.heap = h0) (fun _ _ _ _ _ => True) (fun _ U o U' => ∃ v L, o = .returned v ∧ QMF Z a1 plA kp pbA kb qA kq cA kC mA kM ct0 ct1 ct2 mb0 mb1 mb2 bc0 bc1 bc2 x0 x1 x2 n rm h0 n0 v U'.heap L ∧ FrameEnd U o U' L ({ frames := 1, cells := 0, slots := 0, locals := 15 } : Room).cells ({ frames := 1, cells := 0, slots := 0, locals := 15 } : Room).slots) := by
  refine MetFree.of_bodySF (plainFor_of_name pn_CompletionBounds) hisR ?_
  intro p e s m args below meth c s₁ Bd hml0 hP hK
  obtain ⟨rfl, hZ, hh⟩ := hP
  have hx := Bd.exec
  have hby := Bd.bytes
  have hlk : meth.locks = false := BodyLoose.notSynchronized Bd
  have hml : c.maxLocals = 11 := hml0
  have hown : s.vm.findClass "com/example/errantry/errantry/staff/CompletionBounds" = some m.cls := findClass_of_methodNamed Bd.named
  have hnm := (name_of_methodNamed Bd.named Bd.method).1
  have X0 : Stand p l e ({ frames := 1, cells := 0, slots := 0, locals := 15 } : Room) s m #[(.ref a1), (.int n), (.long rm)] below meth c s₁ [] 0 0 := Stand.of_body Bd
  have e0 : s₁.heap = h0 := by rw [← hh, Bd.state]; rfl
  have N0 := Fr.nil n0
  show Goes p e below s (QMF Z a1 plA kp pbA kb qA kq cA kC mA kM ct0 ct1 ct2 mb0 mb1 mb2 bc0 bc1 bc2 x0 x1 x2 n rm h0 n0) ({ frames := 1, cells := 0, slots := 0, locals := 15 } : Room).cells ({ frames := 1, cells := 0, slots := 0, locals := 15 } : Room).slots (s₁.setTop (entryFrame m #[(.ref a1), (.int n), (.long rm)] 11))
  refine Goes.enter (g' := (mkF m 0 #[.val (.ref a1), .val (.int n), .val (.long rm), .second, .unset, .unset, .unset, .unset, .unset, .unset, .unset] [])) (ef_rmMF m a1 n rm) ?_
  have J1 : ∀ (Tj1 : State) (Hj1 : Heap) (lj1 : List Loc) (pl : List Int32), Stand p l e ({ frames := 1, cells := 0, slots := 0, locals := 15 } : Room) s m #[(.ref a1), (.int n), (.long rm)] below meth c Tj1 lj1 0 0 → Tj1.heap = Hj1 → Old Z n0 Hj1 → Fr n0 lj1 → Keep h0 Hj1 [pbA] → Fld Z Hj1 a1 "com/example/errantry/errantry/staff/CompletionBounds" "pooled" "[Z" (.ref pbA) → Fld Z Hj1 a1 "com/example/errantry/errantry/staff/CompletionBounds" "pool" "[I" (.ref plA) → Fld Z Hj1 a1 "com/example/errantry/errantry/staff/CompletionBounds" "byCost" "[I" (.ref qA) → Fld Z Hj1 a1 "com/example/errantry/errantry/staff/CompletionBounds" "cost" "[J" (.ref cA) → Fld Z Hj1 a1 "com/example/errantry/errantry/staff/CompletionBounds" "members" "[I" (.ref mA) → Arv Z Hj1 plA kp .int (3 : Int32) [(.int x0), (.int x1), (.int x2)] (.int 0) → Arv Z Hj1 pbA kb .boolean (3 : Int32) (pl.map Value.int) (.int 0) → Arv Z Hj1 qA kq .int (3 : Int32) [(.int bc0), (.int bc1), (.int bc2)] (.int 0) → Arv Z Hj1 cA kC .long (3 : Int32) [(.long ct0), (.long ct1), (.long ct2)] (.long 0) → Arv Z Hj1 mA kM .int (3 : Int32) [(.int mb0), (.int mb1), (.int mb2)] (.int 0) → (own_plo pl n x0 x1 x2) → Goes p e below s (QMF Z a1 plA kp pbA kb qA kq cA kC mA kM ct0 ct1 ct2 mb0 mb1 mb2 bc0 bc1 bc2 x0 x1 x2 n rm h0 n0) ({ frames := 1, cells := 0, slots := 0, locals := 15 } : Room).cells ({ frames := 1, cells := 0, slots := 0, locals := 15 } : Room).slots (Tj1.setTop (mkF m 28 #[.val (.ref a1), .val (.int n), .val (.long rm), .second, .val (.int n), .unset, .unset, .unset, .unset, .unset, .unset] [])) := by
   intro Tj1 Hj1 lj1 pl Xj1 ej1 Oj1 Nj1 Kj1 fj1_0 fj1_1 fj1_2 fj1_3 fj1_4 fj1_5 fj1_6 fj1_7 fj1_8 fj1_9 hJ1
   have hpl := hJ1
   obtain ⟨pm0, pm1, pm2, pm3, pm4, pm5⟩ := id hpm
   have mm0 := own_mb hM0 hM1 hM2 pm0
   have ef0 := own_ef_le (pl := pl) (ms := [mb0, mb1, mb2]) (u := bc0) ⟨by omega, mm0.2⟩
   have cc0 := own_ctb hC0 hC1 hC2 pm0
   have mm1 := own_mb hM0 hM1 hM2 pm1
   have ef1 := own_ef_le (pl := pl) (ms := [mb0, mb1, mb2]) (u := bc1) ⟨by omega, mm1.2⟩
   have cc1 := own_ctb hC0 hC1 hC2 pm1
   have mm2 := own_mb hM0 hM1 hM2 pm2
   have ef2 := own_ef_le (pl := pl) (ms := [mb0, mb1, mb2]) (u := bc2) ⟨by omega, mm2.2⟩
   have cc2 := own_ctb hC0 hC1 hC2 pm2
   refine Goes.step (fun _ k => pw_iconst Xj1.here hx (v := (0 : Int32)) (hb hby d6_28) rfl _ (pw_istore Xj1.here hx (l' := #[.val (.ref a1), .val (.int n), .val (.long rm), .second, .val (.int 0), .unset, .unset, .unset, .unset, .unset, .unset]) (hb hby d6_29) rfl _ k)) ?_
   refine Goes.step (B := Tj1.setTop (mkF m 32 #[.val (.ref a1), .val (.int n), .val (.long rm), .second, .val (.int 0), .unset, .unset, .unset, .unset, .unset, .unset] [(.long 0)])) (fun _ k => XS.lconst Xj1.here hx rfl (hb hby d6_31) k) ?_
   refine Goes.step (fun _ k => pw_lstore Xj1.here hx (l' := #[.val (.ref a1), .val (.int n), .val (.long rm), .second, .val (.int 0), .val (.long 0), .second, .unset, .unset, .unset, .unset]) (hb hby d6_32) rfl _ (pw_iconst Xj1.here hx (v := (0 : Int32)) (hb hby d6_34) rfl _ (pw_istore Xj1.here hx (l' := #[.val (.ref a1), .val (.int n), .val (.long rm), .second, .val (.int 0), .val (.long 0), .second, .val (.int 0), .unset, .unset, .unset]) (hb hby d6_35) rfl _ (pw_iconst Xj1.here hx (v := (0 : Int32)) (hb hby d6_37) rfl _ (pw_istore Xj1.here hx (l' := #[.val (.ref a1), .val (.int n), .val (.long rm), .second, .val (.int 0), .val (.long 0), .second, .val (.int 0), .val (.int 0), .unset, .unset]) (hb hby d6_38) rfl _ k))))) ?_
   have J2 : ∀ (Tj2 : State) (Hj2 : Heap) (lj2 : List Loc) (ft : Int32) (sp : Int64) (fl : Int32) (rk : Int32) (s9 : Slot) (s10 : Slot), Stand p l e ({ frames := 1, cells := 0, slots := 0, locals := 15 } : Room) s m #[(.ref a1), (.int n), (.long rm)] below meth c Tj2 lj2 0 0 → Tj2.heap = Hj2 → Old Z n0 Hj2 → Fr n0 lj2 → Keep h0 Hj2 [pbA] → Fld Z Hj2 a1 "com/example/errantry/errantry/staff/CompletionBounds" "pooled" "[Z" (.ref pbA) → Fld Z Hj2 a1 "com/example/errantry/errantry/staff/CompletionBounds" "pool" "[I" (.ref plA) → Fld Z Hj2 a1 "com/example/errantry/errantry/staff/CompletionBounds" "byCost" "[I" (.ref qA) → Fld Z Hj2 a1 "com/example/errantry/errantry/staff/CompletionBounds" "cost" "[J" (.ref cA) → Fld Z Hj2 a1 "com/example/errantry/errantry/staff/CompletionBounds" "members" "[I" (.ref mA) → Arv Z Hj2 plA kp .int (3 : Int32) [(.int x0), (.int x1), (.int x2)] (.int 0) → Arv Z Hj2 pbA kb .boolean (3 : Int32) (pl.map Value.int) (.int 0) → Arv Z Hj2 qA kq .int (3 : Int32) [(.int bc0), (.int bc1), (.int bc2)] (.int 0) → Arv Z Hj2 cA kC .long (3 : Int32) [(.long ct0), (.long ct1), (.long ct2)] (.long 0) → Arv Z Hj2 mA kM .int (3 : Int32) [(.int mb0), (.int mb1), (.int mb2)] (.int 0) → (0 ≤ ft.toInt ∧ ft.toInt ≤ own_ef pl [mb0, mb1, mb2] bc0 + own_ef pl [mb0, mb1, mb2] bc1 + own_ef pl [mb0, mb1, mb2] bc2) → Goes p e below s (QMF Z a1 plA kp pbA kb qA kq cA kC mA kM ct0 ct1 ct2 mb0 mb1 mb2 bc0 bc1 bc2 x0 x1 x2 n rm h0 n0) ({ frames := 1, cells := 0, slots := 0, locals := 15 } : Room).cells ({ frames := 1, cells := 0, slots := 0, locals := 15 } : Room).slots (Tj2.setTop (mkF m 170 #[.val (.ref a1), .val (.int n), .val (.long rm), .second, .val (.int ft), .val (.long sp), .second, .val (.int fl), .val (.int rk), s9, s10] [])) := by
    intro Tj2 Hj2 lj2 ft sp fl rk s9 s10 Xj2 ej2 Oj2 Nj2 Kj2 fj2_0 fj2_1 fj2_2 fj2_3 fj2_4 fj2_5 fj2_6 fj2_7 fj2_8 fj2_9 hJ2
    obtain ⟨fa, fb⟩ := hJ2
    have hW : ft.toInt ≤ own_em n x0 x1 x2 mb0 0 + own_em n x0 x1 x2 mb1 1 + own_em n x0 x1 x2 mb2 2 := by have q1 := own_efp (pl := pl) (ms := [mb0, mb1, mb2]) hpm; have q2 := own_efm hpl hM0 hM1 hM2; omega
    refine Goes.step (fun _ k => pw_iconst Xj2.here hx (v := (0 : Int32)) (hb hby d6_170) rfl _ (pw_istore Xj2.here hx (l' := #[.val (.ref a1), .val (.int n), .val (.long rm), .second, .val (.int ft), .val (.long sp), .second, .val (.int fl), .val (.int 0), s9, s10]) (hb hby d6_171) rfl _ k)) ?_
    rcases own_n4c hn with rfl | rfl | rfl | rfl
    · refine Goes.step (fun _ k => pw_iload Xj2.here hx (hb hby d6_173) rfl _ (pw_iloadN Xj2.here hx (hb hby d6_175) rfl _ (pw_icmpYes Xj2.here hx (pc' := 198) (hb hby d6_176) (flt (by decide)).2.1 (by decide) (by decide) _ (pw_iload Xj2.here hx (hb hby d6_198) rfl _ k)))) ?_
      exact Goes.retI Xj2 hx ej2 Bd.returns hlk (hb hby d6_200) (by decide) (by decide) (⟨ft, rfl, Nj2, Kj2, fa, hW⟩)
    · refine Goes.step (fun _ k => pw_iload Xj2.here hx (hb hby d6_173) rfl _ (pw_iloadN Xj2.here hx (hb hby d6_175) rfl _ (pw_icmpNo Xj2.here hx (hb hby d6_176) (tlt (by decide)).2.1 _ (pw_aloadN Xj2.here hx (hb hby d6_179) rfl rfl _ k)))) ?_
      obtain ⟨T3, X3, e3, st3⟩ := getF Xj2 hx hZ hown (host := "") (Or.inl (own_w30 hw)) Via.refl ej2 fj2_0 (g := (mkF m 180 #[.val (.ref a1), .val (.int 1), .val (.long rm), .second, .val (.int ft), .val (.long sp), .second, .val (.int fl), .val (.int 0), s9, s10] [(.ref a1)])) rfl rfl (hb hby d6_180)
      refine Goes.step (B := T3.setTop (mkF m 183 #[.val (.ref a1), .val (.int 1), .val (.long rm), .second, .val (.int ft), .val (.long sp), .second, .val (.int fl), .val (.int 0), s9, s10] [(.ref pbA)])) st3 ?_
      refine Goes.step (fun _ k => pw_aloadN X3.here hx (hb hby d6_183) rfl rfl _ k) ?_
      obtain ⟨T4, X4, e4, st4⟩ := getF X3 hx hZ hown (host := "") (Or.inl (own_w32 hw)) Via.refl e3 fj2_1 (g := (mkF m 184 #[.val (.ref a1), .val (.int 1), .val (.long rm), .second, .val (.int ft), .val (.long sp), .second, .val (.int fl), .val (.int 0), s9, s10] [(.ref a1), (.ref pbA)])) rfl rfl (hb hby d6_184)
      refine Goes.step (B := T4.setTop (mkF m 187 #[.val (.ref a1), .val (.int 1), .val (.long rm), .second, .val (.int ft), .val (.long sp), .second, .val (.int fl), .val (.int 0), s9, s10] [(.ref plA), (.ref pbA)])) st4 ?_
      refine Goes.step (fun _ k => pw_iload X4.here hx (hb hby d6_187) rfl _ k) ?_
      obtain ⟨c5, Ar5, -, Sz5, Nn5, Hs5, -⟩ := id fj2_5
      have hin5 : ¬ ((0 : Int32) < 0 ∨ c5.slots.size ≤ ((0 : Int32)).toNatClampNeg) := inb_of Sz5 ⟨by decide, by decide⟩
      refine Goes.step (B := T4.setTop (mkF m 190 #[.val (.ref a1), .val (.int 1), .val (.long rm), .second, .val (.int ft), .val (.long sp), .second, .val (.int fl), .val (.int 0), s9, s10] [(.int x0), (.ref pbA)])) (X4.iaload hx (j := (0 : Int32)) (v := (.int x0)) (by rw [e4]; exact Ar5.1) (State.isArrayOf_alike hZ.alike Ar5.2.1) Ar5.2.2 hin5 (Has.at Hs5 hin5 rfl) (g := (mkF m 189 #[.val (.ref a1), .val (.int 1), .val (.long rm), .second, .val (.int ft), .val (.long sp), .second, .val (.int fl), .val (.int 0), s9, s10] [(.int 0), (.ref plA), (.ref pbA)])) rfl rfl (hb hby d6_189)) ?_
      refine Goes.step (fun _ k => pw_iconst X4.here hx (v := (0 : Int32)) (hb hby d6_190) rfl _ k) ?_
      obtain ⟨c6, Ar6, q6, Sz6, Nn6, Hs6, Gs6⟩ := id fj2_6
      have hin6 : ¬ (x0 < 0 ∨ c6.slots.size ≤ (x0).toNatClampNeg) := inb_of Sz6 (own_gin (hx0 (by decide)))
      obtain ⟨T6, h6, X6, e6, W6, st6⟩ := stZ X4 hx hZ e4 Ar6 (j := x0) hin6 (g := (mkF m 191 #[.val (.ref a1), .val (.int 1), .val (.long rm), .second, .val (.int ft), .val (.long sp), .second, .val (.int fl), .val (.int 0), s9, s10] [(.int 0), (.int x0), (.ref pbA)])) rfl rfl (hb hby d6_191)
      have V6 : Arv Z h6 pbA kb .boolean (3 : Int32) ((pl.map Value.int).set (x0).toNatClampNeg (.int 0)) (.int 0) := Arv.set Ar6 q6 Sz6 Nn6 Hs6 Gs6 (by decide) W6 _ rfl (by have q := own_nat (hx0 (by decide)).1; have q2 := (hx0 (by decide)).2; rw [List.length_map]; (try simp only [List.length_set]); rw [hpl.1]; omega)
      rw [own_setI] at V6
      have N6 := Fr.snoc X6 Nj2 gp
      have O_6 := Oj2.wr W6 gp
      have K_6 := Kj2.wr W6 (Or.inl (List.mem_of_getElem? (i := 0) rfl))
      refine Goes.step (B := T6.setTop (mkF m 192 #[.val (.ref a1), .val (.int 1), .val (.long rm), .second, .val (.int ft), .val (.long sp), .second, .val (.int fl), .val (.int 0), s9, s10] [])) st6 ?_
      refine Goes.step (fun _ k => pw_iinc X6.here hx (l' := #[.val (.ref a1), .val (.int 1), .val (.long rm), .second, .val (.int ft), .val (.long sp), .second, .val (.int fl), .val (.int 1), s9, s10]) (hb hby d6_192) rfl rfl _ (pw_goto X6.here hx (pc' := 173) (hb hby d6_195) (by decide) (by decide) _ (pw_iload X6.here hx (hb hby d6_173) rfl _ (pw_iloadN X6.here hx (hb hby d6_175) rfl _ (pw_icmpYes X6.here hx (pc' := 198) (hb hby d6_176) (flt (by decide)).2.1 (by decide) (by decide) _ (pw_iload X6.here hx (hb hby d6_198) rfl _ k)))))) ?_
      exact Goes.retI X6 hx e6 Bd.returns hlk (hb hby d6_200) (by decide) (by decide) (⟨ft, rfl, N6, K_6, fa, hW⟩)
    · refine Goes.step (fun _ k => pw_iload Xj2.here hx (hb hby d6_173) rfl _ (pw_iloadN Xj2.here hx (hb hby d6_175) rfl _ (pw_icmpNo Xj2.here hx (hb hby d6_176) (tlt (by decide)).2.1 _ (pw_aloadN Xj2.here hx (hb hby d6_179) rfl rfl _ k)))) ?_
      obtain ⟨T7, X7, e7, st7⟩ := getF Xj2 hx hZ hown (host := "") (Or.inl (own_w30 hw)) Via.refl ej2 fj2_0 (g := (mkF m 180 #[.val (.ref a1), .val (.int 2), .val (.long rm), .second, .val (.int ft), .val (.long sp), .second, .val (.int fl), .val (.int 0), s9, s10] [(.ref a1)])) rfl rfl (hb hby d6_180)
      refine Goes.step (B := T7.setTop (mkF m 183 #[.val (.ref a1), .val (.int 2), .val (.long rm), .second, .val (.int ft), .val (.long sp), .second, .val (.int fl), .val (.int 0), s9, s10] [(.ref pbA)])) st7 ?_
      refine Goes.step (fun _ k => pw_aloadN X7.here hx (hb hby d6_183) rfl rfl _ k) ?_
      obtain ⟨T8, X8, e8, st8⟩ := getF X7 hx hZ hown (host := "") (Or.inl (own_w32 hw)) Via.refl e7 fj2_1 (g := (mkF m 184 #[.val (.ref a1), .val (.int 2), .val (.long rm), .second, .val (.int ft), .val (.long sp), .second, .val (.int fl), .val (.int 0), s9, s10] [(.ref a1), (.ref pbA)])) rfl rfl (hb hby d6_184)
      refine Goes.step (B := T8.setTop (mkF m 187 #[.val (.ref a1), .val (.int 2), .val (.long rm), .second, .val (.int ft), .val (.long sp), .second, .val (.int fl), .val (.int 0), s9, s10] [(.ref plA), (.ref pbA)])) st8 ?_
      refine Goes.step (fun _ k => pw_iload X8.here hx (hb hby d6_187) rfl _ k) ?_
      obtain ⟨c9, Ar9, -, Sz9, Nn9, Hs9, -⟩ := id fj2_5
      have hin9 : ¬ ((0 : Int32) < 0 ∨ c9.slots.size ≤ ((0 : Int32)).toNatClampNeg) := inb_of Sz9 ⟨by decide, by decide⟩
      refine Goes.step (B := T8.setTop (mkF m 190 #[.val (.ref a1), .val (.int 2), .val (.long rm), .second, .val (.int ft), .val (.long sp), .second, .val (.int fl), .val (.int 0), s9, s10] [(.int x0), (.ref pbA)])) (X8.iaload hx (j := (0 : Int32)) (v := (.int x0)) (by rw [e8]; exact Ar9.1) (State.isArrayOf_alike hZ.alike Ar9.2.1) Ar9.2.2 hin9 (Has.at Hs9 hin9 rfl) (g := (mkF m 189 #[.val (.ref a1), .val (.int 2), .val (.long rm), .second, .val (.int ft), .val (.long sp), .second, .val (.int fl), .val (.int 0), s9, s10] [(.int 0), (.ref plA), (.ref pbA)])) rfl rfl (hb hby d6_189)) ?_
      refine Goes.step (fun _ k => pw_iconst X8.here hx (v := (0 : Int32)) (hb hby d6_190) rfl _ k) ?_
      obtain ⟨c10, Ar10, q10, Sz10, Nn10, Hs10, Gs10⟩ := id fj2_6
      have hin10 : ¬ (x0 < 0 ∨ c10.slots.size ≤ (x0).toNatClampNeg) := inb_of Sz10 (own_gin (hx0 (by decide)))
      obtain ⟨T10, h10, X10, e10, W10, st10⟩ := stZ X8 hx hZ e8 Ar10 (j := x0) hin10 (g := (mkF m 191 #[.val (.ref a1), .val (.int 2), .val (.long rm), .second, .val (.int ft), .val (.long sp), .second, .val (.int fl), .val (.int 0), s9, s10] [(.int 0), (.int x0), (.ref pbA)])) rfl rfl (hb hby d6_191)
      have V10 : Arv Z h10 pbA kb .boolean (3 : Int32) ((pl.map Value.int).set (x0).toNatClampNeg (.int 0)) (.int 0) := Arv.set Ar10 q10 Sz10 Nn10 Hs10 Gs10 (by decide) W10 _ rfl (by have q := own_nat (hx0 (by decide)).1; have q2 := (hx0 (by decide)).2; rw [List.length_map]; (try simp only [List.length_set]); rw [hpl.1]; omega)
      rw [own_setI] at V10
      have N10 := Fr.snoc X10 Nj2 gp
      have O_10 := Oj2.wr W10 gp
      have K_10 := Kj2.wr W10 (Or.inl (List.mem_of_getElem? (i := 0) rfl))
      refine Goes.step (B := T10.setTop (mkF m 192 #[.val (.ref a1), .val (.int 2), .val (.long rm), .second, .val (.int ft), .val (.long sp), .second, .val (.int fl), .val (.int 0), s9, s10] [])) st10 ?_
      refine Goes.step (fun _ k => pw_iinc X10.here hx (l' := #[.val (.ref a1), .val (.int 2), .val (.long rm), .second, .val (.int ft), .val (.long sp), .second, .val (.int fl), .val (.int 1), s9, s10]) (hb hby d6_192) rfl rfl _ (pw_goto X10.here hx (pc' := 173) (hb hby d6_195) (by decide) (by decide) _ (pw_iload X10.here hx (hb hby d6_173) rfl _ (pw_iloadN X10.here hx (hb hby d6_175) rfl _ (pw_icmpNo X10.here hx (hb hby d6_176) (tlt (by decide)).2.1 _ (pw_aloadN X10.here hx (hb hby d6_179) rfl rfl _ k)))))) ?_
      have f11 := (fj2_0.other W10 (Or.inl na))
      obtain ⟨T12, X12, e12, st12⟩ := getF X10 hx hZ hown (host := "") (Or.inl (own_w30 hw)) Via.refl e10 f11 (g := (mkF m 180 #[.val (.ref a1), .val (.int 2), .val (.long rm), .second, .val (.int ft), .val (.long sp), .second, .val (.int fl), .val (.int 1), s9, s10] [(.ref a1)])) rfl rfl (hb hby d6_180)
      refine Goes.step (B := T12.setTop (mkF m 183 #[.val (.ref a1), .val (.int 2), .val (.long rm), .second, .val (.int ft), .val (.long sp), .second, .val (.int fl), .val (.int 1), s9, s10] [(.ref pbA)])) st12 ?_
      refine Goes.step (fun _ k => pw_aloadN X12.here hx (hb hby d6_183) rfl rfl _ k) ?_
      have f13 := (fj2_1.other W10 (Or.inl na))
      obtain ⟨T14, X14, e14, st14⟩ := getF X12 hx hZ hown (host := "") (Or.inl (own_w32 hw)) Via.refl e12 f13 (g := (mkF m 184 #[.val (.ref a1), .val (.int 2), .val (.long rm), .second, .val (.int ft), .val (.long sp), .second, .val (.int fl), .val (.int 1), s9, s10] [(.ref a1), (.ref pbA)])) rfl rfl (hb hby d6_184)
      refine Goes.step (B := T14.setTop (mkF m 187 #[.val (.ref a1), .val (.int 2), .val (.long rm), .second, .val (.int ft), .val (.long sp), .second, .val (.int fl), .val (.int 1), s9, s10] [(.ref plA), (.ref pbA)])) st14 ?_
      refine Goes.step (fun _ k => pw_iload X14.here hx (hb hby d6_187) rfl _ k) ?_
      have f15 := (fj2_5.other W10 npl)
      obtain ⟨c16, Ar16, -, Sz16, Nn16, Hs16, -⟩ := id f15
      have hin16 : ¬ ((1 : Int32) < 0 ∨ c16.slots.size ≤ ((1 : Int32)).toNatClampNeg) := inb_of Sz16 ⟨by decide, by decide⟩
      refine Goes.step (B := T14.setTop (mkF m 190 #[.val (.ref a1), .val (.int 2), .val (.long rm), .second, .val (.int ft), .val (.long sp), .second, .val (.int fl), .val (.int 1), s9, s10] [(.int x1), (.ref pbA)])) (X14.iaload hx (j := (1 : Int32)) (v := (.int x1)) (by rw [e14]; exact Ar16.1) (State.isArrayOf_alike hZ.alike Ar16.2.1) Ar16.2.2 hin16 (Has.at Hs16 hin16 rfl) (g := (mkF m 189 #[.val (.ref a1), .val (.int 2), .val (.long rm), .second, .val (.int ft), .val (.long sp), .second, .val (.int fl), .val (.int 1), s9, s10] [(.int 1), (.ref plA), (.ref pbA)])) rfl rfl (hb hby d6_189)) ?_
      refine Goes.step (fun _ k => pw_iconst X14.here hx (v := (0 : Int32)) (hb hby d6_190) rfl _ k) ?_
      obtain ⟨c17, Ar17, q17, Sz17, Nn17, Hs17, Gs17⟩ := id V10
      have hin17 : ¬ (x1 < 0 ∨ c17.slots.size ≤ (x1).toNatClampNeg) := inb_of Sz17 (own_gin (hx1 (by decide)))
      obtain ⟨T17, h17, X17, e17, W17, st17⟩ := stZ X14 hx hZ e14 Ar17 (j := x1) hin17 (g := (mkF m 191 #[.val (.ref a1), .val (.int 2), .val (.long rm), .second, .val (.int ft), .val (.long sp), .second, .val (.int fl), .val (.int 1), s9, s10] [(.int 0), (.int x1), (.ref pbA)])) rfl rfl (hb hby d6_191)
      have V17 : Arv Z h17 pbA kb .boolean (3 : Int32) (((pl.set x0.toNatClampNeg 0).map Value.int).set (x1).toNatClampNeg (.int 0)) (.int 0) := Arv.set Ar17 q17 Sz17 Nn17 Hs17 Gs17 (by decide) W17 _ rfl (by have q := own_nat (hx1 (by decide)).1; have q2 := (hx1 (by decide)).2; rw [List.length_map]; (try simp only [List.length_set]); rw [hpl.1]; omega)
      rw [own_setI] at V17
      have N17 := Fr.snoc X17 N10 gp
      have O_17 := O_10.wr W17 gp
      have K_17 := K_10.wr W17 (Or.inl (List.mem_of_getElem? (i := 0) rfl))
      refine Goes.step (B := T17.setTop (mkF m 192 #[.val (.ref a1), .val (.int 2), .val (.long rm), .second, .val (.int ft), .val (.long sp), .second, .val (.int fl), .val (.int 1), s9, s10] [])) st17 ?_
      refine Goes.step (fun _ k => pw_iinc X17.here hx (l' := #[.val (.ref a1), .val (.int 2), .val (.long rm), .second, .val (.int ft), .val (.long sp), .second, .val (.int fl), .val (.int 2), s9, s10]) (hb hby d6_192) rfl rfl _ (pw_goto X17.here hx (pc' := 173) (hb hby d6_195) (by decide) (by decide) _ (pw_iload X17.here hx (hb hby d6_173) rfl _ (pw_iloadN X17.here hx (hb hby d6_175) rfl _ (pw_icmpYes X17.here hx (pc' := 198) (hb hby d6_176) (flt (by decide)).2.1 (by decide) (by decide) _ (pw_iload X17.here hx (hb hby d6_198) rfl _ k)))))) ?_
      exact Goes.retI X17 hx e17 Bd.returns hlk (hb hby d6_200) (by decide) (by decide) (⟨ft, rfl, N17, K_17, fa, hW⟩)
    · refine Goes.step (fun _ k => pw_iload Xj2.here hx (hb hby d6_173) rfl _ (pw_iloadN Xj2.here hx (hb hby d6_175) rfl _ (pw_icmpNo Xj2.here hx (hb hby d6_176) (tlt (by decide)).2.1 _ (pw_aloadN Xj2.here hx (hb hby d6_179) rfl rfl _ k)))) ?_
      obtain ⟨T18, X18, e18, st18⟩ := getF Xj2 hx hZ hown (host := "") (Or.inl (own_w30 hw)) Via.refl ej2 fj2_0 (g := (mkF m 180 #[.val (.ref a1), .val (.int 3), .val (.long rm), .second, .val (.int ft), .val (.long sp), .second, .val (.int fl), .val (.int 0), s9, s10] [(.ref a1)])) rfl rfl (hb hby d6_180)
      refine Goes.step (B := T18.setTop (mkF m 183 #[.val (.ref a1), .val (.int 3), .val (.long rm), .second, .val (.int ft), .val (.long sp), .second, .val (.int fl), .val (.int 0), s9, s10] [(.ref pbA)])) st18 ?_
      refine Goes.step (fun _ k => pw_aloadN X18.here hx (hb hby d6_183) rfl rfl _ k) ?_
      obtain ⟨T19, X19, e19, st19⟩ := getF X18 hx hZ hown (host := "") (Or.inl (own_w32 hw)) Via.refl e18 fj2_1 (g := (mkF m 184 #[.val (.ref a1), .val (.int 3), .val (.long rm), .second, .val (.int ft), .val (.long sp), .second, .val (.int fl), .val (.int 0), s9, s10] [(.ref a1), (.ref pbA)])) rfl rfl (hb hby d6_184)
      refine Goes.step (B := T19.setTop (mkF m 187 #[.val (.ref a1), .val (.int 3), .val (.long rm), .second, .val (.int ft), .val (.long sp), .second, .val (.int fl), .val (.int 0), s9, s10] [(.ref plA), (.ref pbA)])) st19 ?_
      refine Goes.step (fun _ k => pw_iload X19.here hx (hb hby d6_187) rfl _ k) ?_
      obtain ⟨c20, Ar20, -, Sz20, Nn20, Hs20, -⟩ := id fj2_5
      have hin20 : ¬ ((0 : Int32) < 0 ∨ c20.slots.size ≤ ((0 : Int32)).toNatClampNeg) := inb_of Sz20 ⟨by decide, by decide⟩
      refine Goes.step (B := T19.setTop (mkF m 190 #[.val (.ref a1), .val (.int 3), .val (.long rm), .second, .val (.int ft), .val (.long sp), .second, .val (.int fl), .val (.int 0), s9, s10] [(.int x0), (.ref pbA)])) (X19.iaload hx (j := (0 : Int32)) (v := (.int x0)) (by rw [e19]; exact Ar20.1) (State.isArrayOf_alike hZ.alike Ar20.2.1) Ar20.2.2 hin20 (Has.at Hs20 hin20 rfl) (g := (mkF m 189 #[.val (.ref a1), .val (.int 3), .val (.long rm), .second, .val (.int ft), .val (.long sp), .second, .val (.int fl), .val (.int 0), s9, s10] [(.int 0), (.ref plA), (.ref pbA)])) rfl rfl (hb hby d6_189)) ?_
      refine Goes.step (fun _ k => pw_iconst X19.here hx (v := (0 : Int32)) (hb hby d6_190) rfl _ k) ?_
      obtain ⟨c21, Ar21, q21, Sz21, Nn21, Hs21, Gs21⟩ := id fj2_6
      have hin21 : ¬ (x0 < 0 ∨ c21.slots.size ≤ (x0).toNatClampNeg) := inb_of Sz21 (own_gin (hx0 (by decide)))
      obtain ⟨T21, h21, X21, e21, W21, st21⟩ := stZ X19 hx hZ e19 Ar21 (j := x0) hin21 (g := (mkF m 191 #[.val (.ref a1), .val (.int 3), .val (.long rm), .second, .val (.int ft), .val (.long sp), .second, .val (.int fl), .val (.int 0), s9, s10] [(.int 0), (.int x0), (.ref pbA)])) rfl rfl (hb hby d6_191)
      have V21 : Arv Z h21 pbA kb .boolean (3 : Int32) ((pl.map Value.int).set (x0).toNatClampNeg (.int 0)) (.int 0) := Arv.set Ar21 q21 Sz21 Nn21 Hs21 Gs21 (by decide) W21 _ rfl (by have q := own_nat (hx0 (by decide)).1; have q2 := (hx0 (by decide)).2; rw [List.length_map]; (try simp only [List.length_set]); rw [hpl.1]; omega)
      rw [own_setI] at V21
      have N21 := Fr.snoc X21 Nj2 gp
      have O_21 := Oj2.wr W21 gp
      have K_21 := Kj2.wr W21 (Or.inl (List.mem_of_getElem? (i := 0) rfl))
      refine Goes.step (B := T21.setTop (mkF m 192 #[.val (.ref a1), .val (.int 3), .val (.long rm), .second, .val (.int ft), .val (.long sp), .second, .val (.int fl), .val (.int 0), s9, s10] [])) st21 ?_
      refine Goes.step (fun _ k => pw_iinc X21.here hx (l' := #[.val (.ref a1), .val (.int 3), .val (.long rm), .second, .val (.int ft), .val (.long sp), .second, .val (.int fl), .val (.int 1), s9, s10]) (hb hby d6_192) rfl rfl _ (pw_goto X21.here hx (pc' := 173) (hb hby d6_195) (by decide) (by decide) _ (pw_iload X21.here hx (hb hby d6_173) rfl _ (pw_iloadN X21.here hx (hb hby d6_175) rfl _ (pw_icmpNo X21.here hx (hb hby d6_176) (tlt (by decide)).2.1 _ (pw_aloadN X21.here hx (hb hby d6_179) rfl rfl _ k)))))) ?_
      have f22 := (fj2_0.other W21 (Or.inl na))
      obtain ⟨T23, X23, e23, st23⟩ := getF X21 hx hZ hown (host := "") (Or.inl (own_w30 hw)) Via.refl e21 f22 (g := (mkF m 180 #[.val (.ref a1), .val (.int 3), .val (.long rm), .second, .val (.int ft), .val (.long sp), .second, .val (.int fl), .val (.int 1), s9, s10] [(.ref a1)])) rfl rfl (hb hby d6_180)
      refine Goes.step (B := T23.setTop (mkF m 183 #[.val (.ref a1), .val (.int 3), .val (.long rm), .second, .val (.int ft), .val (.long sp), .second, .val (.int fl), .val (.int 1), s9, s10] [(.ref pbA)])) st23 ?_
      refine Goes.step (fun _ k => pw_aloadN X23.here hx (hb hby d6_183) rfl rfl _ k) ?_
      have f24 := (fj2_1.other W21 (Or.inl na))
      obtain ⟨T25, X25, e25, st25⟩ := getF X23 hx hZ hown (host := "") (Or.inl (own_w32 hw)) Via.refl e23 f24 (g := (mkF m 184 #[.val (.ref a1), .val (.int 3), .val (.long rm), .second, .val (.int ft), .val (.long sp), .second, .val (.int fl), .val (.int 1), s9, s10] [(.ref a1), (.ref pbA)])) rfl rfl (hb hby d6_184)
      refine Goes.step (B := T25.setTop (mkF m 187 #[.val (.ref a1), .val (.int 3), .val (.long rm), .second, .val (.int ft), .val (.long sp), .second, .val (.int fl), .val (.int 1), s9, s10] [(.ref plA), (.ref pbA)])) st25 ?_
      refine Goes.step (fun _ k => pw_iload X25.here hx (hb hby d6_187) rfl _ k) ?_
      have f26 := (fj2_5.other W21 npl)
      obtain ⟨c27, Ar27, -, Sz27, Nn27, Hs27, -⟩ := id f26
      have hin27 : ¬ ((1 : Int32) < 0 ∨ c27.slots.size ≤ ((1 : Int32)).toNatClampNeg) := inb_of Sz27 ⟨by decide, by decide⟩
      refine Goes.step (B := T25.setTop (mkF m 190 #[.val (.ref a1), .val (.int 3), .val (.long rm), .second, .val (.int ft), .val (.long sp), .second, .val (.int fl), .val (.int 1), s9, s10] [(.int x1), (.ref pbA)])) (X25.iaload hx (j := (1 : Int32)) (v := (.int x1)) (by rw [e25]; exact Ar27.1) (State.isArrayOf_alike hZ.alike Ar27.2.1) Ar27.2.2 hin27 (Has.at Hs27 hin27 rfl) (g := (mkF m 189 #[.val (.ref a1), .val (.int 3), .val (.long rm), .second, .val (.int ft), .val (.long sp), .second, .val (.int fl), .val (.int 1), s9, s10] [(.int 1), (.ref plA), (.ref pbA)])) rfl rfl (hb hby d6_189)) ?_
      refine Goes.step (fun _ k => pw_iconst X25.here hx (v := (0 : Int32)) (hb hby d6_190) rfl _ k) ?_
      obtain ⟨c28, Ar28, q28, Sz28, Nn28, Hs28, Gs28⟩ := id V21
      have hin28 : ¬ (x1 < 0 ∨ c28.slots.size ≤ (x1).toNatClampNeg) := inb_of Sz28 (own_gin (hx1 (by decide)))
      obtain ⟨T28, h28, X28, e28, W28, st28⟩ := stZ X25 hx hZ e25 Ar28 (j := x1) hin28 (g := (mkF m 191 #[.val (.ref a1), .val (.int 3), .val (.long rm), .second, .val (.int ft), .val (.long sp), .second, .val (.int fl), .val (.int 1), s9, s10] [(.int 0), (.int x1), (.ref pbA)])) rfl rfl (hb hby d6_191)
      have V28 : Arv Z h28 pbA kb .boolean (3 : Int32) (((pl.set x0.toNatClampNeg 0).map Value.int).set (x1).toNatClampNeg (.int 0)) (.int 0) := Arv.set Ar28 q28 Sz28 Nn28 Hs28 Gs28 (by decide) W28 _ rfl (by have q := own_nat (hx1 (by decide)).1; have q2 := (hx1 (by decide)).2; rw [List.length_map]; (try simp only [List.length_set]); rw [hpl.1]; omega)
      rw [own_setI] at V28
      have N28 := Fr.snoc X28 N21 gp
      have O_28 := O_21.wr W28 gp
      have K_28 := K_21.wr W28 (Or.inl (List.mem_of_getElem? (i := 0) rfl))
      refine Goes.step (B := T28.setTop (mkF m 192 #[.val (.ref a1), .val (.int 3), .val (.long rm), .second, .val (.int ft), .val (.long sp), .second, .val (.int fl), .val (.int 1), s9, s10] [])) st28 ?_
      refine Goes.step (fun _ k => pw_iinc X28.here hx (l' := #[.val (.ref a1), .val (.int 3), .val (.long rm), .second, .val (.int ft), .val (.long sp), .second, .val (.int fl), .val (.int 2), s9, s10]) (hb hby d6_192) rfl rfl _ (pw_goto X28.here hx (pc' := 173) (hb hby d6_195) (by decide) (by decide) _ (pw_iload X28.here hx (hb hby d6_173) rfl _ (pw_iloadN X28.here hx (hb hby d6_175) rfl _ (pw_icmpNo X28.here hx (hb hby d6_176) (tlt (by decide)).2.1 _ (pw_aloadN X28.here hx (hb hby d6_179) rfl rfl _ k)))))) ?_
      have f29 := (f22.other W28 (Or.inl na))
      obtain ⟨T30, X30, e30, st30⟩ := getF X28 hx hZ hown (host := "") (Or.inl (own_w30 hw)) Via.refl e28 f29 (g := (mkF m 180 #[.val (.ref a1), .val (.int 3), .val (.long rm), .second, .val (.int ft), .val (.long sp), .second, .val (.int fl), .val (.int 2), s9, s10] [(.ref a1)])) rfl rfl (hb hby d6_180)
      refine Goes.step (B := T30.setTop (mkF m 183 #[.val (.ref a1), .val (.int 3), .val (.long rm), .second, .val (.int ft), .val (.long sp), .second, .val (.int fl), .val (.int 2), s9, s10] [(.ref pbA)])) st30 ?_
      refine Goes.step (fun _ k => pw_aloadN X30.here hx (hb hby d6_183) rfl rfl _ k) ?_
      have f31 := (f24.other W28 (Or.inl na))
      obtain ⟨T32, X32, e32, st32⟩ := getF X30 hx hZ hown (host := "") (Or.inl (own_w32 hw)) Via.refl e30 f31 (g := (mkF m 184 #[.val (.ref a1), .val (.int 3), .val (.long rm), .second, .val (.int ft), .val (.long sp), .second, .val (.int fl), .val (.int 2), s9, s10] [(.ref a1), (.ref pbA)])) rfl rfl (hb hby d6_184)
      refine Goes.step (B := T32.setTop (mkF m 187 #[.val (.ref a1), .val (.int 3), .val (.long rm), .second, .val (.int ft), .val (.long sp), .second, .val (.int fl), .val (.int 2), s9, s10] [(.ref plA), (.ref pbA)])) st32 ?_
      refine Goes.step (fun _ k => pw_iload X32.here hx (hb hby d6_187) rfl _ k) ?_
      have f33 := (f26.other W28 npl)
      obtain ⟨c34, Ar34, -, Sz34, Nn34, Hs34, -⟩ := id f33
      have hin34 : ¬ ((2 : Int32) < 0 ∨ c34.slots.size ≤ ((2 : Int32)).toNatClampNeg) := inb_of Sz34 ⟨by decide, by decide⟩
      refine Goes.step (B := T32.setTop (mkF m 190 #[.val (.ref a1), .val (.int 3), .val (.long rm), .second, .val (.int ft), .val (.long sp), .second, .val (.int fl), .val (.int 2), s9, s10] [(.int x2), (.ref pbA)])) (X32.iaload hx (j := (2 : Int32)) (v := (.int x2)) (by rw [e32]; exact Ar34.1) (State.isArrayOf_alike hZ.alike Ar34.2.1) Ar34.2.2 hin34 (Has.at Hs34 hin34 rfl) (g := (mkF m 189 #[.val (.ref a1), .val (.int 3), .val (.long rm), .second, .val (.int ft), .val (.long sp), .second, .val (.int fl), .val (.int 2), s9, s10] [(.int 2), (.ref plA), (.ref pbA)])) rfl rfl (hb hby d6_189)) ?_
      refine Goes.step (fun _ k => pw_iconst X32.here hx (v := (0 : Int32)) (hb hby d6_190) rfl _ k) ?_
      obtain ⟨c35, Ar35, q35, Sz35, Nn35, Hs35, Gs35⟩ := id V28
      have hin35 : ¬ (x2 < 0 ∨ c35.slots.size ≤ (x2).toNatClampNeg) := inb_of Sz35 (own_gin (hx2 (by decide)))
      obtain ⟨T35, h35, X35, e35, W35, st35⟩ := stZ X32 hx hZ e32 Ar35 (j := x2) hin35 (g := (mkF m 191 #[.val (.ref a1), .val (.int 3), .val (.long rm), .second, .val (.int ft), .val (.long sp), .second, .val (.int fl), .val (.int 2), s9, s10] [(.int 0), (.int x2), (.ref pbA)])) rfl rfl (hb hby d6_191)
      have V35 : Arv Z h35 pbA kb .boolean (3 : Int32) ((((pl.set x0.toNatClampNeg 0).set x1.toNatClampNeg 0).map Value.int).set (x2).toNatClampNeg (.int 0)) (.int 0) := Arv.set Ar35 q35 Sz35 Nn35 Hs35 Gs35 (by decide) W35 _ rfl (by have q := own_nat (hx2 (by decide)).1; have q2 := (hx2 (by decide)).2; rw [List.length_map]; (try simp only [List.length_set]); rw [hpl.1]; omega)
      rw [own_setI] at V35
      have N35 := Fr.snoc X35 N28 gp
      have O_35 := O_28.wr W35 gp
      have K_35 := K_28.wr W35 (Or.inl (List.mem_of_getElem? (i := 0) rfl))
      refine Goes.step (B := T35.setTop (mkF m 192 #[.val (.ref a1), .val (.int 3), .val (.long rm), .second, .val (.int ft), .val (.long sp), .second, .val (.int fl), .val (.int 2), s9, s10] [])) st35 ?_
      refine Goes.step (fun _ k => pw_iinc X35.here hx (l' := #[.val (.ref a1), .val (.int 3), .val (.long rm), .second, .val (.int ft), .val (.long sp), .second, .val (.int fl), .val (.int 3), s9, s10]) (hb hby d6_192) rfl rfl _ (pw_goto X35.here hx (pc' := 173) (hb hby d6_195) (by decide) (by decide) _ (pw_iload X35.here hx (hb hby d6_173) rfl _ (pw_iloadN X35.here hx (hb hby d6_175) rfl _ (pw_icmpYes X35.here hx (pc' := 198) (hb hby d6_176) (flt (by decide)).2.1 (by decide) (by decide) _ (pw_iload X35.here hx (hb hby d6_198) rfl _ k)))))) ?_
      exact Goes.retI X35 hx e35 Bd.returns hlk (hb hby d6_200) (by decide) (by decide) (⟨ft, rfl, N35, K_35, fa, hW⟩)
   refine Goes.step (fun _ k => pw_iload Xj1.here hx (hb hby d6_40) rfl _ (pw_aloadN Xj1.here hx (hb hby d6_42) rfl rfl _ k)) ?_
   obtain ⟨T36, X36, e36, st36⟩ := getF Xj1 hx hZ hown (host := "") (Or.inl (own_w27 hw)) Via.refl ej1 fj1_2 (g := (mkF m 43 #[.val (.ref a1), .val (.int n), .val (.long rm), .second, .val (.int 0), .val (.long 0), .second, .val (.int 0), .val (.int 0), .unset, .unset] [(.ref a1), (.int 0)])) rfl rfl (hb hby d6_43)
   refine Goes.step (B := T36.setTop (mkF m 46 #[.val (.ref a1), .val (.int n), .val (.long rm), .second, .val (.int 0), .val (.long 0), .second, .val (.int 0), .val (.int 0), .unset, .unset] [(.ref qA), (.int 0)])) st36 ?_
   obtain ⟨c37, Ar37, -, Sz37, Nn37, -, -⟩ := id fj1_7
   have len37 := X36.arraylength hx (by rw [e36]; exact Ar37.1) (State.isArrayOf_alike hZ.alike Ar37.2.1) (g := (mkF m 46 #[.val (.ref a1), .val (.int n), .val (.long rm), .second, .val (.int 0), .val (.long 0), .second, .val (.int 0), .val (.int 0), .unset, .unset] [(.ref qA), (.int 0)])) rfl rfl (hb hby d6_46)
   rw [len_of Sz37 Nn37] at len37
   refine Goes.step (B := T36.setTop (mkF m 47 #[.val (.ref a1), .val (.int n), .val (.long rm), .second, .val (.int 0), .val (.long 0), .second, .val (.int 0), .val (.int 0), .unset, .unset] [(.int 3), (.int 0)])) len37 ?_
   refine Goes.step (fun _ k => pw_icmpNo X36.here hx (hb hby d6_47) (tlt (by decide)).2.1 _ (pw_iload X36.here hx (hb hby d6_50) rfl _ (pw_ifNo X36.here hx (hb hby d6_52) ((if0 _ _).trans (teq (by decide)).2) _ (pw_aloadN X36.here hx (hb hby d6_55) rfl rfl _ k)))) ?_
   obtain ⟨T38, X38, e38, st38⟩ := getF X36 hx hZ hown (host := "") (Or.inl (own_w27 hw)) Via.refl e36 fj1_2 (g := (mkF m 56 #[.val (.ref a1), .val (.int n), .val (.long rm), .second, .val (.int 0), .val (.long 0), .second, .val (.int 0), .val (.int 0), .unset, .unset] [(.ref a1)])) rfl rfl (hb hby d6_56)
   refine Goes.step (B := T38.setTop (mkF m 59 #[.val (.ref a1), .val (.int n), .val (.long rm), .second, .val (.int 0), .val (.long 0), .second, .val (.int 0), .val (.int 0), .unset, .unset] [(.ref qA)])) st38 ?_
   refine Goes.step (fun _ k => pw_iload X38.here hx (hb hby d6_59) rfl _ k) ?_
   obtain ⟨c39, Ar39, -, Sz39, Nn39, Hs39, -⟩ := id fj1_7
   have hin39 : ¬ ((0 : Int32) < 0 ∨ c39.slots.size ≤ ((0 : Int32)).toNatClampNeg) := inb_of Sz39 ⟨by decide, by decide⟩
   refine Goes.step (B := T38.setTop (mkF m 62 #[.val (.ref a1), .val (.int n), .val (.long rm), .second, .val (.int 0), .val (.long 0), .second, .val (.int 0), .val (.int 0), .unset, .unset] [(.int bc0)])) (X38.iaload hx (j := (0 : Int32)) (v := (.int bc0)) (by rw [e38]; exact Ar39.1) (State.isArrayOf_alike hZ.alike Ar39.2.1) Ar39.2.2 hin39 (Has.at Hs39 hin39 rfl) (g := (mkF m 61 #[.val (.ref a1), .val (.int n), .val (.long rm), .second, .val (.int 0), .val (.long 0), .second, .val (.int 0), .val (.int 0), .unset, .unset] [(.int 0), (.ref qA)])) rfl rfl (hb hby d6_61)) ?_
   refine Goes.step (fun _ k => pw_istore X38.here hx (l' := #[.val (.ref a1), .val (.int n), .val (.long rm), .second, .val (.int 0), .val (.long 0), .second, .val (.int 0), .val (.int 0), .val (.int bc0), .unset]) (hb hby d6_62) rfl _ k) ?_
   have J40 : ∀ (Tj40 : State) (Hj40 : Heap) (lj40 : List Loc) (ft_0 : Int32) (sp_0 : Int64) (fl_0 : Int32) (s10_0 : Slot), Stand p l e ({ frames := 1, cells := 0, slots := 0, locals := 15 } : Room) s m #[(.ref a1), (.int n), (.long rm)] below meth c Tj40 lj40 0 0 → Tj40.heap = Hj40 → Old Z n0 Hj40 → Fr n0 lj40 → Keep h0 Hj40 [pbA] → Fld Z Hj40 a1 "com/example/errantry/errantry/staff/CompletionBounds" "pooled" "[Z" (.ref pbA) → Fld Z Hj40 a1 "com/example/errantry/errantry/staff/CompletionBounds" "pool" "[I" (.ref plA) → Fld Z Hj40 a1 "com/example/errantry/errantry/staff/CompletionBounds" "byCost" "[I" (.ref qA) → Fld Z Hj40 a1 "com/example/errantry/errantry/staff/CompletionBounds" "cost" "[J" (.ref cA) → Fld Z Hj40 a1 "com/example/errantry/errantry/staff/CompletionBounds" "members" "[I" (.ref mA) → Arv Z Hj40 plA kp .int (3 : Int32) [(.int x0), (.int x1), (.int x2)] (.int 0) → Arv Z Hj40 pbA kb .boolean (3 : Int32) (pl.map Value.int) (.int 0) → Arv Z Hj40 qA kq .int (3 : Int32) [(.int bc0), (.int bc1), (.int bc2)] (.int 0) → Arv Z Hj40 cA kC .long (3 : Int32) [(.long ct0), (.long ct1), (.long ct2)] (.long 0) → Arv Z Hj40 mA kM .int (3 : Int32) [(.int mb0), (.int mb1), (.int mb2)] (.int 0) → (0 ≤ ft_0.toInt ∧ ft_0.toInt ≤ own_ef pl [mb0, mb1, mb2] bc0 ∧ 0 ≤ sp_0.toInt ∧ sp_0.toInt ≤ rm.toInt ∧ (s10_0 = .unset ∨ ∃ t, s10_0 = .val (.int t))) → Goes p e below s (QMF Z a1 plA kp pbA kb qA kq cA kC mA kM ct0 ct1 ct2 mb0 mb1 mb2 bc0 bc1 bc2 x0 x1 x2 n rm h0 n0) ({ frames := 1, cells := 0, slots := 0, locals := 15 } : Room).cells ({ frames := 1, cells := 0, slots := 0, locals := 15 } : Room).slots (Tj40.setTop (mkF m 164 #[.val (.ref a1), .val (.int n), .val (.long rm), .second, .val (.int ft_0), .val (.long sp_0), .second, .val (.int fl_0), .val (.int 0), .val (.int bc0), s10_0] [])) := by
    intro Tj40 Hj40 lj40 ft_0 sp_0 fl_0 s10_0 Xj40 ej40 Oj40 Nj40 Kj40 fj40_0 fj40_1 fj40_2 fj40_3 fj40_4 fj40_5 fj40_6 fj40_7 fj40_8 fj40_9 hJ40
    refine Goes.step (fun _ k => pw_iinc Xj40.here hx (l' := #[.val (.ref a1), .val (.int n), .val (.long rm), .second, .val (.int ft_0), .val (.long sp_0), .second, .val (.int fl_0), .val (.int 1), .val (.int bc0), s10_0]) (hb hby d6_164) rfl rfl _ (pw_goto Xj40.here hx (pc' := 40) (hb hby d6_167) (by decide) (by decide) _ (pw_iload Xj40.here hx (hb hby d6_40) rfl _ (pw_aloadN Xj40.here hx (hb hby d6_42) rfl rfl _ k)))) ?_
    obtain ⟨T41, X41, e41, st41⟩ := getF Xj40 hx hZ hown (host := "") (Or.inl (own_w27 hw)) Via.refl ej40 fj40_2 (g := (mkF m 43 #[.val (.ref a1), .val (.int n), .val (.long rm), .second, .val (.int ft_0), .val (.long sp_0), .second, .val (.int fl_0), .val (.int 1), .val (.int bc0), s10_0] [(.ref a1), (.int 1)])) rfl rfl (hb hby d6_43)
    refine Goes.step (B := T41.setTop (mkF m 46 #[.val (.ref a1), .val (.int n), .val (.long rm), .second, .val (.int ft_0), .val (.long sp_0), .second, .val (.int fl_0), .val (.int 1), .val (.int bc0), s10_0] [(.ref qA), (.int 1)])) st41 ?_
    obtain ⟨c42, Ar42, -, Sz42, Nn42, -, -⟩ := id fj40_7
    have len42 := X41.arraylength hx (by rw [e41]; exact Ar42.1) (State.isArrayOf_alike hZ.alike Ar42.2.1) (g := (mkF m 46 #[.val (.ref a1), .val (.int n), .val (.long rm), .second, .val (.int ft_0), .val (.long sp_0), .second, .val (.int fl_0), .val (.int 1), .val (.int bc0), s10_0] [(.ref qA), (.int 1)])) rfl rfl (hb hby d6_46)
    rw [len_of Sz42 Nn42] at len42
    refine Goes.step (B := T41.setTop (mkF m 47 #[.val (.ref a1), .val (.int n), .val (.long rm), .second, .val (.int ft_0), .val (.long sp_0), .second, .val (.int fl_0), .val (.int 1), .val (.int bc0), s10_0] [(.int 3), (.int 1)])) len42 ?_
    refine Goes.step (fun _ k => pw_icmpNo X41.here hx (hb hby d6_47) (tlt (by decide)).2.1 _ (pw_iload X41.here hx (hb hby d6_50) rfl _ k)) ?_
    by_cases hc52_42 : fl_0 = (0 : Int32)
    · refine Goes.step (fun _ k => pw_ifNo X41.here hx (hb hby d6_52) ((if0 _ _).trans (teq hc52_42).2) _ (pw_aloadN X41.here hx (hb hby d6_55) rfl rfl _ k)) ?_
      obtain ⟨T44, X44, e44, st44⟩ := getF X41 hx hZ hown (host := "") (Or.inl (own_w27 hw)) Via.refl e41 fj40_2 (g := (mkF m 56 #[.val (.ref a1), .val (.int n), .val (.long rm), .second, .val (.int ft_0), .val (.long sp_0), .second, .val (.int fl_0), .val (.int 1), .val (.int bc0), s10_0] [(.ref a1)])) rfl rfl (hb hby d6_56)
      refine Goes.step (B := T44.setTop (mkF m 59 #[.val (.ref a1), .val (.int n), .val (.long rm), .second, .val (.int ft_0), .val (.long sp_0), .second, .val (.int fl_0), .val (.int 1), .val (.int bc0), s10_0] [(.ref qA)])) st44 ?_
      refine Goes.step (fun _ k => pw_iload X44.here hx (hb hby d6_59) rfl _ k) ?_
      obtain ⟨c45, Ar45, -, Sz45, Nn45, Hs45, -⟩ := id fj40_7
      have hin45 : ¬ ((1 : Int32) < 0 ∨ c45.slots.size ≤ ((1 : Int32)).toNatClampNeg) := inb_of Sz45 ⟨by decide, by decide⟩
      refine Goes.step (B := T44.setTop (mkF m 62 #[.val (.ref a1), .val (.int n), .val (.long rm), .second, .val (.int ft_0), .val (.long sp_0), .second, .val (.int fl_0), .val (.int 1), .val (.int bc0), s10_0] [(.int bc1)])) (X44.iaload hx (j := (1 : Int32)) (v := (.int bc1)) (by rw [e44]; exact Ar45.1) (State.isArrayOf_alike hZ.alike Ar45.2.1) Ar45.2.2 hin45 (Has.at Hs45 hin45 rfl) (g := (mkF m 61 #[.val (.ref a1), .val (.int n), .val (.long rm), .second, .val (.int ft_0), .val (.long sp_0), .second, .val (.int fl_0), .val (.int 1), .val (.int bc0), s10_0] [(.int 1), (.ref qA)])) rfl rfl (hb hby d6_61)) ?_
      refine Goes.step (fun _ k => pw_istore X44.here hx (l' := #[.val (.ref a1), .val (.int n), .val (.long rm), .second, .val (.int ft_0), .val (.long sp_0), .second, .val (.int fl_0), .val (.int 1), .val (.int bc1), s10_0]) (hb hby d6_62) rfl _ k) ?_
      have J46 : ∀ (Tj46 : State) (Hj46 : Heap) (lj46 : List Loc) (ft_1 : Int32) (sp_1 : Int64) (fl_1 : Int32) (s10_1 : Slot), Stand p l e ({ frames := 1, cells := 0, slots := 0, locals := 15 } : Room) s m #[(.ref a1), (.int n), (.long rm)] below meth c Tj46 lj46 0 0 → Tj46.heap = Hj46 → Old Z n0 Hj46 → Fr n0 lj46 → Keep h0 Hj46 [pbA] → Fld Z Hj46 a1 "com/example/errantry/errantry/staff/CompletionBounds" "pooled" "[Z" (.ref pbA) → Fld Z Hj46 a1 "com/example/errantry/errantry/staff/CompletionBounds" "pool" "[I" (.ref plA) → Fld Z Hj46 a1 "com/example/errantry/errantry/staff/CompletionBounds" "byCost" "[I" (.ref qA) → Fld Z Hj46 a1 "com/example/errantry/errantry/staff/CompletionBounds" "cost" "[J" (.ref cA) → Fld Z Hj46 a1 "com/example/errantry/errantry/staff/CompletionBounds" "members" "[I" (.ref mA) → Arv Z Hj46 plA kp .int (3 : Int32) [(.int x0), (.int x1), (.int x2)] (.int 0) → Arv Z Hj46 pbA kb .boolean (3 : Int32) (pl.map Value.int) (.int 0) → Arv Z Hj46 qA kq .int (3 : Int32) [(.int bc0), (.int bc1), (.int bc2)] (.int 0) → Arv Z Hj46 cA kC .long (3 : Int32) [(.long ct0), (.long ct1), (.long ct2)] (.long 0) → Arv Z Hj46 mA kM .int (3 : Int32) [(.int mb0), (.int mb1), (.int mb2)] (.int 0) → (0 ≤ ft_1.toInt ∧ ft_1.toInt ≤ own_ef pl [mb0, mb1, mb2] bc0 + own_ef pl [mb0, mb1, mb2] bc1 ∧ 0 ≤ sp_1.toInt ∧ sp_1.toInt ≤ rm.toInt ∧ (s10_1 = .unset ∨ ∃ t, s10_1 = .val (.int t))) → Goes p e below s (QMF Z a1 plA kp pbA kb qA kq cA kC mA kM ct0 ct1 ct2 mb0 mb1 mb2 bc0 bc1 bc2 x0 x1 x2 n rm h0 n0) ({ frames := 1, cells := 0, slots := 0, locals := 15 } : Room).cells ({ frames := 1, cells := 0, slots := 0, locals := 15 } : Room).slots (Tj46.setTop (mkF m 164 #[.val (.ref a1), .val (.int n), .val (.long rm), .second, .val (.int ft_1), .val (.long sp_1), .second, .val (.int fl_1), .val (.int 1), .val (.int bc1), s10_1] [])) := by
       intro Tj46 Hj46 lj46 ft_1 sp_1 fl_1 s10_1 Xj46 ej46 Oj46 Nj46 Kj46 fj46_0 fj46_1 fj46_2 fj46_3 fj46_4 fj46_5 fj46_6 fj46_7 fj46_8 fj46_9 hJ46
       refine Goes.step (fun _ k => pw_iinc Xj46.here hx (l' := #[.val (.ref a1), .val (.int n), .val (.long rm), .second, .val (.int ft_1), .val (.long sp_1), .second, .val (.int fl_1), .val (.int 2), .val (.int bc1), s10_1]) (hb hby d6_164) rfl rfl _ (pw_goto Xj46.here hx (pc' := 40) (hb hby d6_167) (by decide) (by decide) _ (pw_iload Xj46.here hx (hb hby d6_40) rfl _ (pw_aloadN Xj46.here hx (hb hby d6_42) rfl rfl _ k)))) ?_
       obtain ⟨T47, X47, e47, st47⟩ := getF Xj46 hx hZ hown (host := "") (Or.inl (own_w27 hw)) Via.refl ej46 fj46_2 (g := (mkF m 43 #[.val (.ref a1), .val (.int n), .val (.long rm), .second, .val (.int ft_1), .val (.long sp_1), .second, .val (.int fl_1), .val (.int 2), .val (.int bc1), s10_1] [(.ref a1), (.int 2)])) rfl rfl (hb hby d6_43)
       refine Goes.step (B := T47.setTop (mkF m 46 #[.val (.ref a1), .val (.int n), .val (.long rm), .second, .val (.int ft_1), .val (.long sp_1), .second, .val (.int fl_1), .val (.int 2), .val (.int bc1), s10_1] [(.ref qA), (.int 2)])) st47 ?_
       obtain ⟨c48, Ar48, -, Sz48, Nn48, -, -⟩ := id fj46_7
       have len48 := X47.arraylength hx (by rw [e47]; exact Ar48.1) (State.isArrayOf_alike hZ.alike Ar48.2.1) (g := (mkF m 46 #[.val (.ref a1), .val (.int n), .val (.long rm), .second, .val (.int ft_1), .val (.long sp_1), .second, .val (.int fl_1), .val (.int 2), .val (.int bc1), s10_1] [(.ref qA), (.int 2)])) rfl rfl (hb hby d6_46)
       rw [len_of Sz48 Nn48] at len48
       refine Goes.step (B := T47.setTop (mkF m 47 #[.val (.ref a1), .val (.int n), .val (.long rm), .second, .val (.int ft_1), .val (.long sp_1), .second, .val (.int fl_1), .val (.int 2), .val (.int bc1), s10_1] [(.int 3), (.int 2)])) len48 ?_
       refine Goes.step (fun _ k => pw_icmpNo X47.here hx (hb hby d6_47) (tlt (by decide)).2.1 _ (pw_iload X47.here hx (hb hby d6_50) rfl _ k)) ?_
       by_cases hc52_48 : fl_1 = (0 : Int32)
       · refine Goes.step (fun _ k => pw_ifNo X47.here hx (hb hby d6_52) ((if0 _ _).trans (teq hc52_48).2) _ (pw_aloadN X47.here hx (hb hby d6_55) rfl rfl _ k)) ?_
         obtain ⟨T50, X50, e50, st50⟩ := getF X47 hx hZ hown (host := "") (Or.inl (own_w27 hw)) Via.refl e47 fj46_2 (g := (mkF m 56 #[.val (.ref a1), .val (.int n), .val (.long rm), .second, .val (.int ft_1), .val (.long sp_1), .second, .val (.int fl_1), .val (.int 2), .val (.int bc1), s10_1] [(.ref a1)])) rfl rfl (hb hby d6_56)
         refine Goes.step (B := T50.setTop (mkF m 59 #[.val (.ref a1), .val (.int n), .val (.long rm), .second, .val (.int ft_1), .val (.long sp_1), .second, .val (.int fl_1), .val (.int 2), .val (.int bc1), s10_1] [(.ref qA)])) st50 ?_
         refine Goes.step (fun _ k => pw_iload X50.here hx (hb hby d6_59) rfl _ k) ?_
         obtain ⟨c51, Ar51, -, Sz51, Nn51, Hs51, -⟩ := id fj46_7
         have hin51 : ¬ ((2 : Int32) < 0 ∨ c51.slots.size ≤ ((2 : Int32)).toNatClampNeg) := inb_of Sz51 ⟨by decide, by decide⟩
         refine Goes.step (B := T50.setTop (mkF m 62 #[.val (.ref a1), .val (.int n), .val (.long rm), .second, .val (.int ft_1), .val (.long sp_1), .second, .val (.int fl_1), .val (.int 2), .val (.int bc1), s10_1] [(.int bc2)])) (X50.iaload hx (j := (2 : Int32)) (v := (.int bc2)) (by rw [e50]; exact Ar51.1) (State.isArrayOf_alike hZ.alike Ar51.2.1) Ar51.2.2 hin51 (Has.at Hs51 hin51 rfl) (g := (mkF m 61 #[.val (.ref a1), .val (.int n), .val (.long rm), .second, .val (.int ft_1), .val (.long sp_1), .second, .val (.int fl_1), .val (.int 2), .val (.int bc1), s10_1] [(.int 2), (.ref qA)])) rfl rfl (hb hby d6_61)) ?_
         refine Goes.step (fun _ k => pw_istore X50.here hx (l' := #[.val (.ref a1), .val (.int n), .val (.long rm), .second, .val (.int ft_1), .val (.long sp_1), .second, .val (.int fl_1), .val (.int 2), .val (.int bc2), s10_1]) (hb hby d6_62) rfl _ k) ?_
         have J52 : ∀ (Tj52 : State) (Hj52 : Heap) (lj52 : List Loc) (ft_2 : Int32) (sp_2 : Int64) (fl_2 : Int32) (s10_2 : Slot), Stand p l e ({ frames := 1, cells := 0, slots := 0, locals := 15 } : Room) s m #[(.ref a1), (.int n), (.long rm)] below meth c Tj52 lj52 0 0 → Tj52.heap = Hj52 → Old Z n0 Hj52 → Fr n0 lj52 → Keep h0 Hj52 [pbA] → Fld Z Hj52 a1 "com/example/errantry/errantry/staff/CompletionBounds" "pooled" "[Z" (.ref pbA) → Fld Z Hj52 a1 "com/example/errantry/errantry/staff/CompletionBounds" "pool" "[I" (.ref plA) → Fld Z Hj52 a1 "com/example/errantry/errantry/staff/CompletionBounds" "byCost" "[I" (.ref qA) → Fld Z Hj52 a1 "com/example/errantry/errantry/staff/CompletionBounds" "cost" "[J" (.ref cA) → Fld Z Hj52 a1 "com/example/errantry/errantry/staff/CompletionBounds" "members" "[I" (.ref mA) → Arv Z Hj52 plA kp .int (3 : Int32) [(.int x0), (.int x1), (.int x2)] (.int 0) → Arv Z Hj52 pbA kb .boolean (3 : Int32) (pl.map Value.int) (.int 0) → Arv Z Hj52 qA kq .int (3 : Int32) [(.int bc0), (.int bc1), (.int bc2)] (.int 0) → Arv Z Hj52 cA kC .long (3 : Int32) [(.long ct0), (.long ct1), (.long ct2)] (.long 0) → Arv Z Hj52 mA kM .int (3 : Int32) [(.int mb0), (.int mb1), (.int mb2)] (.int 0) → (0 ≤ ft_2.toInt ∧ ft_2.toInt ≤ own_ef pl [mb0, mb1, mb2] bc0 + own_ef pl [mb0, mb1, mb2] bc1 + own_ef pl [mb0, mb1, mb2] bc2 ∧ 0 ≤ sp_2.toInt ∧ sp_2.toInt ≤ rm.toInt ∧ (s10_2 = .unset ∨ ∃ t, s10_2 = .val (.int t))) → Goes p e below s (QMF Z a1 plA kp pbA kb qA kq cA kC mA kM ct0 ct1 ct2 mb0 mb1 mb2 bc0 bc1 bc2 x0 x1 x2 n rm h0 n0) ({ frames := 1, cells := 0, slots := 0, locals := 15 } : Room).cells ({ frames := 1, cells := 0, slots := 0, locals := 15 } : Room).slots (Tj52.setTop (mkF m 164 #[.val (.ref a1), .val (.int n), .val (.long rm), .second, .val (.int ft_2), .val (.long sp_2), .second, .val (.int fl_2), .val (.int 2), .val (.int bc2), s10_2] [])) := by
          intro Tj52 Hj52 lj52 ft_2 sp_2 fl_2 s10_2 Xj52 ej52 Oj52 Nj52 Kj52 fj52_0 fj52_1 fj52_2 fj52_3 fj52_4 fj52_5 fj52_6 fj52_7 fj52_8 fj52_9 hJ52
          refine Goes.step (fun _ k => pw_iinc Xj52.here hx (l' := #[.val (.ref a1), .val (.int n), .val (.long rm), .second, .val (.int ft_2), .val (.long sp_2), .second, .val (.int fl_2), .val (.int 3), .val (.int bc2), s10_2]) (hb hby d6_164) rfl rfl _ (pw_goto Xj52.here hx (pc' := 40) (hb hby d6_167) (by decide) (by decide) _ (pw_iload Xj52.here hx (hb hby d6_40) rfl _ (pw_aloadN Xj52.here hx (hb hby d6_42) rfl rfl _ k)))) ?_
          obtain ⟨T53, X53, e53, st53⟩ := getF Xj52 hx hZ hown (host := "") (Or.inl (own_w27 hw)) Via.refl ej52 fj52_2 (g := (mkF m 43 #[.val (.ref a1), .val (.int n), .val (.long rm), .second, .val (.int ft_2), .val (.long sp_2), .second, .val (.int fl_2), .val (.int 3), .val (.int bc2), s10_2] [(.ref a1), (.int 3)])) rfl rfl (hb hby d6_43)
          refine Goes.step (B := T53.setTop (mkF m 46 #[.val (.ref a1), .val (.int n), .val (.long rm), .second, .val (.int ft_2), .val (.long sp_2), .second, .val (.int fl_2), .val (.int 3), .val (.int bc2), s10_2] [(.ref qA), (.int 3)])) st53 ?_
          obtain ⟨c54, Ar54, -, Sz54, Nn54, -, -⟩ := id fj52_7
          have len54 := X53.arraylength hx (by rw [e53]; exact Ar54.1) (State.isArrayOf_alike hZ.alike Ar54.2.1) (g := (mkF m 46 #[.val (.ref a1), .val (.int n), .val (.long rm), .second, .val (.int ft_2), .val (.long sp_2), .second, .val (.int fl_2), .val (.int 3), .val (.int bc2), s10_2] [(.ref qA), (.int 3)])) rfl rfl (hb hby d6_46)
          rw [len_of Sz54 Nn54] at len54
          refine Goes.step (B := T53.setTop (mkF m 47 #[.val (.ref a1), .val (.int n), .val (.long rm), .second, .val (.int ft_2), .val (.long sp_2), .second, .val (.int fl_2), .val (.int 3), .val (.int bc2), s10_2] [(.int 3), (.int 3)])) len54 ?_
          refine Goes.step (fun _ k => pw_icmpYes X53.here hx (pc' := 170) (hb hby d6_47) (flt (by decide)).2.1 (by decide) (by decide) _ k) ?_
          exact J2 _ _ _ ft_2 sp_2 fl_2 (3 : Int32) (.val (.int bc2)) s10_2 X53 e53 Oj52 Nj52 Kj52 fj52_0 fj52_1 fj52_2 fj52_3 fj52_4 fj52_5 fj52_6 fj52_7 fj52_8 fj52_9 ⟨hJ52.1, by have q := hJ52.2.1; omega⟩
         refine Goes.step (fun _ k => pw_aloadN X50.here hx (hb hby d6_64) rfl rfl _ k) ?_
         obtain ⟨T55, X55, e55, st55⟩ := getF X50 hx hZ hown (host := "") (Or.inl (own_w30 hw)) Via.refl e50 fj46_0 (g := (mkF m 65 #[.val (.ref a1), .val (.int n), .val (.long rm), .second, .val (.int ft_1), .val (.long sp_1), .second, .val (.int fl_1), .val (.int 2), .val (.int bc2), s10_1] [(.ref a1)])) rfl rfl (hb hby d6_65)
         refine Goes.step (B := T55.setTop (mkF m 68 #[.val (.ref a1), .val (.int n), .val (.long rm), .second, .val (.int ft_1), .val (.long sp_1), .second, .val (.int fl_1), .val (.int 2), .val (.int bc2), s10_1] [(.ref pbA)])) st55 ?_
         refine Goes.step (fun _ k => pw_iload X55.here hx (hb hby d6_68) rfl _ k) ?_
         obtain ⟨c56, Ar56, -, Sz56, Nn56, Hs56, -⟩ := id fj46_6
         have hin56 : ¬ (bc2 < 0 ∨ c56.slots.size ≤ (bc2).toNatClampNeg) := inb_of Sz56 (own_gin pm2)
         refine Goes.step (B := T55.setTop (mkF m 71 #[.val (.ref a1), .val (.int n), .val (.long rm), .second, .val (.int ft_1), .val (.long sp_1), .second, .val (.int fl_1), .val (.int 2), .val (.int bc2), s10_1] [(.int (pl.getD bc2.toNatClampNeg 0))])) (X55.baloadBooleans hx (j := bc2) (v := (.int (pl.getD bc2.toNatClampNeg 0))) (by rw [e55]; exact Ar56.1) (State.isArrayOf_alike hZ.alike Ar56.2.1) Ar56.2.2 hin56 (Has.at Hs56 hin56 (own_getD pl _)) (g := (mkF m 70 #[.val (.ref a1), .val (.int n), .val (.long rm), .second, .val (.int ft_1), .val (.long sp_1), .second, .val (.int fl_1), .val (.int 2), .val (.int bc2), s10_1] [(.int bc2), (.ref pbA)])) rfl rfl (hb hby d6_70)) ?_
         by_cases hc71_56 : (pl.getD bc2.toNatClampNeg 0) = (0 : Int32)
         · refine Goes.step (fun _ k => pw_ifYes X55.here hx (pc' := 164) (hb hby d6_71) ((if0 _ _).trans (teq hc71_56).1) (by decide) (by decide) _ k) ?_
           exact J52 _ _ _ ft_1 sp_1 fl_1 s10_1 X55 e55 Oj46 Nj46 Kj46 fj46_0 fj46_1 fj46_2 fj46_3 fj46_4 fj46_5 fj46_6 fj46_7 fj46_8 fj46_9 ⟨hJ46.1, by have q := hJ46.2.1; omega, hJ46.2.2⟩
         · refine Goes.step (fun _ k => pw_ifNo X55.here hx (hb hby d6_71) ((if0 _ _).trans (feq hc71_56).1) _ k) ?_
           obtain ⟨cr2, hcr2⟩ : ∃ z, z = ([ct0, ct1, ct2] : List Int64).getD bc2.toNatClampNeg 0 := ⟨_, rfl⟩
           obtain ⟨mr2, hmr2⟩ : ∃ z, z = ([mb0, mb1, mb2] : List Int32).getD bc2.toNatClampNeg 0 := ⟨_, rfl⟩
           have er2 : own_ef pl [mb0, mb1, mb2] bc2 = mr2.toInt := by rw [hmr2]; exact if_neg hc71_56
           have mc2 : 1 ≤ mr2.toInt ∧ mr2.toInt ≤ 4 := by rw [hmr2]; exact mm2
           have ck2 : 0 ≤ cr2.toInt ∧ cr2.toInt < 1099511627776 := by rw [hcr2]; exact cc2
           have J58 : ∀ (Tj58 : State) (Hj58 : Heap) (lj58 : List Loc) (tk_2 : Int32), Stand p l e ({ frames := 1, cells := 0, slots := 0, locals := 15 } : Room) s m #[(.ref a1), (.int n), (.long rm)] below meth c Tj58 lj58 0 0 → Tj58.heap = Hj58 → Old Z n0 Hj58 → Fr n0 lj58 → Keep h0 Hj58 [pbA] → Fld Z Hj58 a1 "com/example/errantry/errantry/staff/CompletionBounds" "pooled" "[Z" (.ref pbA) → Fld Z Hj58 a1 "com/example/errantry/errantry/staff/CompletionBounds" "pool" "[I" (.ref plA) → Fld Z Hj58 a1 "com/example/errantry/errantry/staff/CompletionBounds" "byCost" "[I" (.ref qA) → Fld Z Hj58 a1 "com/example/errantry/errantry/staff/CompletionBounds" "cost" "[J" (.ref cA) → Fld Z Hj58 a1 "com/example/errantry/errantry/staff/CompletionBounds" "members" "[I" (.ref mA) → Arv Z Hj58 plA kp .int (3 : Int32) [(.int x0), (.int x1), (.int x2)] (.int 0) → Arv Z Hj58 pbA kb .boolean (3 : Int32) (pl.map Value.int) (.int 0) → Arv Z Hj58 qA kq .int (3 : Int32) [(.int bc0), (.int bc1), (.int bc2)] (.int 0) → Arv Z Hj58 cA kC .long (3 : Int32) [(.long ct0), (.long ct1), (.long ct2)] (.long 0) → Arv Z Hj58 mA kM .int (3 : Int32) [(.int mb0), (.int mb1), (.int mb2)] (.int 0) → ((0 ≤ tk_2.toInt ∧ tk_2.toInt ≤ mr2.toInt) ∧ tk_2.toInt * cr2.toInt ≤ rm.toInt - sp_1.toInt) → Goes p e below s (QMF Z a1 plA kp pbA kb qA kq cA kC mA kM ct0 ct1 ct2 mb0 mb1 mb2 bc0 bc1 bc2 x0 x1 x2 n rm h0 n0) ({ frames := 1, cells := 0, slots := 0, locals := 15 } : Room).cells ({ frames := 1, cells := 0, slots := 0, locals := 15 } : Room).slots (Tj58.setTop (mkF m 122 #[.val (.ref a1), .val (.int n), .val (.long rm), .second, .val (.int ft_1), .val (.long sp_1), .second, .val (.int fl_1), .val (.int 2), .val (.int bc2), .val (.int tk_2)] [])) := by
            intro Tj58 Hj58 lj58 tk_2 Xj58 ej58 Oj58 Nj58 Kj58 fj58_0 fj58_1 fj58_2 fj58_3 fj58_4 fj58_5 fj58_6 fj58_7 fj58_8 fj58_9 hJ58
            obtain ⟨tka2, tkb2⟩ := hJ58
            obtain ⟨qa2, qb2, qc2, qd2, -⟩ := id hJ46
            have tft2 : (ft_1 + tk_2).toInt = ft_1.toInt + tk_2.toInt := own_ad (by omega) (by omega)
            have spk2 := own_sp (sp := sp_1) (rm := rm) (tk := tk_2) ⟨tka2.1, by omega⟩ ck2 hJ46.2.2.1 hJ46.2.2.2.1 hr.2 tkb2
            refine Goes.step (fun _ k => pw_iload Xj58.here hx (hb hby d6_122) rfl _ (pw_iload Xj58.here hx (hb hby d6_124) rfl _ (pw_iadd Xj58.here hx (hb hby d6_126) _ (pw_istore Xj58.here hx (l' := #[.val (.ref a1), .val (.int n), .val (.long rm), .second, .val (.int (ft_1 + tk_2)), .val (.long sp_1), .second, .val (.int fl_1), .val (.int 2), .val (.int bc2), .val (.int tk_2)]) (hb hby d6_127) rfl _ (pw_lload Xj58.here hx (hb hby d6_129) rfl _ (pw_iload Xj58.here hx (hb hby d6_131) rfl _ k)))))) ?_
            refine Goes.step (B := Tj58.setTop (mkF m 134 #[.val (.ref a1), .val (.int n), .val (.long rm), .second, .val (.int (ft_1 + tk_2)), .val (.long sp_1), .second, .val (.int fl_1), .val (.int 2), .val (.int bc2), .val (.int tk_2)] [(.long (tk_2.toInt64)), (.long sp_1)])) (fun _ k => XS.i2l Xj58.here hx rfl (hb hby d6_133) rfl k) ?_
            refine Goes.step (fun _ k => pw_aloadN Xj58.here hx (hb hby d6_134) rfl rfl _ k) ?_
            obtain ⟨T59, X59, e59, st59⟩ := getF Xj58 hx hZ hown (host := "") (Or.inl (own_w23 hw)) Via.refl ej58 fj58_3 (g := (mkF m 135 #[.val (.ref a1), .val (.int n), .val (.long rm), .second, .val (.int (ft_1 + tk_2)), .val (.long sp_1), .second, .val (.int fl_1), .val (.int 2), .val (.int bc2), .val (.int tk_2)] [(.ref a1), (.long (tk_2.toInt64)), (.long sp_1)])) rfl rfl (hb hby d6_135)
            refine Goes.step (B := T59.setTop (mkF m 138 #[.val (.ref a1), .val (.int n), .val (.long rm), .second, .val (.int (ft_1 + tk_2)), .val (.long sp_1), .second, .val (.int fl_1), .val (.int 2), .val (.int bc2), .val (.int tk_2)] [(.ref cA), (.long (tk_2.toInt64)), (.long sp_1)])) st59 ?_
            refine Goes.step (fun _ k => pw_iload X59.here hx (hb hby d6_138) rfl _ k) ?_
            obtain ⟨c60, Ar60, -, Sz60, Nn60, Hs60, -⟩ := id fj58_8
            have hin60 : ¬ (bc2 < 0 ∨ c60.slots.size ≤ (bc2).toNatClampNeg) := inb_of Sz60 (own_gin pm2)
            refine Goes.step (B := T59.setTop (mkF m 141 #[.val (.ref a1), .val (.int n), .val (.long rm), .second, .val (.int (ft_1 + tk_2)), .val (.long sp_1), .second, .val (.int fl_1), .val (.int 2), .val (.int bc2), .val (.int tk_2)] [(.long cr2), (.long (tk_2.toInt64)), (.long sp_1)])) (X59.laload hx (j := bc2) (v := (.long cr2)) (by rw [e59]; exact Ar60.1) (State.isArrayOf_alike hZ.alike Ar60.2.1) Ar60.2.2 hin60 (Has.at Hs60 hin60 ((own_getDL [ct0, ct1, ct2] _).trans (congrArg Value.long hcr2.symm))) (g := (mkF m 140 #[.val (.ref a1), .val (.int n), .val (.long rm), .second, .val (.int (ft_1 + tk_2)), .val (.long sp_1), .second, .val (.int fl_1), .val (.int 2), .val (.int bc2), .val (.int tk_2)] [(.int bc2), (.ref cA), (.long (tk_2.toInt64)), (.long sp_1)])) rfl rfl (hb hby d6_140)) ?_
            refine Goes.step (B := T59.setTop (mkF m 142 #[.val (.ref a1), .val (.int n), .val (.long rm), .second, .val (.int (ft_1 + tk_2)), .val (.long sp_1), .second, .val (.int fl_1), .val (.int 2), .val (.int bc2), .val (.int tk_2)] [(.long ((tk_2.toInt64) * cr2)), (.long sp_1)])) (fun _ k => XS.lmul X59.here hx rfl (hb hby d6_141) rfl k) ?_
            refine Goes.step (B := T59.setTop (mkF m 143 #[.val (.ref a1), .val (.int n), .val (.long rm), .second, .val (.int (ft_1 + tk_2)), .val (.long sp_1), .second, .val (.int fl_1), .val (.int 2), .val (.int bc2), .val (.int tk_2)] [(.long (sp_1 + ((tk_2.toInt64) * cr2)))])) (fun _ k => XS.ladd X59.here hx rfl (hb hby d6_142) rfl k) ?_
            refine Goes.step (fun _ k => pw_lstore X59.here hx (l' := #[.val (.ref a1), .val (.int n), .val (.long rm), .second, .val (.int (ft_1 + tk_2)), .val (.long (sp_1 + ((tk_2.toInt64) * cr2))), .second, .val (.int fl_1), .val (.int 2), .val (.int bc2), .val (.int tk_2)]) (hb hby d6_143) rfl _ (pw_iload X59.here hx (hb hby d6_145) rfl _ (pw_aloadN X59.here hx (hb hby d6_147) rfl rfl _ k))) ?_
            obtain ⟨T61, X61, e61, st61⟩ := getF X59 hx hZ hown (host := "") (Or.inl (own_w25 hw)) Via.refl e59 fj58_4 (g := (mkF m 148 #[.val (.ref a1), .val (.int n), .val (.long rm), .second, .val (.int (ft_1 + tk_2)), .val (.long (sp_1 + ((tk_2.toInt64) * cr2))), .second, .val (.int fl_1), .val (.int 2), .val (.int bc2), .val (.int tk_2)] [(.ref a1), (.int tk_2)])) rfl rfl (hb hby d6_148)
            refine Goes.step (B := T61.setTop (mkF m 151 #[.val (.ref a1), .val (.int n), .val (.long rm), .second, .val (.int (ft_1 + tk_2)), .val (.long (sp_1 + ((tk_2.toInt64) * cr2))), .second, .val (.int fl_1), .val (.int 2), .val (.int bc2), .val (.int tk_2)] [(.ref mA), (.int tk_2)])) st61 ?_
            refine Goes.step (fun _ k => pw_iload X61.here hx (hb hby d6_151) rfl _ k) ?_
            obtain ⟨c62, Ar62, -, Sz62, Nn62, Hs62, -⟩ := id fj58_9
            have hin62 : ¬ (bc2 < 0 ∨ c62.slots.size ≤ (bc2).toNatClampNeg) := inb_of Sz62 (own_gin pm2)
            refine Goes.step (B := T61.setTop (mkF m 154 #[.val (.ref a1), .val (.int n), .val (.long rm), .second, .val (.int (ft_1 + tk_2)), .val (.long (sp_1 + ((tk_2.toInt64) * cr2))), .second, .val (.int fl_1), .val (.int 2), .val (.int bc2), .val (.int tk_2)] [(.int mr2), (.int tk_2)])) (X61.iaload hx (j := bc2) (v := (.int mr2)) (by rw [e61]; exact Ar62.1) (State.isArrayOf_alike hZ.alike Ar62.2.1) Ar62.2.2 hin62 (Has.at Hs62 hin62 ((own_getD [mb0, mb1, mb2] _).trans (congrArg Value.int hmr2.symm))) (g := (mkF m 153 #[.val (.ref a1), .val (.int n), .val (.long rm), .second, .val (.int (ft_1 + tk_2)), .val (.long (sp_1 + ((tk_2.toInt64) * cr2))), .second, .val (.int fl_1), .val (.int 2), .val (.int bc2), .val (.int tk_2)] [(.int bc2), (.ref mA), (.int tk_2)])) rfl rfl (hb hby d6_153)) ?_
            by_cases hc154_62 : tk_2 < mr2
            · refine Goes.step (fun _ k => pw_icmpNo X61.here hx (hb hby d6_154) (tlt hc154_62).2.1 _ (pw_iconst X61.here hx (v := (1 : Int32)) (hb hby d6_157) rfl _ (pw_goto X61.here hx (pc' := 162) (hb hby d6_158) (by decide) (by decide) _ (pw_istore X61.here hx (l' := #[.val (.ref a1), .val (.int n), .val (.long rm), .second, .val (.int (ft_1 + tk_2)), .val (.long (sp_1 + ((tk_2.toInt64) * cr2))), .second, .val (.int 1), .val (.int 2), .val (.int bc2), .val (.int tk_2)]) (hb hby d6_162) rfl _ k)))) ?_
              exact J52 _ _ _ (ft_1 + tk_2) (sp_1 + ((tk_2.toInt64) * cr2)) (1 : Int32) (.val (.int tk_2)) X61 e61 Oj58 Nj58 Kj58 fj58_0 fj58_1 fj58_2 fj58_3 fj58_4 fj58_5 fj58_6 fj58_7 fj58_8 fj58_9 ⟨by rw [tft2]; omega, by rw [tft2]; omega, spk2.1, spk2.2, Or.inr ⟨_, rfl⟩⟩
            · refine Goes.step (fun _ k => pw_icmpYes X61.here hx (pc' := 161) (hb hby d6_154) (flt hc154_62).2.1 (by decide) (by decide) _ (pw_iconst X61.here hx (v := (0 : Int32)) (hb hby d6_161) rfl _ (pw_istore X61.here hx (l' := #[.val (.ref a1), .val (.int n), .val (.long rm), .second, .val (.int (ft_1 + tk_2)), .val (.long (sp_1 + ((tk_2.toInt64) * cr2))), .second, .val (.int 0), .val (.int 2), .val (.int bc2), .val (.int tk_2)]) (hb hby d6_162) rfl _ k))) ?_
              exact J52 _ _ _ (ft_1 + tk_2) (sp_1 + ((tk_2.toInt64) * cr2)) (0 : Int32) (.val (.int tk_2)) X61 e61 Oj58 Nj58 Kj58 fj58_0 fj58_1 fj58_2 fj58_3 fj58_4 fj58_5 fj58_6 fj58_7 fj58_8 fj58_9 ⟨by rw [tft2]; omega, by rw [tft2]; omega, spk2.1, spk2.2, Or.inr ⟨_, rfl⟩⟩
           refine Goes.step (fun _ k => pw_aloadN X55.here hx (hb hby d6_74) rfl rfl _ k) ?_
           obtain ⟨T64, X64, e64, st64⟩ := getF X55 hx hZ hown (host := "") (Or.inl (own_w23 hw)) Via.refl e55 fj46_3 (g := (mkF m 75 #[.val (.ref a1), .val (.int n), .val (.long rm), .second, .val (.int ft_1), .val (.long sp_1), .second, .val (.int fl_1), .val (.int 2), .val (.int bc2), s10_1] [(.ref a1)])) rfl rfl (hb hby d6_75)
           refine Goes.step (B := T64.setTop (mkF m 78 #[.val (.ref a1), .val (.int n), .val (.long rm), .second, .val (.int ft_1), .val (.long sp_1), .second, .val (.int fl_1), .val (.int 2), .val (.int bc2), s10_1] [(.ref cA)])) st64 ?_
           refine Goes.step (fun _ k => pw_iload X64.here hx (hb hby d6_78) rfl _ k) ?_
           obtain ⟨c65, Ar65, -, Sz65, Nn65, Hs65, -⟩ := id fj46_8
           have hin65 : ¬ (bc2 < 0 ∨ c65.slots.size ≤ (bc2).toNatClampNeg) := inb_of Sz65 (own_gin pm2)
           refine Goes.step (B := T64.setTop (mkF m 81 #[.val (.ref a1), .val (.int n), .val (.long rm), .second, .val (.int ft_1), .val (.long sp_1), .second, .val (.int fl_1), .val (.int 2), .val (.int bc2), s10_1] [(.long cr2)])) (X64.laload hx (j := bc2) (v := (.long cr2)) (by rw [e64]; exact Ar65.1) (State.isArrayOf_alike hZ.alike Ar65.2.1) Ar65.2.2 hin65 (Has.at Hs65 hin65 ((own_getDL [ct0, ct1, ct2] _).trans (congrArg Value.long hcr2.symm))) (g := (mkF m 80 #[.val (.ref a1), .val (.int n), .val (.long rm), .second, .val (.int ft_1), .val (.long sp_1), .second, .val (.int fl_1), .val (.int 2), .val (.int bc2), s10_1] [(.int bc2), (.ref cA)])) rfl rfl (hb hby d6_80)) ?_
           refine Goes.step (B := T64.setTop (mkF m 82 #[.val (.ref a1), .val (.int n), .val (.long rm), .second, .val (.int ft_1), .val (.long sp_1), .second, .val (.int fl_1), .val (.int 2), .val (.int bc2), s10_1] [(.long 0), (.long cr2)])) (fun _ k => XS.lconst X64.here hx rfl (hb hby d6_81) k) ?_
           refine Goes.step (B := T64.setTop (mkF m 83 #[.val (.ref a1), .val (.int n), .val (.long rm), .second, .val (.int ft_1), .val (.long sp_1), .second, .val (.int fl_1), .val (.int 2), .val (.int bc2), s10_1] [(.int (lcmpW cr2 (0 : Int64)))])) (fun _ k => XS.lcmp X64.here hx rfl (hb hby d6_82) rfl k) ?_
           by_cases hc83_65 : cr2 = (0 : Int64)
           · refine Goes.step (fun _ k => pw_ifNo X64.here hx (hb hby d6_83) ((if0 _ _).trans (teq ((lw_eq _ _).mpr hc83_65)).2) _ (pw_aloadN X64.here hx (hb hby d6_86) rfl rfl _ k)) ?_
             obtain ⟨T67, X67, e67, st67⟩ := getF X64 hx hZ hown (host := "") (Or.inl (own_w25 hw)) Via.refl e64 fj46_4 (g := (mkF m 87 #[.val (.ref a1), .val (.int n), .val (.long rm), .second, .val (.int ft_1), .val (.long sp_1), .second, .val (.int fl_1), .val (.int 2), .val (.int bc2), s10_1] [(.ref a1)])) rfl rfl (hb hby d6_87)
             refine Goes.step (B := T67.setTop (mkF m 90 #[.val (.ref a1), .val (.int n), .val (.long rm), .second, .val (.int ft_1), .val (.long sp_1), .second, .val (.int fl_1), .val (.int 2), .val (.int bc2), s10_1] [(.ref mA)])) st67 ?_
             refine Goes.step (fun _ k => pw_iload X67.here hx (hb hby d6_90) rfl _ k) ?_
             obtain ⟨c68, Ar68, -, Sz68, Nn68, Hs68, -⟩ := id fj46_9
             have hin68 : ¬ (bc2 < 0 ∨ c68.slots.size ≤ (bc2).toNatClampNeg) := inb_of Sz68 (own_gin pm2)
             refine Goes.step (B := T67.setTop (mkF m 93 #[.val (.ref a1), .val (.int n), .val (.long rm), .second, .val (.int ft_1), .val (.long sp_1), .second, .val (.int fl_1), .val (.int 2), .val (.int bc2), s10_1] [(.int mr2)])) (X67.iaload hx (j := bc2) (v := (.int mr2)) (by rw [e67]; exact Ar68.1) (State.isArrayOf_alike hZ.alike Ar68.2.1) Ar68.2.2 hin68 (Has.at Hs68 hin68 ((own_getD [mb0, mb1, mb2] _).trans (congrArg Value.int hmr2.symm))) (g := (mkF m 92 #[.val (.ref a1), .val (.int n), .val (.long rm), .second, .val (.int ft_1), .val (.long sp_1), .second, .val (.int fl_1), .val (.int 2), .val (.int bc2), s10_1] [(.int bc2), (.ref mA)])) rfl rfl (hb hby d6_92)) ?_
             refine Goes.step (fun _ k => pw_goto X67.here hx (pc' := 120) (hb hby d6_93) (by decide) (by decide) _ (pw_istore X67.here hx (l' := #[.val (.ref a1), .val (.int n), .val (.long rm), .second, .val (.int ft_1), .val (.long sp_1), .second, .val (.int fl_1), .val (.int 2), .val (.int bc2), .val (.int mr2)]) (hb hby d6_120) (by rcases hJ46.2.2.2.2 with q | ⟨_, q⟩ <;> rw [q] <;> rfl) _ k)) ?_
             exact J58 _ _ _ mr2 X67 e67 Oj46 Nj46 Kj46 fj46_0 fj46_1 fj46_2 fj46_3 fj46_4 fj46_5 fj46_6 fj46_7 fj46_8 fj46_9 (own_tk0 mc2 hc83_65 hJ46.2.2.2.1)
           · refine Goes.step (fun _ k => pw_ifYes X64.here hx (pc' := 96) (hb hby d6_83) ((if0 _ _).trans (feq (fun q => hc83_65 ((lw_eq _ _).mp q))).2) (by decide) (by decide) _ (pw_aloadN X64.here hx (hb hby d6_96) rfl rfl _ k)) ?_
             obtain ⟨T69, X69, e69, st69⟩ := getF X64 hx hZ hown (host := "") (Or.inl (own_w25 hw)) Via.refl e64 fj46_4 (g := (mkF m 97 #[.val (.ref a1), .val (.int n), .val (.long rm), .second, .val (.int ft_1), .val (.long sp_1), .second, .val (.int fl_1), .val (.int 2), .val (.int bc2), s10_1] [(.ref a1)])) rfl rfl (hb hby d6_97)
             refine Goes.step (B := T69.setTop (mkF m 100 #[.val (.ref a1), .val (.int n), .val (.long rm), .second, .val (.int ft_1), .val (.long sp_1), .second, .val (.int fl_1), .val (.int 2), .val (.int bc2), s10_1] [(.ref mA)])) st69 ?_
             refine Goes.step (fun _ k => pw_iload X69.here hx (hb hby d6_100) rfl _ k) ?_
             obtain ⟨c70, Ar70, -, Sz70, Nn70, Hs70, -⟩ := id fj46_9
             have hin70 : ¬ (bc2 < 0 ∨ c70.slots.size ≤ (bc2).toNatClampNeg) := inb_of Sz70 (own_gin pm2)
             refine Goes.step (B := T69.setTop (mkF m 103 #[.val (.ref a1), .val (.int n), .val (.long rm), .second, .val (.int ft_1), .val (.long sp_1), .second, .val (.int fl_1), .val (.int 2), .val (.int bc2), s10_1] [(.int mr2)])) (X69.iaload hx (j := bc2) (v := (.int mr2)) (by rw [e69]; exact Ar70.1) (State.isArrayOf_alike hZ.alike Ar70.2.1) Ar70.2.2 hin70 (Has.at Hs70 hin70 ((own_getD [mb0, mb1, mb2] _).trans (congrArg Value.int hmr2.symm))) (g := (mkF m 102 #[.val (.ref a1), .val (.int n), .val (.long rm), .second, .val (.int ft_1), .val (.long sp_1), .second, .val (.int fl_1), .val (.int 2), .val (.int bc2), s10_1] [(.int bc2), (.ref mA)])) rfl rfl (hb hby d6_102)) ?_
             refine Goes.step (B := T69.setTop (mkF m 104 #[.val (.ref a1), .val (.int n), .val (.long rm), .second, .val (.int ft_1), .val (.long sp_1), .second, .val (.int fl_1), .val (.int 2), .val (.int bc2), s10_1] [(.long (mr2.toInt64))])) (fun _ k => XS.i2l X69.here hx rfl (hb hby d6_103) rfl k) ?_
             refine Goes.step (fun _ k => pw_lloadN X69.here hx (hb hby d6_104) rfl _ (pw_lload X69.here hx (hb hby d6_105) rfl _ k)) ?_
             refine Goes.step (B := T69.setTop (mkF m 108 #[.val (.ref a1), .val (.int n), .val (.long rm), .second, .val (.int ft_1), .val (.long sp_1), .second, .val (.int fl_1), .val (.int 2), .val (.int bc2), s10_1] [(.long (rm - sp_1)), (.long (mr2.toInt64))])) (fun _ k => XS.lsub X69.here hx rfl (hb hby d6_107) rfl k) ?_
             refine Goes.step (fun _ k => pw_aloadN X69.here hx (hb hby d6_108) rfl rfl _ k) ?_
             obtain ⟨T71, X71, e71, st71⟩ := getF X69 hx hZ hown (host := "") (Or.inl (own_w23 hw)) Via.refl e69 fj46_3 (g := (mkF m 109 #[.val (.ref a1), .val (.int n), .val (.long rm), .second, .val (.int ft_1), .val (.long sp_1), .second, .val (.int fl_1), .val (.int 2), .val (.int bc2), s10_1] [(.ref a1), (.long (rm - sp_1)), (.long (mr2.toInt64))])) rfl rfl (hb hby d6_109)
             refine Goes.step (B := T71.setTop (mkF m 112 #[.val (.ref a1), .val (.int n), .val (.long rm), .second, .val (.int ft_1), .val (.long sp_1), .second, .val (.int fl_1), .val (.int 2), .val (.int bc2), s10_1] [(.ref cA), (.long (rm - sp_1)), (.long (mr2.toInt64))])) st71 ?_
             refine Goes.step (fun _ k => pw_iload X71.here hx (hb hby d6_112) rfl _ k) ?_
             obtain ⟨c72, Ar72, -, Sz72, Nn72, Hs72, -⟩ := id fj46_8
             have hin72 : ¬ (bc2 < 0 ∨ c72.slots.size ≤ (bc2).toNatClampNeg) := inb_of Sz72 (own_gin pm2)
             refine Goes.step (B := T71.setTop (mkF m 115 #[.val (.ref a1), .val (.int n), .val (.long rm), .second, .val (.int ft_1), .val (.long sp_1), .second, .val (.int fl_1), .val (.int 2), .val (.int bc2), s10_1] [(.long cr2), (.long (rm - sp_1)), (.long (mr2.toInt64))])) (X71.laload hx (j := bc2) (v := (.long cr2)) (by rw [e71]; exact Ar72.1) (State.isArrayOf_alike hZ.alike Ar72.2.1) Ar72.2.2 hin72 (Has.at Hs72 hin72 ((own_getDL [ct0, ct1, ct2] _).trans (congrArg Value.long hcr2.symm))) (g := (mkF m 114 #[.val (.ref a1), .val (.int n), .val (.long rm), .second, .val (.int ft_1), .val (.long sp_1), .second, .val (.int fl_1), .val (.int 2), .val (.int bc2), s10_1] [(.int bc2), (.ref cA), (.long (rm - sp_1)), (.long (mr2.toInt64))])) rfl rfl (hb hby d6_114)) ?_
             refine Goes.step (B := T71.setTop (mkF m 116 #[.val (.ref a1), .val (.int n), .val (.long rm), .second, .val (.int ft_1), .val (.long sp_1), .second, .val (.int fl_1), .val (.int 2), .val (.int bc2), s10_1] [(.long ((rm - sp_1) / cr2)), (.long (mr2.toInt64))])) (fun _ k => XS.ldiv X71.here hx rfl (hb hby d6_115) rfl hc83_65 k) ?_
             obtain ⟨_, _, ⟨T73, L73, k73, n73⟩, -, X73, ⟨Lc73, hQ73, l73, y73, z73⟩, st73⟩ := Jvm.LawKit.callS X71 hx (y := (⟨"java/lang/Math", "min", "(JJ)J"⟩ : MethodName)) hown (mvT hZ (own_w100 hw)) (mvT hZ (own_w101 hw)) (mvT hZ (own_w92 hw)) (mvT hZ (own_w102 hw)) (by decide) (backOf (W := 0) (rm16 l Z a0 hw [] (mr2.toInt64) ((rm - sp_1) / cr2) Hj46 n0 Oj46 ) hZ (own_w102 hw) (own_w92 hw) (by decide) (by decide)) (g := (mkF m 116 #[.val (.ref a1), .val (.int n), .val (.long rm), .second, .val (.int ft_1), .val (.long sp_1), .second, .val (.int fl_1), .val (.int 2), .val (.int bc2), s10_1] [(.long ((rm - sp_1) / cr2)), (.long (mr2.toInt64))])) rfl (by rw [hml]; rfl) (argsL := [(.long (mr2.toInt64)), (.long ((rm - sp_1) / cr2))]) (rest := []) (lenOf pd_2 rfl) rfl (by show 2 * 0 + _ ≤ _; exact Nat.le_of_eq rfl) (hb hby d6_116) (fun _ _ => ⟨rfl, e71, (by decide : 0 + 0 ≤ _), (by decide : 0 + 0 ≤ _)⟩)
             dsimp only [Pt.U, Pt.locs, Pt.cells, Pt.slots] at X73 l73 y73 z73 st73 hQ73
             subst l73 y73 z73
             obtain ⟨rfl, Nq73, eh73⟩ := hQ73
             have N73 := Fr.app Nj46 Nq73
             refine Goes.step (B := T73.setTop (mkF m 119 #[.val (.ref a1), .val (.int n), .val (.long rm), .second, .val (.int ft_1), .val (.long sp_1), .second, .val (.int fl_1), .val (.int 2), .val (.int bc2), s10_1] [(.long (own_mnJ (mr2.toInt64) ((rm - sp_1) / cr2)))])) st73 ?_
             refine Goes.step (B := T73.setTop (mkF m 120 #[.val (.ref a1), .val (.int n), .val (.long rm), .second, .val (.int ft_1), .val (.long sp_1), .second, .val (.int fl_1), .val (.int 2), .val (.int bc2), s10_1] [(.int (own_mnJ (mr2.toInt64) ((rm - sp_1) / cr2)).toInt32)])) (fun _ k => XS.l2i X73.here hx rfl (hb hby d6_119) rfl k) ?_
             refine Goes.step (fun _ k => pw_istore X73.here hx (l' := #[.val (.ref a1), .val (.int n), .val (.long rm), .second, .val (.int ft_1), .val (.long sp_1), .second, .val (.int fl_1), .val (.int 2), .val (.int bc2), .val (.int (own_mnJ (mr2.toInt64) ((rm - sp_1) / cr2)).toInt32)]) (hb hby d6_120) (by rcases hJ46.2.2.2.2 with q | ⟨_, q⟩ <;> rw [q] <;> rfl) _ k) ?_
             exact J58 _ _ _ ((own_mnJ (mr2.toInt64) ((rm - sp_1) / cr2)).toInt32) X73 eh73 Oj46 N73 Kj46 fj46_0 fj46_1 fj46_2 fj46_3 fj46_4 fj46_5 fj46_6 fj46_7 fj46_8 fj46_9 (own_tk mc2 ck2 hc83_65 hJ46.2.2.1 hJ46.2.2.2.1 hr.2 rfl)
       · refine Goes.step (fun _ k => pw_ifYes X47.here hx (pc' := 170) (hb hby d6_52) ((if0 _ _).trans (feq hc52_48).2) (by decide) (by decide) _ k) ?_
         exact J2 _ _ _ ft_1 sp_1 fl_1 (2 : Int32) (.val (.int bc1)) s10_1 X47 e47 Oj46 Nj46 Kj46 fj46_0 fj46_1 fj46_2 fj46_3 fj46_4 fj46_5 fj46_6 fj46_7 fj46_8 fj46_9 ⟨hJ46.1, by have q := hJ46.2.1; omega⟩
      refine Goes.step (fun _ k => pw_aloadN X44.here hx (hb hby d6_64) rfl rfl _ k) ?_
      obtain ⟨T74, X74, e74, st74⟩ := getF X44 hx hZ hown (host := "") (Or.inl (own_w30 hw)) Via.refl e44 fj40_0 (g := (mkF m 65 #[.val (.ref a1), .val (.int n), .val (.long rm), .second, .val (.int ft_0), .val (.long sp_0), .second, .val (.int fl_0), .val (.int 1), .val (.int bc1), s10_0] [(.ref a1)])) rfl rfl (hb hby d6_65)
      refine Goes.step (B := T74.setTop (mkF m 68 #[.val (.ref a1), .val (.int n), .val (.long rm), .second, .val (.int ft_0), .val (.long sp_0), .second, .val (.int fl_0), .val (.int 1), .val (.int bc1), s10_0] [(.ref pbA)])) st74 ?_
      refine Goes.step (fun _ k => pw_iload X74.here hx (hb hby d6_68) rfl _ k) ?_
      obtain ⟨c75, Ar75, -, Sz75, Nn75, Hs75, -⟩ := id fj40_6
      have hin75 : ¬ (bc1 < 0 ∨ c75.slots.size ≤ (bc1).toNatClampNeg) := inb_of Sz75 (own_gin pm1)
      refine Goes.step (B := T74.setTop (mkF m 71 #[.val (.ref a1), .val (.int n), .val (.long rm), .second, .val (.int ft_0), .val (.long sp_0), .second, .val (.int fl_0), .val (.int 1), .val (.int bc1), s10_0] [(.int (pl.getD bc1.toNatClampNeg 0))])) (X74.baloadBooleans hx (j := bc1) (v := (.int (pl.getD bc1.toNatClampNeg 0))) (by rw [e74]; exact Ar75.1) (State.isArrayOf_alike hZ.alike Ar75.2.1) Ar75.2.2 hin75 (Has.at Hs75 hin75 (own_getD pl _)) (g := (mkF m 70 #[.val (.ref a1), .val (.int n), .val (.long rm), .second, .val (.int ft_0), .val (.long sp_0), .second, .val (.int fl_0), .val (.int 1), .val (.int bc1), s10_0] [(.int bc1), (.ref pbA)])) rfl rfl (hb hby d6_70)) ?_
      by_cases hc71_75 : (pl.getD bc1.toNatClampNeg 0) = (0 : Int32)
      · refine Goes.step (fun _ k => pw_ifYes X74.here hx (pc' := 164) (hb hby d6_71) ((if0 _ _).trans (teq hc71_75).1) (by decide) (by decide) _ k) ?_
        exact J46 _ _ _ ft_0 sp_0 fl_0 s10_0 X74 e74 Oj40 Nj40 Kj40 fj40_0 fj40_1 fj40_2 fj40_3 fj40_4 fj40_5 fj40_6 fj40_7 fj40_8 fj40_9 ⟨hJ40.1, by have q := hJ40.2.1; omega, hJ40.2.2⟩
      · refine Goes.step (fun _ k => pw_ifNo X74.here hx (hb hby d6_71) ((if0 _ _).trans (feq hc71_75).1) _ k) ?_
        obtain ⟨cr1, hcr1⟩ : ∃ z, z = ([ct0, ct1, ct2] : List Int64).getD bc1.toNatClampNeg 0 := ⟨_, rfl⟩
        obtain ⟨mr1, hmr1⟩ : ∃ z, z = ([mb0, mb1, mb2] : List Int32).getD bc1.toNatClampNeg 0 := ⟨_, rfl⟩
        have er1 : own_ef pl [mb0, mb1, mb2] bc1 = mr1.toInt := by rw [hmr1]; exact if_neg hc71_75
        have mc1 : 1 ≤ mr1.toInt ∧ mr1.toInt ≤ 4 := by rw [hmr1]; exact mm1
        have ck1 : 0 ≤ cr1.toInt ∧ cr1.toInt < 1099511627776 := by rw [hcr1]; exact cc1
        have J77 : ∀ (Tj77 : State) (Hj77 : Heap) (lj77 : List Loc) (tk_1 : Int32), Stand p l e ({ frames := 1, cells := 0, slots := 0, locals := 15 } : Room) s m #[(.ref a1), (.int n), (.long rm)] below meth c Tj77 lj77 0 0 → Tj77.heap = Hj77 → Old Z n0 Hj77 → Fr n0 lj77 → Keep h0 Hj77 [pbA] → Fld Z Hj77 a1 "com/example/errantry/errantry/staff/CompletionBounds" "pooled" "[Z" (.ref pbA) → Fld Z Hj77 a1 "com/example/errantry/errantry/staff/CompletionBounds" "pool" "[I" (.ref plA) → Fld Z Hj77 a1 "com/example/errantry/errantry/staff/CompletionBounds" "byCost" "[I" (.ref qA) → Fld Z Hj77 a1 "com/example/errantry/errantry/staff/CompletionBounds" "cost" "[J" (.ref cA) → Fld Z Hj77 a1 "com/example/errantry/errantry/staff/CompletionBounds" "members" "[I" (.ref mA) → Arv Z Hj77 plA kp .int (3 : Int32) [(.int x0), (.int x1), (.int x2)] (.int 0) → Arv Z Hj77 pbA kb .boolean (3 : Int32) (pl.map Value.int) (.int 0) → Arv Z Hj77 qA kq .int (3 : Int32) [(.int bc0), (.int bc1), (.int bc2)] (.int 0) → Arv Z Hj77 cA kC .long (3 : Int32) [(.long ct0), (.long ct1), (.long ct2)] (.long 0) → Arv Z Hj77 mA kM .int (3 : Int32) [(.int mb0), (.int mb1), (.int mb2)] (.int 0) → ((0 ≤ tk_1.toInt ∧ tk_1.toInt ≤ mr1.toInt) ∧ tk_1.toInt * cr1.toInt ≤ rm.toInt - sp_0.toInt) → Goes p e below s (QMF Z a1 plA kp pbA kb qA kq cA kC mA kM ct0 ct1 ct2 mb0 mb1 mb2 bc0 bc1 bc2 x0 x1 x2 n rm h0 n0) ({ frames := 1, cells := 0, slots := 0, locals := 15 } : Room).cells ({ frames := 1, cells := 0, slots := 0, locals := 15 } : Room).slots (Tj77.setTop (mkF m 122 #[.val (.ref a1), .val (.int n), .val (.long rm), .second, .val (.int ft_0), .val (.long sp_0), .second, .val (.int fl_0), .val (.int 1), .val (.int bc1), .val (.int tk_1)] [])) := by
         intro Tj77 Hj77 lj77 tk_1 Xj77 ej77 Oj77 Nj77 Kj77 fj77_0 fj77_1 fj77_2 fj77_3 fj77_4 fj77_5 fj77_6 fj77_7 fj77_8 fj77_9 hJ77
         obtain ⟨tka1, tkb1⟩ := hJ77
         obtain ⟨qa1, qb1, qc1, qd1, -⟩ := id hJ40
         have tft1 : (ft_0 + tk_1).toInt = ft_0.toInt + tk_1.toInt := own_ad (by omega) (by omega)
         have spk1 := own_sp (sp := sp_0) (rm := rm) (tk := tk_1) ⟨tka1.1, by omega⟩ ck1 hJ40.2.2.1 hJ40.2.2.2.1 hr.2 tkb1
         refine Goes.step (fun _ k => pw_iload Xj77.here hx (hb hby d6_122) rfl _ (pw_iload Xj77.here hx (hb hby d6_124) rfl _ (pw_iadd Xj77.here hx (hb hby d6_126) _ (pw_istore Xj77.here hx (l' := #[.val (.ref a1), .val (.int n), .val (.long rm), .second, .val (.int (ft_0 + tk_1)), .val (.long sp_0), .second, .val (.int fl_0), .val (.int 1), .val (.int bc1), .val (.int tk_1)]) (hb hby d6_127) rfl _ (pw_lload Xj77.here hx (hb hby d6_129) rfl _ (pw_iload Xj77.here hx (hb hby d6_131) rfl _ k)))))) ?_
         refine Goes.step (B := Tj77.setTop (mkF m 134 #[.val (.ref a1), .val (.int n), .val (.long rm), .second, .val (.int (ft_0 + tk_1)), .val (.long sp_0), .second, .val (.int fl_0), .val (.int 1), .val (.int bc1), .val (.int tk_1)] [(.long (tk_1.toInt64)), (.long sp_0)])) (fun _ k => XS.i2l Xj77.here hx rfl (hb hby d6_133) rfl k) ?_
         refine Goes.step (fun _ k => pw_aloadN Xj77.here hx (hb hby d6_134) rfl rfl _ k) ?_
         obtain ⟨T78, X78, e78, st78⟩ := getF Xj77 hx hZ hown (host := "") (Or.inl (own_w23 hw)) Via.refl ej77 fj77_3 (g := (mkF m 135 #[.val (.ref a1), .val (.int n), .val (.long rm), .second, .val (.int (ft_0 + tk_1)), .val (.long sp_0), .second, .val (.int fl_0), .val (.int 1), .val (.int bc1), .val (.int tk_1)] [(.ref a1), (.long (tk_1.toInt64)), (.long sp_0)])) rfl rfl (hb hby d6_135)
         refine Goes.step (B := T78.setTop (mkF m 138 #[.val (.ref a1), .val (.int n), .val (.long rm), .second, .val (.int (ft_0 + tk_1)), .val (.long sp_0), .second, .val (.int fl_0), .val (.int 1), .val (.int bc1), .val (.int tk_1)] [(.ref cA), (.long (tk_1.toInt64)), (.long sp_0)])) st78 ?_
         refine Goes.step (fun _ k => pw_iload X78.here hx (hb hby d6_138) rfl _ k) ?_
         obtain ⟨c79, Ar79, -, Sz79, Nn79, Hs79, -⟩ := id fj77_8
         have hin79 : ¬ (bc1 < 0 ∨ c79.slots.size ≤ (bc1).toNatClampNeg) := inb_of Sz79 (own_gin pm1)
         refine Goes.step (B := T78.setTop (mkF m 141 #[.val (.ref a1), .val (.int n), .val (.long rm), .second, .val (.int (ft_0 + tk_1)), .val (.long sp_0), .second, .val (.int fl_0), .val (.int 1), .val (.int bc1), .val (.int tk_1)] [(.long cr1), (.long (tk_1.toInt64)), (.long sp_0)])) (X78.laload hx (j := bc1) (v := (.long cr1)) (by rw [e78]; exact Ar79.1) (State.isArrayOf_alike hZ.alike Ar79.2.1) Ar79.2.2 hin79 (Has.at Hs79 hin79 ((own_getDL [ct0, ct1, ct2] _).trans (congrArg Value.long hcr1.symm))) (g := (mkF m 140 #[.val (.ref a1), .val (.int n), .val (.long rm), .second, .val (.int (ft_0 + tk_1)), .val (.long sp_0), .second, .val (.int fl_0), .val (.int 1), .val (.int bc1), .val (.int tk_1)] [(.int bc1), (.ref cA), (.long (tk_1.toInt64)), (.long sp_0)])) rfl rfl (hb hby d6_140)) ?_
         refine Goes.step (B := T78.setTop (mkF m 142 #[.val (.ref a1), .val (.int n), .val (.long rm), .second, .val (.int (ft_0 + tk_1)), .val (.long sp_0), .second, .val (.int fl_0), .val (.int 1), .val (.int bc1), .val (.int tk_1)] [(.long ((tk_1.toInt64) * cr1)), (.long sp_0)])) (fun _ k => XS.lmul X78.here hx rfl (hb hby d6_141) rfl k) ?_
         refine Goes.step (B := T78.setTop (mkF m 143 #[.val (.ref a1), .val (.int n), .val (.long rm), .second, .val (.int (ft_0 + tk_1)), .val (.long sp_0), .second, .val (.int fl_0), .val (.int 1), .val (.int bc1), .val (.int tk_1)] [(.long (sp_0 + ((tk_1.toInt64) * cr1)))])) (fun _ k => XS.ladd X78.here hx rfl (hb hby d6_142) rfl k) ?_
         refine Goes.step (fun _ k => pw_lstore X78.here hx (l' := #[.val (.ref a1), .val (.int n), .val (.long rm), .second, .val (.int (ft_0 + tk_1)), .val (.long (sp_0 + ((tk_1.toInt64) * cr1))), .second, .val (.int fl_0), .val (.int 1), .val (.int bc1), .val (.int tk_1)]) (hb hby d6_143) rfl _ (pw_iload X78.here hx (hb hby d6_145) rfl _ (pw_aloadN X78.here hx (hb hby d6_147) rfl rfl _ k))) ?_
         obtain ⟨T80, X80, e80, st80⟩ := getF X78 hx hZ hown (host := "") (Or.inl (own_w25 hw)) Via.refl e78 fj77_4 (g := (mkF m 148 #[.val (.ref a1), .val (.int n), .val (.long rm), .second, .val (.int (ft_0 + tk_1)), .val (.long (sp_0 + ((tk_1.toInt64) * cr1))), .second, .val (.int fl_0), .val (.int 1), .val (.int bc1), .val (.int tk_1)] [(.ref a1), (.int tk_1)])) rfl rfl (hb hby d6_148)
         refine Goes.step (B := T80.setTop (mkF m 151 #[.val (.ref a1), .val (.int n), .val (.long rm), .second, .val (.int (ft_0 + tk_1)), .val (.long (sp_0 + ((tk_1.toInt64) * cr1))), .second, .val (.int fl_0), .val (.int 1), .val (.int bc1), .val (.int tk_1)] [(.ref mA), (.int tk_1)])) st80 ?_
         refine Goes.step (fun _ k => pw_iload X80.here hx (hb hby d6_151) rfl _ k) ?_
         obtain ⟨c81, Ar81, -, Sz81, Nn81, Hs81, -⟩ := id fj77_9
         have hin81 : ¬ (bc1 < 0 ∨ c81.slots.size ≤ (bc1).toNatClampNeg) := inb_of Sz81 (own_gin pm1)
         refine Goes.step (B := T80.setTop (mkF m 154 #[.val (.ref a1), .val (.int n), .val (.long rm), .second, .val (.int (ft_0 + tk_1)), .val (.long (sp_0 + ((tk_1.toInt64) * cr1))), .second, .val (.int fl_0), .val (.int 1), .val (.int bc1), .val (.int tk_1)] [(.int mr1), (.int tk_1)])) (X80.iaload hx (j := bc1) (v := (.int mr1)) (by rw [e80]; exact Ar81.1) (State.isArrayOf_alike hZ.alike Ar81.2.1) Ar81.2.2 hin81 (Has.at Hs81 hin81 ((own_getD [mb0, mb1, mb2] _).trans (congrArg Value.int hmr1.symm))) (g := (mkF m 153 #[.val (.ref a1), .val (.int n), .val (.long rm), .second, .val (.int (ft_0 + tk_1)), .val (.long (sp_0 + ((tk_1.toInt64) * cr1))), .second, .val (.int fl_0), .val (.int 1), .val (.int bc1), .val (.int tk_1)] [(.int bc1), (.ref mA), (.int tk_1)])) rfl rfl (hb hby d6_153)) ?_
         by_cases hc154_81 : tk_1 < mr1
         · refine Goes.step (fun _ k => pw_icmpNo X80.here hx (hb hby d6_154) (tlt hc154_81).2.1 _ (pw_iconst X80.here hx (v := (1 : Int32)) (hb hby d6_157) rfl _ (pw_goto X80.here hx (pc' := 162) (hb hby d6_158) (by decide) (by decide) _ (pw_istore X80.here hx (l' := #[.val (.ref a1), .val (.int n), .val (.long rm), .second, .val (.int (ft_0 + tk_1)), .val (.long (sp_0 + ((tk_1.toInt64) * cr1))), .second, .val (.int 1), .val (.int 1), .val (.int bc1), .val (.int tk_1)]) (hb hby d6_162) rfl _ k)))) ?_
           exact J46 _ _ _ (ft_0 + tk_1) (sp_0 + ((tk_1.toInt64) * cr1)) (1 : Int32) (.val (.int tk_1)) X80 e80 Oj77 Nj77 Kj77 fj77_0 fj77_1 fj77_2 fj77_3 fj77_4 fj77_5 fj77_6 fj77_7 fj77_8 fj77_9 ⟨by rw [tft1]; omega, by rw [tft1]; omega, spk1.1, spk1.2, Or.inr ⟨_, rfl⟩⟩
         · refine Goes.step (fun _ k => pw_icmpYes X80.here hx (pc' := 161) (hb hby d6_154) (flt hc154_81).2.1 (by decide) (by decide) _ (pw_iconst X80.here hx (v := (0 : Int32)) (hb hby d6_161) rfl _ (pw_istore X80.here hx (l' := #[.val (.ref a1), .val (.int n), .val (.long rm), .second, .val (.int (ft_0 + tk_1)), .val (.long (sp_0 + ((tk_1.toInt64) * cr1))), .second, .val (.int 0), .val (.int 1), .val (.int bc1), .val (.int tk_1)]) (hb hby d6_162) rfl _ k))) ?_
           exact J46 _ _ _ (ft_0 + tk_1) (sp_0 + ((tk_1.toInt64) * cr1)) (0 : Int32) (.val (.int tk_1)) X80 e80 Oj77 Nj77 Kj77 fj77_0 fj77_1 fj77_2 fj77_3 fj77_4 fj77_5 fj77_6 fj77_7 fj77_8 fj77_9 ⟨by rw [tft1]; omega, by rw [tft1]; omega, spk1.1, spk1.2, Or.inr ⟨_, rfl⟩⟩
        refine Goes.step (fun _ k => pw_aloadN X74.here hx (hb hby d6_74) rfl rfl _ k) ?_
        obtain ⟨T83, X83, e83, st83⟩ := getF X74 hx hZ hown (host := "") (Or.inl (own_w23 hw)) Via.refl e74 fj40_3 (g := (mkF m 75 #[.val (.ref a1), .val (.int n), .val (.long rm), .second, .val (.int ft_0), .val (.long sp_0), .second, .val (.int fl_0), .val (.int 1), .val (.int bc1), s10_0] [(.ref a1)])) rfl rfl (hb hby d6_75)
        refine Goes.step (B := T83.setTop (mkF m 78 #[.val (.ref a1), .val (.int n), .val (.long rm), .second, .val (.int ft_0), .val (.long sp_0), .second, .val (.int fl_0), .val (.int 1), .val (.int bc1), s10_0] [(.ref cA)])) st83 ?_
        refine Goes.step (fun _ k => pw_iload X83.here hx (hb hby d6_78) rfl _ k) ?_
        obtain ⟨c84, Ar84, -, Sz84, Nn84, Hs84, -⟩ := id fj40_8
        have hin84 : ¬ (bc1 < 0 ∨ c84.slots.size ≤ (bc1).toNatClampNeg) := inb_of Sz84 (own_gin pm1)
        refine Goes.step (B := T83.setTop (mkF m 81 #[.val (.ref a1), .val (.int n), .val (.long rm), .second, .val (.int ft_0), .val (.long sp_0), .second, .val (.int fl_0), .val (.int 1), .val (.int bc1), s10_0] [(.long cr1)])) (X83.laload hx (j := bc1) (v := (.long cr1)) (by rw [e83]; exact Ar84.1) (State.isArrayOf_alike hZ.alike Ar84.2.1) Ar84.2.2 hin84 (Has.at Hs84 hin84 ((own_getDL [ct0, ct1, ct2] _).trans (congrArg Value.long hcr1.symm))) (g := (mkF m 80 #[.val (.ref a1), .val (.int n), .val (.long rm), .second, .val (.int ft_0), .val (.long sp_0), .second, .val (.int fl_0), .val (.int 1), .val (.int bc1), s10_0] [(.int bc1), (.ref cA)])) rfl rfl (hb hby d6_80)) ?_
        refine Goes.step (B := T83.setTop (mkF m 82 #[.val (.ref a1), .val (.int n), .val (.long rm), .second, .val (.int ft_0), .val (.long sp_0), .second, .val (.int fl_0), .val (.int 1), .val (.int bc1), s10_0] [(.long 0), (.long cr1)])) (fun _ k => XS.lconst X83.here hx rfl (hb hby d6_81) k) ?_
        refine Goes.step (B := T83.setTop (mkF m 83 #[.val (.ref a1), .val (.int n), .val (.long rm), .second, .val (.int ft_0), .val (.long sp_0), .second, .val (.int fl_0), .val (.int 1), .val (.int bc1), s10_0] [(.int (lcmpW cr1 (0 : Int64)))])) (fun _ k => XS.lcmp X83.here hx rfl (hb hby d6_82) rfl k) ?_
        by_cases hc83_84 : cr1 = (0 : Int64)
        · refine Goes.step (fun _ k => pw_ifNo X83.here hx (hb hby d6_83) ((if0 _ _).trans (teq ((lw_eq _ _).mpr hc83_84)).2) _ (pw_aloadN X83.here hx (hb hby d6_86) rfl rfl _ k)) ?_
          obtain ⟨T86, X86, e86, st86⟩ := getF X83 hx hZ hown (host := "") (Or.inl (own_w25 hw)) Via.refl e83 fj40_4 (g := (mkF m 87 #[.val (.ref a1), .val (.int n), .val (.long rm), .second, .val (.int ft_0), .val (.long sp_0), .second, .val (.int fl_0), .val (.int 1), .val (.int bc1), s10_0] [(.ref a1)])) rfl rfl (hb hby d6_87)
          refine Goes.step (B := T86.setTop (mkF m 90 #[.val (.ref a1), .val (.int n), .val (.long rm), .second, .val (.int ft_0), .val (.long sp_0), .second, .val (.int fl_0), .val (.int 1), .val (.int bc1), s10_0] [(.ref mA)])) st86 ?_
          refine Goes.step (fun _ k => pw_iload X86.here hx (hb hby d6_90) rfl _ k) ?_
          obtain ⟨c87, Ar87, -, Sz87, Nn87, Hs87, -⟩ := id fj40_9
          have hin87 : ¬ (bc1 < 0 ∨ c87.slots.size ≤ (bc1).toNatClampNeg) := inb_of Sz87 (own_gin pm1)
          refine Goes.step (B := T86.setTop (mkF m 93 #[.val (.ref a1), .val (.int n), .val (.long rm), .second, .val (.int ft_0), .val (.long sp_0), .second, .val (.int fl_0), .val (.int 1), .val (.int bc1), s10_0] [(.int mr1)])) (X86.iaload hx (j := bc1) (v := (.int mr1)) (by rw [e86]; exact Ar87.1) (State.isArrayOf_alike hZ.alike Ar87.2.1) Ar87.2.2 hin87 (Has.at Hs87 hin87 ((own_getD [mb0, mb1, mb2] _).trans (congrArg Value.int hmr1.symm))) (g := (mkF m 92 #[.val (.ref a1), .val (.int n), .val (.long rm), .second, .val (.int ft_0), .val (.long sp_0), .second, .val (.int fl_0), .val (.int 1), .val (.int bc1), s10_0] [(.int bc1), (.ref mA)])) rfl rfl (hb hby d6_92)) ?_
          refine Goes.step (fun _ k => pw_goto X86.here hx (pc' := 120) (hb hby d6_93) (by decide) (by decide) _ (pw_istore X86.here hx (l' := #[.val (.ref a1), .val (.int n), .val (.long rm), .second, .val (.int ft_0), .val (.long sp_0), .second, .val (.int fl_0), .val (.int 1), .val (.int bc1), .val (.int mr1)]) (hb hby d6_120) (by rcases hJ40.2.2.2.2 with q | ⟨_, q⟩ <;> rw [q] <;> rfl) _ k)) ?_
          exact J77 _ _ _ mr1 X86 e86 Oj40 Nj40 Kj40 fj40_0 fj40_1 fj40_2 fj40_3 fj40_4 fj40_5 fj40_6 fj40_7 fj40_8 fj40_9 (own_tk0 mc1 hc83_84 hJ40.2.2.2.1)
        · refine Goes.step (fun _ k => pw_ifYes X83.here hx (pc' := 96) (hb hby d6_83) ((if0 _ _).trans (feq (fun q => hc83_84 ((lw_eq _ _).mp q))).2) (by decide) (by decide) _ (pw_aloadN X83.here hx (hb hby d6_96) rfl rfl _ k)) ?_
          obtain ⟨T88, X88, e88, st88⟩ := getF X83 hx hZ hown (host := "") (Or.inl (own_w25 hw)) Via.refl e83 fj40_4 (g := (mkF m 97 #[.val (.ref a1), .val (.int n), .val (.long rm), .second, .val (.int ft_0), .val (.long sp_0), .second, .val (.int fl_0), .val (.int 1), .val (.int bc1), s10_0] [(.ref a1)])) rfl rfl (hb hby d6_97)
          refine Goes.step (B := T88.setTop (mkF m 100 #[.val (.ref a1), .val (.int n), .val (.long rm), .second, .val (.int ft_0), .val (.long sp_0), .second, .val (.int fl_0), .val (.int 1), .val (.int bc1), s10_0] [(.ref mA)])) st88 ?_
          refine Goes.step (fun _ k => pw_iload X88.here hx (hb hby d6_100) rfl _ k) ?_
          obtain ⟨c89, Ar89, -, Sz89, Nn89, Hs89, -⟩ := id fj40_9
          have hin89 : ¬ (bc1 < 0 ∨ c89.slots.size ≤ (bc1).toNatClampNeg) := inb_of Sz89 (own_gin pm1)
          refine Goes.step (B := T88.setTop (mkF m 103 #[.val (.ref a1), .val (.int n), .val (.long rm), .second, .val (.int ft_0), .val (.long sp_0), .second, .val (.int fl_0), .val (.int 1), .val (.int bc1), s10_0] [(.int mr1)])) (X88.iaload hx (j := bc1) (v := (.int mr1)) (by rw [e88]; exact Ar89.1) (State.isArrayOf_alike hZ.alike Ar89.2.1) Ar89.2.2 hin89 (Has.at Hs89 hin89 ((own_getD [mb0, mb1, mb2] _).trans (congrArg Value.int hmr1.symm))) (g := (mkF m 102 #[.val (.ref a1), .val (.int n), .val (.long rm), .second, .val (.int ft_0), .val (.long sp_0), .second, .val (.int fl_0), .val (.int 1), .val (.int bc1), s10_0] [(.int bc1), (.ref mA)])) rfl rfl (hb hby d6_102)) ?_
          refine Goes.step (B := T88.setTop (mkF m 104 #[.val (.ref a1), .val (.int n), .val (.long rm), .second, .val (.int ft_0), .val (.long sp_0), .second, .val (.int fl_0), .val (.int 1), .val (.int bc1), s10_0] [(.long (mr1.toInt64))])) (fun _ k => XS.i2l X88.here hx rfl (hb hby d6_103) rfl k) ?_
          refine Goes.step (fun _ k => pw_lloadN X88.here hx (hb hby d6_104) rfl _ (pw_lload X88.here hx (hb hby d6_105) rfl _ k)) ?_
          refine Goes.step (B := T88.setTop (mkF m 108 #[.val (.ref a1), .val (.int n), .val (.long rm), .second, .val (.int ft_0), .val (.long sp_0), .second, .val (.int fl_0), .val (.int 1), .val (.int bc1), s10_0] [(.long (rm - sp_0)), (.long (mr1.toInt64))])) (fun _ k => XS.lsub X88.here hx rfl (hb hby d6_107) rfl k) ?_
          refine Goes.step (fun _ k => pw_aloadN X88.here hx (hb hby d6_108) rfl rfl _ k) ?_
          obtain ⟨T90, X90, e90, st90⟩ := getF X88 hx hZ hown (host := "") (Or.inl (own_w23 hw)) Via.refl e88 fj40_3 (g := (mkF m 109 #[.val (.ref a1), .val (.int n), .val (.long rm), .second, .val (.int ft_0), .val (.long sp_0), .second, .val (.int fl_0), .val (.int 1), .val (.int bc1), s10_0] [(.ref a1), (.long (rm - sp_0)), (.long (mr1.toInt64))])) rfl rfl (hb hby d6_109)
          refine Goes.step (B := T90.setTop (mkF m 112 #[.val (.ref a1), .val (.int n), .val (.long rm), .second, .val (.int ft_0), .val (.long sp_0), .second, .val (.int fl_0), .val (.int 1), .val (.int bc1), s10_0] [(.ref cA), (.long (rm - sp_0)), (.long (mr1.toInt64))])) st90 ?_
          refine Goes.step (fun _ k => pw_iload X90.here hx (hb hby d6_112) rfl _ k) ?_
          obtain ⟨c91, Ar91, -, Sz91, Nn91, Hs91, -⟩ := id fj40_8
          have hin91 : ¬ (bc1 < 0 ∨ c91.slots.size ≤ (bc1).toNatClampNeg) := inb_of Sz91 (own_gin pm1)
          refine Goes.step (B := T90.setTop (mkF m 115 #[.val (.ref a1), .val (.int n), .val (.long rm), .second, .val (.int ft_0), .val (.long sp_0), .second, .val (.int fl_0), .val (.int 1), .val (.int bc1), s10_0] [(.long cr1), (.long (rm - sp_0)), (.long (mr1.toInt64))])) (X90.laload hx (j := bc1) (v := (.long cr1)) (by rw [e90]; exact Ar91.1) (State.isArrayOf_alike hZ.alike Ar91.2.1) Ar91.2.2 hin91 (Has.at Hs91 hin91 ((own_getDL [ct0, ct1, ct2] _).trans (congrArg Value.long hcr1.symm))) (g := (mkF m 114 #[.val (.ref a1), .val (.int n), .val (.long rm), .second, .val (.int ft_0), .val (.long sp_0), .second, .val (.int fl_0), .val (.int 1), .val (.int bc1), s10_0] [(.int bc1), (.ref cA), (.long (rm - sp_0)), (.long (mr1.toInt64))])) rfl rfl (hb hby d6_114)) ?_
          refine Goes.step (B := T90.setTop (mkF m 116 #[.val (.ref a1), .val (.int n), .val (.long rm), .second, .val (.int ft_0), .val (.long sp_0), .second, .val (.int fl_0), .val (.int 1), .val (.int bc1), s10_0] [(.long ((rm - sp_0) / cr1)), (.long (mr1.toInt64))])) (fun _ k => XS.ldiv X90.here hx rfl (hb hby d6_115) rfl hc83_84 k) ?_
          obtain ⟨_, _, ⟨T92, L92, k92, n92⟩, -, X92, ⟨Lc92, hQ92, l92, y92, z92⟩, st92⟩ := Jvm.LawKit.callS X90 hx (y := (⟨"java/lang/Math", "min", "(JJ)J"⟩ : MethodName)) hown (mvT hZ (own_w100 hw)) (mvT hZ (own_w101 hw)) (mvT hZ (own_w92 hw)) (mvT hZ (own_w102 hw)) (by decide) (backOf (W := 0) (rm16 l Z a0 hw [] (mr1.toInt64) ((rm - sp_0) / cr1) Hj40 n0 Oj40 ) hZ (own_w102 hw) (own_w92 hw) (by decide) (by decide)) (g := (mkF m 116 #[.val (.ref a1), .val (.int n), .val (.long rm), .second, .val (.int ft_0), .val (.long sp_0), .second, .val (.int fl_0), .val (.int 1), .val (.int bc1), s10_0] [(.long ((rm - sp_0) / cr1)), (.long (mr1.toInt64))])) rfl (by rw [hml]; rfl) (argsL := [(.long (mr1.toInt64)), (.long ((rm - sp_0) / cr1))]) (rest := []) (lenOf pd_2 rfl) rfl (by show 2 * 0 + _ ≤ _; exact Nat.le_of_eq rfl) (hb hby d6_116) (fun _ _ => ⟨rfl, e90, (by decide : 0 + 0 ≤ _), (by decide : 0 + 0 ≤ _)⟩)
          dsimp only [Pt.U, Pt.locs, Pt.cells, Pt.slots] at X92 l92 y92 z92 st92 hQ92
          subst l92 y92 z92
          obtain ⟨rfl, Nq92, eh92⟩ := hQ92
          have N92 := Fr.app Nj40 Nq92
          refine Goes.step (B := T92.setTop (mkF m 119 #[.val (.ref a1), .val (.int n), .val (.long rm), .second, .val (.int ft_0), .val (.long sp_0), .second, .val (.int fl_0), .val (.int 1), .val (.int bc1), s10_0] [(.long (own_mnJ (mr1.toInt64) ((rm - sp_0) / cr1)))])) st92 ?_
          refine Goes.step (B := T92.setTop (mkF m 120 #[.val (.ref a1), .val (.int n), .val (.long rm), .second, .val (.int ft_0), .val (.long sp_0), .second, .val (.int fl_0), .val (.int 1), .val (.int bc1), s10_0] [(.int (own_mnJ (mr1.toInt64) ((rm - sp_0) / cr1)).toInt32)])) (fun _ k => XS.l2i X92.here hx rfl (hb hby d6_119) rfl k) ?_
          refine Goes.step (fun _ k => pw_istore X92.here hx (l' := #[.val (.ref a1), .val (.int n), .val (.long rm), .second, .val (.int ft_0), .val (.long sp_0), .second, .val (.int fl_0), .val (.int 1), .val (.int bc1), .val (.int (own_mnJ (mr1.toInt64) ((rm - sp_0) / cr1)).toInt32)]) (hb hby d6_120) (by rcases hJ40.2.2.2.2 with q | ⟨_, q⟩ <;> rw [q] <;> rfl) _ k) ?_
          exact J77 _ _ _ ((own_mnJ (mr1.toInt64) ((rm - sp_0) / cr1)).toInt32) X92 eh92 Oj40 N92 Kj40 fj40_0 fj40_1 fj40_2 fj40_3 fj40_4 fj40_5 fj40_6 fj40_7 fj40_8 fj40_9 (own_tk mc1 ck1 hc83_84 hJ40.2.2.1 hJ40.2.2.2.1 hr.2 rfl)
    · refine Goes.step (fun _ k => pw_ifYes X41.here hx (pc' := 170) (hb hby d6_52) ((if0 _ _).trans (feq hc52_42).2) (by decide) (by decide) _ k) ?_
      exact J2 _ _ _ ft_0 sp_0 fl_0 (1 : Int32) (.val (.int bc0)) s10_0 X41 e41 Oj40 Nj40 Kj40 fj40_0 fj40_1 fj40_2 fj40_3 fj40_4 fj40_5 fj40_6 fj40_7 fj40_8 fj40_9 ⟨hJ40.1, by have q := hJ40.2.1; omega⟩
   refine Goes.step (fun _ k => pw_aloadN X38.here hx (hb hby d6_64) rfl rfl _ k) ?_
   obtain ⟨T93, X93, e93, st93⟩ := getF X38 hx hZ hown (host := "") (Or.inl (own_w30 hw)) Via.refl e38 fj1_0 (g := (mkF m 65 #[.val (.ref a1), .val (.int n), .val (.long rm), .second, .val (.int 0), .val (.long 0), .second, .val (.int 0), .val (.int 0), .val (.int bc0), .unset] [(.ref a1)])) rfl rfl (hb hby d6_65)
   refine Goes.step (B := T93.setTop (mkF m 68 #[.val (.ref a1), .val (.int n), .val (.long rm), .second, .val (.int 0), .val (.long 0), .second, .val (.int 0), .val (.int 0), .val (.int bc0), .unset] [(.ref pbA)])) st93 ?_
   refine Goes.step (fun _ k => pw_iload X93.here hx (hb hby d6_68) rfl _ k) ?_
   obtain ⟨c94, Ar94, -, Sz94, Nn94, Hs94, -⟩ := id fj1_6
   have hin94 : ¬ (bc0 < 0 ∨ c94.slots.size ≤ (bc0).toNatClampNeg) := inb_of Sz94 (own_gin pm0)
   refine Goes.step (B := T93.setTop (mkF m 71 #[.val (.ref a1), .val (.int n), .val (.long rm), .second, .val (.int 0), .val (.long 0), .second, .val (.int 0), .val (.int 0), .val (.int bc0), .unset] [(.int (pl.getD bc0.toNatClampNeg 0))])) (X93.baloadBooleans hx (j := bc0) (v := (.int (pl.getD bc0.toNatClampNeg 0))) (by rw [e93]; exact Ar94.1) (State.isArrayOf_alike hZ.alike Ar94.2.1) Ar94.2.2 hin94 (Has.at Hs94 hin94 (own_getD pl _)) (g := (mkF m 70 #[.val (.ref a1), .val (.int n), .val (.long rm), .second, .val (.int 0), .val (.long 0), .second, .val (.int 0), .val (.int 0), .val (.int bc0), .unset] [(.int bc0), (.ref pbA)])) rfl rfl (hb hby d6_70)) ?_
   by_cases hc71_94 : (pl.getD bc0.toNatClampNeg 0) = (0 : Int32)
   · refine Goes.step (fun _ k => pw_ifYes X93.here hx (pc' := 164) (hb hby d6_71) ((if0 _ _).trans (teq hc71_94).1) (by decide) (by decide) _ k) ?_
     exact J40 _ _ _ (0 : Int32) (0 : Int64) (0 : Int32) .unset X93 e93 Oj1 Nj1 Kj1 fj1_0 fj1_1 fj1_2 fj1_3 fj1_4 fj1_5 fj1_6 fj1_7 fj1_8 fj1_9 ⟨by decide, by rw [own_i0]; omega, by decide, hr.1, Or.inl rfl⟩
   · refine Goes.step (fun _ k => pw_ifNo X93.here hx (hb hby d6_71) ((if0 _ _).trans (feq hc71_94).1) _ k) ?_
     obtain ⟨cr0, hcr0⟩ : ∃ z, z = ([ct0, ct1, ct2] : List Int64).getD bc0.toNatClampNeg 0 := ⟨_, rfl⟩
     obtain ⟨mr0, hmr0⟩ : ∃ z, z = ([mb0, mb1, mb2] : List Int32).getD bc0.toNatClampNeg 0 := ⟨_, rfl⟩
     have er0 : own_ef pl [mb0, mb1, mb2] bc0 = mr0.toInt := by rw [hmr0]; exact if_neg hc71_94
     have mc0 : 1 ≤ mr0.toInt ∧ mr0.toInt ≤ 4 := by rw [hmr0]; exact mm0
     have ck0 : 0 ≤ cr0.toInt ∧ cr0.toInt < 1099511627776 := by rw [hcr0]; exact cc0
     have J96 : ∀ (Tj96 : State) (Hj96 : Heap) (lj96 : List Loc) (tk_0 : Int32), Stand p l e ({ frames := 1, cells := 0, slots := 0, locals := 15 } : Room) s m #[(.ref a1), (.int n), (.long rm)] below meth c Tj96 lj96 0 0 → Tj96.heap = Hj96 → Old Z n0 Hj96 → Fr n0 lj96 → Keep h0 Hj96 [pbA] → Fld Z Hj96 a1 "com/example/errantry/errantry/staff/CompletionBounds" "pooled" "[Z" (.ref pbA) → Fld Z Hj96 a1 "com/example/errantry/errantry/staff/CompletionBounds" "pool" "[I" (.ref plA) → Fld Z Hj96 a1 "com/example/errantry/errantry/staff/CompletionBounds" "byCost" "[I" (.ref qA) → Fld Z Hj96 a1 "com/example/errantry/errantry/staff/CompletionBounds" "cost" "[J" (.ref cA) → Fld Z Hj96 a1 "com/example/errantry/errantry/staff/CompletionBounds" "members" "[I" (.ref mA) → Arv Z Hj96 plA kp .int (3 : Int32) [(.int x0), (.int x1), (.int x2)] (.int 0) → Arv Z Hj96 pbA kb .boolean (3 : Int32) (pl.map Value.int) (.int 0) → Arv Z Hj96 qA kq .int (3 : Int32) [(.int bc0), (.int bc1), (.int bc2)] (.int 0) → Arv Z Hj96 cA kC .long (3 : Int32) [(.long ct0), (.long ct1), (.long ct2)] (.long 0) → Arv Z Hj96 mA kM .int (3 : Int32) [(.int mb0), (.int mb1), (.int mb2)] (.int 0) → ((0 ≤ tk_0.toInt ∧ tk_0.toInt ≤ mr0.toInt) ∧ tk_0.toInt * cr0.toInt ≤ rm.toInt - (0 : Int64).toInt) → Goes p e below s (QMF Z a1 plA kp pbA kb qA kq cA kC mA kM ct0 ct1 ct2 mb0 mb1 mb2 bc0 bc1 bc2 x0 x1 x2 n rm h0 n0) ({ frames := 1, cells := 0, slots := 0, locals := 15 } : Room).cells ({ frames := 1, cells := 0, slots := 0, locals := 15 } : Room).slots (Tj96.setTop (mkF m 122 #[.val (.ref a1), .val (.int n), .val (.long rm), .second, .val (.int 0), .val (.long 0), .second, .val (.int 0), .val (.int 0), .val (.int bc0), .val (.int tk_0)] [])) := by
      intro Tj96 Hj96 lj96 tk_0 Xj96 ej96 Oj96 Nj96 Kj96 fj96_0 fj96_1 fj96_2 fj96_3 fj96_4 fj96_5 fj96_6 fj96_7 fj96_8 fj96_9 hJ96
      obtain ⟨tka0, tkb0⟩ := hJ96
      have q0 : (0 : Int32).toInt = 0 := by decide
      have tft0 : ((0 : Int32) + tk_0).toInt = (0 : Int32).toInt + tk_0.toInt := own_ad (by omega) (by omega)
      have spk0 := own_sp (sp := (0 : Int64)) (rm := rm) (tk := tk_0) ⟨tka0.1, by omega⟩ ck0 (by decide) hr.1 hr.2 tkb0
      refine Goes.step (fun _ k => pw_iload Xj96.here hx (hb hby d6_122) rfl _ (pw_iload Xj96.here hx (hb hby d6_124) rfl _ (pw_iadd Xj96.here hx (hb hby d6_126) _ (pw_istore Xj96.here hx (l' := #[.val (.ref a1), .val (.int n), .val (.long rm), .second, .val (.int ((0 : Int32) + tk_0)), .val (.long 0), .second, .val (.int 0), .val (.int 0), .val (.int bc0), .val (.int tk_0)]) (hb hby d6_127) rfl _ (pw_lload Xj96.here hx (hb hby d6_129) rfl _ (pw_iload Xj96.here hx (hb hby d6_131) rfl _ k)))))) ?_
      refine Goes.step (B := Tj96.setTop (mkF m 134 #[.val (.ref a1), .val (.int n), .val (.long rm), .second, .val (.int ((0 : Int32) + tk_0)), .val (.long 0), .second, .val (.int 0), .val (.int 0), .val (.int bc0), .val (.int tk_0)] [(.long (tk_0.toInt64)), (.long 0)])) (fun _ k => XS.i2l Xj96.here hx rfl (hb hby d6_133) rfl k) ?_
      refine Goes.step (fun _ k => pw_aloadN Xj96.here hx (hb hby d6_134) rfl rfl _ k) ?_
      obtain ⟨T97, X97, e97, st97⟩ := getF Xj96 hx hZ hown (host := "") (Or.inl (own_w23 hw)) Via.refl ej96 fj96_3 (g := (mkF m 135 #[.val (.ref a1), .val (.int n), .val (.long rm), .second, .val (.int ((0 : Int32) + tk_0)), .val (.long 0), .second, .val (.int 0), .val (.int 0), .val (.int bc0), .val (.int tk_0)] [(.ref a1), (.long (tk_0.toInt64)), (.long 0)])) rfl rfl (hb hby d6_135)
      refine Goes.step (B := T97.setTop (mkF m 138 #[.val (.ref a1), .val (.int n), .val (.long rm), .second, .val (.int ((0 : Int32) + tk_0)), .val (.long 0), .second, .val (.int 0), .val (.int 0), .val (.int bc0), .val (.int tk_0)] [(.ref cA), (.long (tk_0.toInt64)), (.long 0)])) st97 ?_
      refine Goes.step (fun _ k => pw_iload X97.here hx (hb hby d6_138) rfl _ k) ?_
      obtain ⟨c98, Ar98, -, Sz98, Nn98, Hs98, -⟩ := id fj96_8
      have hin98 : ¬ (bc0 < 0 ∨ c98.slots.size ≤ (bc0).toNatClampNeg) := inb_of Sz98 (own_gin pm0)
      refine Goes.step (B := T97.setTop (mkF m 141 #[.val (.ref a1), .val (.int n), .val (.long rm), .second, .val (.int ((0 : Int32) + tk_0)), .val (.long 0), .second, .val (.int 0), .val (.int 0), .val (.int bc0), .val (.int tk_0)] [(.long cr0), (.long (tk_0.toInt64)), (.long 0)])) (X97.laload hx (j := bc0) (v := (.long cr0)) (by rw [e97]; exact Ar98.1) (State.isArrayOf_alike hZ.alike Ar98.2.1) Ar98.2.2 hin98 (Has.at Hs98 hin98 ((own_getDL [ct0, ct1, ct2] _).trans (congrArg Value.long hcr0.symm))) (g := (mkF m 140 #[.val (.ref a1), .val (.int n), .val (.long rm), .second, .val (.int ((0 : Int32) + tk_0)), .val (.long 0), .second, .val (.int 0), .val (.int 0), .val (.int bc0), .val (.int tk_0)] [(.int bc0), (.ref cA), (.long (tk_0.toInt64)), (.long 0)])) rfl rfl (hb hby d6_140)) ?_
      refine Goes.step (B := T97.setTop (mkF m 142 #[.val (.ref a1), .val (.int n), .val (.long rm), .second, .val (.int ((0 : Int32) + tk_0)), .val (.long 0), .second, .val (.int 0), .val (.int 0), .val (.int bc0), .val (.int tk_0)] [(.long ((tk_0.toInt64) * cr0)), (.long 0)])) (fun _ k => XS.lmul X97.here hx rfl (hb hby d6_141) rfl k) ?_
      refine Goes.step (B := T97.setTop (mkF m 143 #[.val (.ref a1), .val (.int n), .val (.long rm), .second, .val (.int ((0 : Int32) + tk_0)), .val (.long 0), .second, .val (.int 0), .val (.int 0), .val (.int bc0), .val (.int tk_0)] [(.long ((0 : Int64) + ((tk_0.toInt64) * cr0)))])) (fun _ k => XS.ladd X97.here hx rfl (hb hby d6_142) rfl k) ?_
      refine Goes.step (fun _ k => pw_lstore X97.here hx (l' := #[.val (.ref a1), .val (.int n), .val (.long rm), .second, .val (.int ((0 : Int32) + tk_0)), .val (.long ((0 : Int64) + ((tk_0.toInt64) * cr0))), .second, .val (.int 0), .val (.int 0), .val (.int bc0), .val (.int tk_0)]) (hb hby d6_143) rfl _ (pw_iload X97.here hx (hb hby d6_145) rfl _ (pw_aloadN X97.here hx (hb hby d6_147) rfl rfl _ k))) ?_
      obtain ⟨T99, X99, e99, st99⟩ := getF X97 hx hZ hown (host := "") (Or.inl (own_w25 hw)) Via.refl e97 fj96_4 (g := (mkF m 148 #[.val (.ref a1), .val (.int n), .val (.long rm), .second, .val (.int ((0 : Int32) + tk_0)), .val (.long ((0 : Int64) + ((tk_0.toInt64) * cr0))), .second, .val (.int 0), .val (.int 0), .val (.int bc0), .val (.int tk_0)] [(.ref a1), (.int tk_0)])) rfl rfl (hb hby d6_148)
      refine Goes.step (B := T99.setTop (mkF m 151 #[.val (.ref a1), .val (.int n), .val (.long rm), .second, .val (.int ((0 : Int32) + tk_0)), .val (.long ((0 : Int64) + ((tk_0.toInt64) * cr0))), .second, .val (.int 0), .val (.int 0), .val (.int bc0), .val (.int tk_0)] [(.ref mA), (.int tk_0)])) st99 ?_
      refine Goes.step (fun _ k => pw_iload X99.here hx (hb hby d6_151) rfl _ k) ?_
      obtain ⟨c100, Ar100, -, Sz100, Nn100, Hs100, -⟩ := id fj96_9
      have hin100 : ¬ (bc0 < 0 ∨ c100.slots.size ≤ (bc0).toNatClampNeg) := inb_of Sz100 (own_gin pm0)
      refine Goes.step (B := T99.setTop (mkF m 154 #[.val (.ref a1), .val (.int n), .val (.long rm), .second, .val (.int ((0 : Int32) + tk_0)), .val (.long ((0 : Int64) + ((tk_0.toInt64) * cr0))), .second, .val (.int 0), .val (.int 0), .val (.int bc0), .val (.int tk_0)] [(.int mr0), (.int tk_0)])) (X99.iaload hx (j := bc0) (v := (.int mr0)) (by rw [e99]; exact Ar100.1) (State.isArrayOf_alike hZ.alike Ar100.2.1) Ar100.2.2 hin100 (Has.at Hs100 hin100 ((own_getD [mb0, mb1, mb2] _).trans (congrArg Value.int hmr0.symm))) (g := (mkF m 153 #[.val (.ref a1), .val (.int n), .val (.long rm), .second, .val (.int ((0 : Int32) + tk_0)), .val (.long ((0 : Int64) + ((tk_0.toInt64) * cr0))), .second, .val (.int 0), .val (.int 0), .val (.int bc0), .val (.int tk_0)] [(.int bc0), (.ref mA), (.int tk_0)])) rfl rfl (hb hby d6_153)) ?_
      by_cases hc154_100 : tk_0 < mr0
      · refine Goes.step (fun _ k => pw_icmpNo X99.here hx (hb hby d6_154) (tlt hc154_100).2.1 _ (pw_iconst X99.here hx (v := (1 : Int32)) (hb hby d6_157) rfl _ (pw_goto X99.here hx (pc' := 162) (hb hby d6_158) (by decide) (by decide) _ (pw_istore X99.here hx (l' := #[.val (.ref a1), .val (.int n), .val (.long rm), .second, .val (.int ((0 : Int32) + tk_0)), .val (.long ((0 : Int64) + ((tk_0.toInt64) * cr0))), .second, .val (.int 1), .val (.int 0), .val (.int bc0), .val (.int tk_0)]) (hb hby d6_162) rfl _ k)))) ?_
        exact J40 _ _ _ ((0 : Int32) + tk_0) ((0 : Int64) + ((tk_0.toInt64) * cr0)) (1 : Int32) (.val (.int tk_0)) X99 e99 Oj96 Nj96 Kj96 fj96_0 fj96_1 fj96_2 fj96_3 fj96_4 fj96_5 fj96_6 fj96_7 fj96_8 fj96_9 ⟨by rw [tft0]; omega, by rw [tft0]; omega, spk0.1, spk0.2, Or.inr ⟨_, rfl⟩⟩
      · refine Goes.step (fun _ k => pw_icmpYes X99.here hx (pc' := 161) (hb hby d6_154) (flt hc154_100).2.1 (by decide) (by decide) _ (pw_iconst X99.here hx (v := (0 : Int32)) (hb hby d6_161) rfl _ (pw_istore X99.here hx (l' := #[.val (.ref a1), .val (.int n), .val (.long rm), .second, .val (.int ((0 : Int32) + tk_0)), .val (.long ((0 : Int64) + ((tk_0.toInt64) * cr0))), .second, .val (.int 0), .val (.int 0), .val (.int bc0), .val (.int tk_0)]) (hb hby d6_162) rfl _ k))) ?_
        exact J40 _ _ _ ((0 : Int32) + tk_0) ((0 : Int64) + ((tk_0.toInt64) * cr0)) (0 : Int32) (.val (.int tk_0)) X99 e99 Oj96 Nj96 Kj96 fj96_0 fj96_1 fj96_2 fj96_3 fj96_4 fj96_5 fj96_6 fj96_7 fj96_8 fj96_9 ⟨by rw [tft0]; omega, by rw [tft0]; omega, spk0.1, spk0.2, Or.inr ⟨_, rfl⟩⟩
     refine Goes.step (fun _ k => pw_aloadN X93.here hx (hb hby d6_74) rfl rfl _ k) ?_
     obtain ⟨T102, X102, e102, st102⟩ := getF X93 hx hZ hown (host := "") (Or.inl (own_w23 hw)) Via.refl e93 fj1_3 (g := (mkF m 75 #[.val (.ref a1), .val (.int n), .val (.long rm), .second, .val (.int 0), .val (.long 0), .second, .val (.int 0), .val (.int 0), .val (.int bc0), .unset] [(.ref a1)])) rfl rfl (hb hby d6_75)
     refine Goes.step (B := T102.setTop (mkF m 78 #[.val (.ref a1), .val (.int n), .val (.long rm), .second, .val (.int 0), .val (.long 0), .second, .val (.int 0), .val (.int 0), .val (.int bc0), .unset] [(.ref cA)])) st102 ?_
     refine Goes.step (fun _ k => pw_iload X102.here hx (hb hby d6_78) rfl _ k) ?_
     obtain ⟨c103, Ar103, -, Sz103, Nn103, Hs103, -⟩ := id fj1_8
     have hin103 : ¬ (bc0 < 0 ∨ c103.slots.size ≤ (bc0).toNatClampNeg) := inb_of Sz103 (own_gin pm0)
     refine Goes.step (B := T102.setTop (mkF m 81 #[.val (.ref a1), .val (.int n), .val (.long rm), .second, .val (.int 0), .val (.long 0), .second, .val (.int 0), .val (.int 0), .val (.int bc0), .unset] [(.long cr0)])) (X102.laload hx (j := bc0) (v := (.long cr0)) (by rw [e102]; exact Ar103.1) (State.isArrayOf_alike hZ.alike Ar103.2.1) Ar103.2.2 hin103 (Has.at Hs103 hin103 ((own_getDL [ct0, ct1, ct2] _).trans (congrArg Value.long hcr0.symm))) (g := (mkF m 80 #[.val (.ref a1), .val (.int n), .val (.long rm), .second, .val (.int 0), .val (.long 0), .second, .val (.int 0), .val (.int 0), .val (.int bc0), .unset] [(.int bc0), (.ref cA)])) rfl rfl (hb hby d6_80)) ?_
     refine Goes.step (B := T102.setTop (mkF m 82 #[.val (.ref a1), .val (.int n), .val (.long rm), .second, .val (.int 0), .val (.long 0), .second, .val (.int 0), .val (.int 0), .val (.int bc0), .unset] [(.long 0), (.long cr0)])) (fun _ k => XS.lconst X102.here hx rfl (hb hby d6_81) k) ?_
     refine Goes.step (B := T102.setTop (mkF m 83 #[.val (.ref a1), .val (.int n), .val (.long rm), .second, .val (.int 0), .val (.long 0), .second, .val (.int 0), .val (.int 0), .val (.int bc0), .unset] [(.int (lcmpW cr0 (0 : Int64)))])) (fun _ k => XS.lcmp X102.here hx rfl (hb hby d6_82) rfl k) ?_
     by_cases hc83_103 : cr0 = (0 : Int64)
     · refine Goes.step (fun _ k => pw_ifNo X102.here hx (hb hby d6_83) ((if0 _ _).trans (teq ((lw_eq _ _).mpr hc83_103)).2) _ (pw_aloadN X102.here hx (hb hby d6_86) rfl rfl _ k)) ?_
       obtain ⟨T105, X105, e105, st105⟩ := getF X102 hx hZ hown (host := "") (Or.inl (own_w25 hw)) Via.refl e102 fj1_4 (g := (mkF m 87 #[.val (.ref a1), .val (.int n), .val (.long rm), .second, .val (.int 0), .val (.long 0), .second, .val (.int 0), .val (.int 0), .val (.int bc0), .unset] [(.ref a1)])) rfl rfl (hb hby d6_87)
       refine Goes.step (B := T105.setTop (mkF m 90 #[.val (.ref a1), .val (.int n), .val (.long rm), .second, .val (.int 0), .val (.long 0), .second, .val (.int 0), .val (.int 0), .val (.int bc0), .unset] [(.ref mA)])) st105 ?_
       refine Goes.step (fun _ k => pw_iload X105.here hx (hb hby d6_90) rfl _ k) ?_
       obtain ⟨c106, Ar106, -, Sz106, Nn106, Hs106, -⟩ := id fj1_9
       have hin106 : ¬ (bc0 < 0 ∨ c106.slots.size ≤ (bc0).toNatClampNeg) := inb_of Sz106 (own_gin pm0)
       refine Goes.step (B := T105.setTop (mkF m 93 #[.val (.ref a1), .val (.int n), .val (.long rm), .second, .val (.int 0), .val (.long 0), .second, .val (.int 0), .val (.int 0), .val (.int bc0), .unset] [(.int mr0)])) (X105.iaload hx (j := bc0) (v := (.int mr0)) (by rw [e105]; exact Ar106.1) (State.isArrayOf_alike hZ.alike Ar106.2.1) Ar106.2.2 hin106 (Has.at Hs106 hin106 ((own_getD [mb0, mb1, mb2] _).trans (congrArg Value.int hmr0.symm))) (g := (mkF m 92 #[.val (.ref a1), .val (.int n), .val (.long rm), .second, .val (.int 0), .val (.long 0), .second, .val (.int 0), .val (.int 0), .val (.int bc0), .unset] [(.int bc0), (.ref mA)])) rfl rfl (hb hby d6_92)) ?_
       refine Goes.step (fun _ k => pw_goto X105.here hx (pc' := 120) (hb hby d6_93) (by decide) (by decide) _ (pw_istore X105.here hx (l' := #[.val (.ref a1), .val (.int n), .val (.long rm), .second, .val (.int 0), .val (.long 0), .second, .val (.int 0), .val (.int 0), .val (.int bc0), .val (.int mr0)]) (hb hby d6_120) rfl _ k)) ?_
       exact J96 _ _ _ mr0 X105 e105 Oj1 Nj1 Kj1 fj1_0 fj1_1 fj1_2 fj1_3 fj1_4 fj1_5 fj1_6 fj1_7 fj1_8 fj1_9 (own_tk0 mc0 hc83_103 hr.1)
     · refine Goes.step (fun _ k => pw_ifYes X102.here hx (pc' := 96) (hb hby d6_83) ((if0 _ _).trans (feq (fun q => hc83_103 ((lw_eq _ _).mp q))).2) (by decide) (by decide) _ (pw_aloadN X102.here hx (hb hby d6_96) rfl rfl _ k)) ?_
       obtain ⟨T107, X107, e107, st107⟩ := getF X102 hx hZ hown (host := "") (Or.inl (own_w25 hw)) Via.refl e102 fj1_4 (g := (mkF m 97 #[.val (.ref a1), .val (.int n), .val (.long rm), .second, .val (.int 0), .val (.long 0), .second, .val (.int 0), .val (.int 0), .val (.int bc0), .unset] [(.ref a1)])) rfl rfl (hb hby d6_97)
       refine Goes.step (B := T107.setTop (mkF m 100 #[.val (.ref a1), .val (.int n), .val (.long rm), .second, .val (.int 0), .val (.long 0), .second, .val (.int 0), .val (.int 0), .val (.int bc0), .unset] [(.ref mA)])) st107 ?_
       refine Goes.step (fun _ k => pw_iload X107.here hx (hb hby d6_100) rfl _ k) ?_
       obtain ⟨c108, Ar108, -, Sz108, Nn108, Hs108, -⟩ := id fj1_9
       have hin108 : ¬ (bc0 < 0 ∨ c108.slots.size ≤ (bc0).toNatClampNeg) := inb_of Sz108 (own_gin pm0)
       refine Goes.step (B := T107.setTop (mkF m 103 #[.val (.ref a1), .val (.int n), .val (.long rm), .second, .val (.int 0), .val (.long 0), .second, .val (.int 0), .val (.int 0), .val (.int bc0), .unset] [(.int mr0)])) (X107.iaload hx (j := bc0) (v := (.int mr0)) (by rw [e107]; exact Ar108.1) (State.isArrayOf_alike hZ.alike Ar108.2.1) Ar108.2.2 hin108 (Has.at Hs108 hin108 ((own_getD [mb0, mb1, mb2] _).trans (congrArg Value.int hmr0.symm))) (g := (mkF m 102 #[.val (.ref a1), .val (.int n), .val (.long rm), .second, .val (.int 0), .val (.long 0), .second, .val (.int 0), .val (.int 0), .val (.int bc0), .unset] [(.int bc0), (.ref mA)])) rfl rfl (hb hby d6_102)) ?_
       refine Goes.step (B := T107.setTop (mkF m 104 #[.val (.ref a1), .val (.int n), .val (.long rm), .second, .val (.int 0), .val (.long 0), .second, .val (.int 0), .val (.int 0), .val (.int bc0), .unset] [(.long (mr0.toInt64))])) (fun _ k => XS.i2l X107.here hx rfl (hb hby d6_103) rfl k) ?_
       refine Goes.step (fun _ k => pw_lloadN X107.here hx (hb hby d6_104) rfl _ (pw_lload X107.here hx (hb hby d6_105) rfl _ k)) ?_
       refine Goes.step (B := T107.setTop (mkF m 108 #[.val (.ref a1), .val (.int n), .val (.long rm), .second, .val (.int 0), .val (.long 0), .second, .val (.int 0), .val (.int 0), .val (.int bc0), .unset] [(.long (rm - (0 : Int64))), (.long (mr0.toInt64))])) (fun _ k => XS.lsub X107.here hx rfl (hb hby d6_107) rfl k) ?_
       refine Goes.step (fun _ k => pw_aloadN X107.here hx (hb hby d6_108) rfl rfl _ k) ?_
       obtain ⟨T109, X109, e109, st109⟩ := getF X107 hx hZ hown (host := "") (Or.inl (own_w23 hw)) Via.refl e107 fj1_3 (g := (mkF m 109 #[.val (.ref a1), .val (.int n), .val (.long rm), .second, .val (.int 0), .val (.long 0), .second, .val (.int 0), .val (.int 0), .val (.int bc0), .unset] [(.ref a1), (.long (rm - (0 : Int64))), (.long (mr0.toInt64))])) rfl rfl (hb hby d6_109)
       refine Goes.step (B := T109.setTop (mkF m 112 #[.val (.ref a1), .val (.int n), .val (.long rm), .second, .val (.int 0), .val (.long 0), .second, .val (.int 0), .val (.int 0), .val (.int bc0), .unset] [(.ref cA), (.long (rm - (0 : Int64))), (.long (mr0.toInt64))])) st109 ?_
       refine Goes.step (fun _ k => pw_iload X109.here hx (hb hby d6_112) rfl _ k) ?_
       obtain ⟨c110, Ar110, -, Sz110, Nn110, Hs110, -⟩ := id fj1_8
       have hin110 : ¬ (bc0 < 0 ∨ c110.slots.size ≤ (bc0).toNatClampNeg) := inb_of Sz110 (own_gin pm0)
       refine Goes.step (B := T109.setTop (mkF m 115 #[.val (.ref a1), .val (.int n), .val (.long rm), .second, .val (.int 0), .val (.long 0), .second, .val (.int 0), .val (.int 0), .val (.int bc0), .unset] [(.long cr0), (.long (rm - (0 : Int64))), (.long (mr0.toInt64))])) (X109.laload hx (j := bc0) (v := (.long cr0)) (by rw [e109]; exact Ar110.1) (State.isArrayOf_alike hZ.alike Ar110.2.1) Ar110.2.2 hin110 (Has.at Hs110 hin110 ((own_getDL [ct0, ct1, ct2] _).trans (congrArg Value.long hcr0.symm))) (g := (mkF m 114 #[.val (.ref a1), .val (.int n), .val (.long rm), .second, .val (.int 0), .val (.long 0), .second, .val (.int 0), .val (.int 0), .val (.int bc0), .unset] [(.int bc0), (.ref cA), (.long (rm - (0 : Int64))), (.long (mr0.toInt64))])) rfl rfl (hb hby d6_114)) ?_
       refine Goes.step (B := T109.setTop (mkF m 116 #[.val (.ref a1), .val (.int n), .val (.long rm), .second, .val (.int 0), .val (.long 0), .second, .val (.int 0), .val (.int 0), .val (.int bc0), .unset] [(.long ((rm - (0 : Int64)) / cr0)), (.long (mr0.toInt64))])) (fun _ k => XS.ldiv X109.here hx rfl (hb hby d6_115) rfl hc83_103 k) ?_
       obtain ⟨_, _, ⟨T111, L111, k111, n111⟩, -, X111, ⟨Lc111, hQ111, l111, y111, z111⟩, st111⟩ := Jvm.LawKit.callS X109 hx (y := (⟨"java/lang/Math", "min", "(JJ)J"⟩ : MethodName)) hown (mvT hZ (own_w100 hw)) (mvT hZ (own_w101 hw)) (mvT hZ (own_w92 hw)) (mvT hZ (own_w102 hw)) (by decide) (backOf (W := 0) (rm16 l Z a0 hw [] (mr0.toInt64) ((rm - (0 : Int64)) / cr0) Hj1 n0 Oj1 ) hZ (own_w102 hw) (own_w92 hw) (by decide) (by decide)) (g := (mkF m 116 #[.val (.ref a1), .val (.int n), .val (.long rm), .second, .val (.int 0), .val (.long 0), .second, .val (.int 0), .val (.int 0), .val (.int bc0), .unset] [(.long ((rm - (0 : Int64)) / cr0)), (.long (mr0.toInt64))])) rfl (by rw [hml]; rfl) (argsL := [(.long (mr0.toInt64)), (.long ((rm - (0 : Int64)) / cr0))]) (rest := []) (lenOf pd_2 rfl) rfl (by show 2 * 0 + _ ≤ _; exact Nat.le_of_eq rfl) (hb hby d6_116) (fun _ _ => ⟨rfl, e109, (by decide : 0 + 0 ≤ _), (by decide : 0 + 0 ≤ _)⟩)
       dsimp only [Pt.U, Pt.locs, Pt.cells, Pt.slots] at X111 l111 y111 z111 st111 hQ111
       subst l111 y111 z111
       obtain ⟨rfl, Nq111, eh111⟩ := hQ111
       have N111 := Fr.app Nj1 Nq111
       refine Goes.step (B := T111.setTop (mkF m 119 #[.val (.ref a1), .val (.int n), .val (.long rm), .second, .val (.int 0), .val (.long 0), .second, .val (.int 0), .val (.int 0), .val (.int bc0), .unset] [(.long (own_mnJ (mr0.toInt64) ((rm - (0 : Int64)) / cr0)))])) st111 ?_
       refine Goes.step (B := T111.setTop (mkF m 120 #[.val (.ref a1), .val (.int n), .val (.long rm), .second, .val (.int 0), .val (.long 0), .second, .val (.int 0), .val (.int 0), .val (.int bc0), .unset] [(.int (own_mnJ (mr0.toInt64) ((rm - (0 : Int64)) / cr0)).toInt32)])) (fun _ k => XS.l2i X111.here hx rfl (hb hby d6_119) rfl k) ?_
       refine Goes.step (fun _ k => pw_istore X111.here hx (l' := #[.val (.ref a1), .val (.int n), .val (.long rm), .second, .val (.int 0), .val (.long 0), .second, .val (.int 0), .val (.int 0), .val (.int bc0), .val (.int (own_mnJ (mr0.toInt64) ((rm - (0 : Int64)) / cr0)).toInt32)]) (hb hby d6_120) rfl _ k) ?_
       exact J96 _ _ _ ((own_mnJ (mr0.toInt64) ((rm - (0 : Int64)) / cr0)).toInt32) X111 eh111 Oj1 N111 Kj1 fj1_0 fj1_1 fj1_2 fj1_3 fj1_4 fj1_5 fj1_6 fj1_7 fj1_8 fj1_9 (own_tk mc0 ck0 hc83_103 (by decide) hr.1 hr.2 rfl)
  rcases own_n4c hn with rfl | rfl | rfl | rfl
  · refine Goes.step (fun _ k => pw_iconst X0.here hx (v := (0 : Int32)) (hb hby d6_0) rfl _ (pw_istore X0.here hx (l' := #[.val (.ref a1), .val (.int 0), .val (.long rm), .second, .val (.int 0), .unset, .unset, .unset, .unset, .unset, .unset]) (hb hby d6_1) rfl _ (pw_iload X0.here hx (hb hby d6_3) rfl _ (pw_iloadN X0.here hx (hb hby d6_5) rfl _ (pw_icmpYes X0.here hx (pc' := 28) (hb hby d6_6) (flt (by decide)).2.1 (by decide) (by decide) _ k))))) ?_
    exact J1 _ _ _ ([0, 0, 0] : List Int32) X0 e0 O0 N0 (Keep.refl h0 [pbA]) Fpb Fpl Fbc Fc Fm Vpl Vpb Vbc VC VM (own_plo0)
  · refine Goes.step (fun _ k => pw_iconst X0.here hx (v := (0 : Int32)) (hb hby d6_0) rfl _ (pw_istore X0.here hx (l' := #[.val (.ref a1), .val (.int 1), .val (.long rm), .second, .val (.int 0), .unset, .unset, .unset, .unset, .unset, .unset]) (hb hby d6_1) rfl _ (pw_iload X0.here hx (hb hby d6_3) rfl _ (pw_iloadN X0.here hx (hb hby d6_5) rfl _ (pw_icmpNo X0.here hx (hb hby d6_6) (tlt (by decide)).2.1 _ (pw_aloadN X0.here hx (hb hby d6_9) rfl rfl _ k)))))) ?_
    obtain ⟨T112, X112, e112, st112⟩ := getF X0 hx hZ hown (host := "") (Or.inl (own_w30 hw)) Via.refl e0 Fpb (g := (mkF m 10 #[.val (.ref a1), .val (.int 1), .val (.long rm), .second, .val (.int 0), .unset, .unset, .unset, .unset, .unset, .unset] [(.ref a1)])) rfl rfl (hb hby d6_10)
    refine Goes.step (B := T112.setTop (mkF m 13 #[.val (.ref a1), .val (.int 1), .val (.long rm), .second, .val (.int 0), .unset, .unset, .unset, .unset, .unset, .unset] [(.ref pbA)])) st112 ?_
    refine Goes.step (fun _ k => pw_aloadN X112.here hx (hb hby d6_13) rfl rfl _ k) ?_
    obtain ⟨T113, X113, e113, st113⟩ := getF X112 hx hZ hown (host := "") (Or.inl (own_w32 hw)) Via.refl e112 Fpl (g := (mkF m 14 #[.val (.ref a1), .val (.int 1), .val (.long rm), .second, .val (.int 0), .unset, .unset, .unset, .unset, .unset, .unset] [(.ref a1), (.ref pbA)])) rfl rfl (hb hby d6_14)
    refine Goes.step (B := T113.setTop (mkF m 17 #[.val (.ref a1), .val (.int 1), .val (.long rm), .second, .val (.int 0), .unset, .unset, .unset, .unset, .unset, .unset] [(.ref plA), (.ref pbA)])) st113 ?_
    refine Goes.step (fun _ k => pw_iload X113.here hx (hb hby d6_17) rfl _ k) ?_
    obtain ⟨c114, Ar114, -, Sz114, Nn114, Hs114, -⟩ := id Vpl
    have hin114 : ¬ ((0 : Int32) < 0 ∨ c114.slots.size ≤ ((0 : Int32)).toNatClampNeg) := inb_of Sz114 ⟨by decide, by decide⟩
    refine Goes.step (B := T113.setTop (mkF m 20 #[.val (.ref a1), .val (.int 1), .val (.long rm), .second, .val (.int 0), .unset, .unset, .unset, .unset, .unset, .unset] [(.int x0), (.ref pbA)])) (X113.iaload hx (j := (0 : Int32)) (v := (.int x0)) (by rw [e113]; exact Ar114.1) (State.isArrayOf_alike hZ.alike Ar114.2.1) Ar114.2.2 hin114 (Has.at Hs114 hin114 rfl) (g := (mkF m 19 #[.val (.ref a1), .val (.int 1), .val (.long rm), .second, .val (.int 0), .unset, .unset, .unset, .unset, .unset, .unset] [(.int 0), (.ref plA), (.ref pbA)])) rfl rfl (hb hby d6_19)) ?_
    refine Goes.step (fun _ k => pw_iconst X113.here hx (v := (1 : Int32)) (hb hby d6_20) rfl _ k) ?_
    obtain ⟨c115, Ar115, q115, Sz115, Nn115, Hs115, Gs115⟩ := id Vpb
    have hin115 : ¬ (x0 < 0 ∨ c115.slots.size ≤ (x0).toNatClampNeg) := inb_of Sz115 (own_gin (hx0 (by decide)))
    obtain ⟨T115, h115, X115, e115, W115, st115⟩ := stZ X113 hx hZ e113 Ar115 (j := x0) hin115 (g := (mkF m 21 #[.val (.ref a1), .val (.int 1), .val (.long rm), .second, .val (.int 0), .unset, .unset, .unset, .unset, .unset, .unset] [(.int 1), (.int x0), (.ref pbA)])) rfl rfl (hb hby d6_21)
    have V115 : Arv Z h115 pbA kb .boolean (3 : Int32) ((([0, 0, 0] : List Int32).map Value.int).set (x0).toNatClampNeg (.int 1)) (.int 0) := Arv.set Ar115 q115 Sz115 Nn115 Hs115 Gs115 (by decide) W115 _ rfl (by have q := own_nat (hx0 (by decide)).1; have q2 := (hx0 (by decide)).2; rw [List.length_map]; (try simp only [List.length_set]); show _ < 3; omega)
    rw [own_setI] at V115
    have N115 := Fr.snoc X115 N0 gp
    have O_115 := O0.wr W115 gp
    have K_115 := (Keep.refl h0 [pbA]).wr W115 (Or.inl (List.mem_of_getElem? (i := 0) rfl))
    refine Goes.step (B := T115.setTop (mkF m 22 #[.val (.ref a1), .val (.int 1), .val (.long rm), .second, .val (.int 0), .unset, .unset, .unset, .unset, .unset, .unset] [])) st115 ?_
    refine Goes.step (fun _ k => pw_iinc X115.here hx (l' := #[.val (.ref a1), .val (.int 1), .val (.long rm), .second, .val (.int 1), .unset, .unset, .unset, .unset, .unset, .unset]) (hb hby d6_22) rfl rfl _ (pw_goto X115.here hx (pc' := 3) (hb hby d6_25) (by decide) (by decide) _ (pw_iload X115.here hx (hb hby d6_3) rfl _ (pw_iloadN X115.here hx (hb hby d6_5) rfl _ (pw_icmpYes X115.here hx (pc' := 28) (hb hby d6_6) (flt (by decide)).2.1 (by decide) (by decide) _ k))))) ?_
    have f116 := (Fpb.other W115 (Or.inl na))
    have f117 := (Fpl.other W115 (Or.inl na))
    have f118 := (Fbc.other W115 (Or.inl na))
    have f119 := (Fc.other W115 (Or.inl na))
    have f120 := (Fm.other W115 (Or.inl na))
    have f121 := (Vpl.other W115 npl)
    have f122 := (Vbc.other W115 nq)
    have f123 := (VC.other W115 nc)
    have f124 := (VM.other W115 nm)
    exact J1 _ _ _ (([0, 0, 0] : List Int32).set x0.toNatClampNeg 1) X115 e115 O_115 N115 K_115 f116 f117 f118 f119 f120 f121 V115 f122 f123 f124 (own_plo1 (hx0 (by decide)))
  · refine Goes.step (fun _ k => pw_iconst X0.here hx (v := (0 : Int32)) (hb hby d6_0) rfl _ (pw_istore X0.here hx (l' := #[.val (.ref a1), .val (.int 2), .val (.long rm), .second, .val (.int 0), .unset, .unset, .unset, .unset, .unset, .unset]) (hb hby d6_1) rfl _ (pw_iload X0.here hx (hb hby d6_3) rfl _ (pw_iloadN X0.here hx (hb hby d6_5) rfl _ (pw_icmpNo X0.here hx (hb hby d6_6) (tlt (by decide)).2.1 _ (pw_aloadN X0.here hx (hb hby d6_9) rfl rfl _ k)))))) ?_
    obtain ⟨T125, X125, e125, st125⟩ := getF X0 hx hZ hown (host := "") (Or.inl (own_w30 hw)) Via.refl e0 Fpb (g := (mkF m 10 #[.val (.ref a1), .val (.int 2), .val (.long rm), .second, .val (.int 0), .unset, .unset, .unset, .unset, .unset, .unset] [(.ref a1)])) rfl rfl (hb hby d6_10)
    refine Goes.step (B := T125.setTop (mkF m 13 #[.val (.ref a1), .val (.int 2), .val (.long rm), .second, .val (.int 0), .unset, .unset, .unset, .unset, .unset, .unset] [(.ref pbA)])) st125 ?_
    refine Goes.step (fun _ k => pw_aloadN X125.here hx (hb hby d6_13) rfl rfl _ k) ?_
    obtain ⟨T126, X126, e126, st126⟩ := getF X125 hx hZ hown (host := "") (Or.inl (own_w32 hw)) Via.refl e125 Fpl (g := (mkF m 14 #[.val (.ref a1), .val (.int 2), .val (.long rm), .second, .val (.int 0), .unset, .unset, .unset, .unset, .unset, .unset] [(.ref a1), (.ref pbA)])) rfl rfl (hb hby d6_14)
    refine Goes.step (B := T126.setTop (mkF m 17 #[.val (.ref a1), .val (.int 2), .val (.long rm), .second, .val (.int 0), .unset, .unset, .unset, .unset, .unset, .unset] [(.ref plA), (.ref pbA)])) st126 ?_
    refine Goes.step (fun _ k => pw_iload X126.here hx (hb hby d6_17) rfl _ k) ?_
    obtain ⟨c127, Ar127, -, Sz127, Nn127, Hs127, -⟩ := id Vpl
    have hin127 : ¬ ((0 : Int32) < 0 ∨ c127.slots.size ≤ ((0 : Int32)).toNatClampNeg) := inb_of Sz127 ⟨by decide, by decide⟩
    refine Goes.step (B := T126.setTop (mkF m 20 #[.val (.ref a1), .val (.int 2), .val (.long rm), .second, .val (.int 0), .unset, .unset, .unset, .unset, .unset, .unset] [(.int x0), (.ref pbA)])) (X126.iaload hx (j := (0 : Int32)) (v := (.int x0)) (by rw [e126]; exact Ar127.1) (State.isArrayOf_alike hZ.alike Ar127.2.1) Ar127.2.2 hin127 (Has.at Hs127 hin127 rfl) (g := (mkF m 19 #[.val (.ref a1), .val (.int 2), .val (.long rm), .second, .val (.int 0), .unset, .unset, .unset, .unset, .unset, .unset] [(.int 0), (.ref plA), (.ref pbA)])) rfl rfl (hb hby d6_19)) ?_
    refine Goes.step (fun _ k => pw_iconst X126.here hx (v := (1 : Int32)) (hb hby d6_20) rfl _ k) ?_
    obtain ⟨c128, Ar128, q128, Sz128, Nn128, Hs128, Gs128⟩ := id Vpb
    have hin128 : ¬ (x0 < 0 ∨ c128.slots.size ≤ (x0).toNatClampNeg) := inb_of Sz128 (own_gin (hx0 (by decide)))
    obtain ⟨T128, h128, X128, e128, W128, st128⟩ := stZ X126 hx hZ e126 Ar128 (j := x0) hin128 (g := (mkF m 21 #[.val (.ref a1), .val (.int 2), .val (.long rm), .second, .val (.int 0), .unset, .unset, .unset, .unset, .unset, .unset] [(.int 1), (.int x0), (.ref pbA)])) rfl rfl (hb hby d6_21)
    have V128 : Arv Z h128 pbA kb .boolean (3 : Int32) ((([0, 0, 0] : List Int32).map Value.int).set (x0).toNatClampNeg (.int 1)) (.int 0) := Arv.set Ar128 q128 Sz128 Nn128 Hs128 Gs128 (by decide) W128 _ rfl (by have q := own_nat (hx0 (by decide)).1; have q2 := (hx0 (by decide)).2; rw [List.length_map]; (try simp only [List.length_set]); show _ < 3; omega)
    rw [own_setI] at V128
    have N128 := Fr.snoc X128 N0 gp
    have O_128 := O0.wr W128 gp
    have K_128 := (Keep.refl h0 [pbA]).wr W128 (Or.inl (List.mem_of_getElem? (i := 0) rfl))
    refine Goes.step (B := T128.setTop (mkF m 22 #[.val (.ref a1), .val (.int 2), .val (.long rm), .second, .val (.int 0), .unset, .unset, .unset, .unset, .unset, .unset] [])) st128 ?_
    refine Goes.step (fun _ k => pw_iinc X128.here hx (l' := #[.val (.ref a1), .val (.int 2), .val (.long rm), .second, .val (.int 1), .unset, .unset, .unset, .unset, .unset, .unset]) (hb hby d6_22) rfl rfl _ (pw_goto X128.here hx (pc' := 3) (hb hby d6_25) (by decide) (by decide) _ (pw_iload X128.here hx (hb hby d6_3) rfl _ (pw_iloadN X128.here hx (hb hby d6_5) rfl _ (pw_icmpNo X128.here hx (hb hby d6_6) (tlt (by decide)).2.1 _ (pw_aloadN X128.here hx (hb hby d6_9) rfl rfl _ k)))))) ?_
    have f129 := (Fpb.other W128 (Or.inl na))
    obtain ⟨T130, X130, e130, st130⟩ := getF X128 hx hZ hown (host := "") (Or.inl (own_w30 hw)) Via.refl e128 f129 (g := (mkF m 10 #[.val (.ref a1), .val (.int 2), .val (.long rm), .second, .val (.int 1), .unset, .unset, .unset, .unset, .unset, .unset] [(.ref a1)])) rfl rfl (hb hby d6_10)
    refine Goes.step (B := T130.setTop (mkF m 13 #[.val (.ref a1), .val (.int 2), .val (.long rm), .second, .val (.int 1), .unset, .unset, .unset, .unset, .unset, .unset] [(.ref pbA)])) st130 ?_
    refine Goes.step (fun _ k => pw_aloadN X130.here hx (hb hby d6_13) rfl rfl _ k) ?_
    have f131 := (Fpl.other W128 (Or.inl na))
    obtain ⟨T132, X132, e132, st132⟩ := getF X130 hx hZ hown (host := "") (Or.inl (own_w32 hw)) Via.refl e130 f131 (g := (mkF m 14 #[.val (.ref a1), .val (.int 2), .val (.long rm), .second, .val (.int 1), .unset, .unset, .unset, .unset, .unset, .unset] [(.ref a1), (.ref pbA)])) rfl rfl (hb hby d6_14)
    refine Goes.step (B := T132.setTop (mkF m 17 #[.val (.ref a1), .val (.int 2), .val (.long rm), .second, .val (.int 1), .unset, .unset, .unset, .unset, .unset, .unset] [(.ref plA), (.ref pbA)])) st132 ?_
    refine Goes.step (fun _ k => pw_iload X132.here hx (hb hby d6_17) rfl _ k) ?_
    have f133 := (Vpl.other W128 npl)
    obtain ⟨c134, Ar134, -, Sz134, Nn134, Hs134, -⟩ := id f133
    have hin134 : ¬ ((1 : Int32) < 0 ∨ c134.slots.size ≤ ((1 : Int32)).toNatClampNeg) := inb_of Sz134 ⟨by decide, by decide⟩
    refine Goes.step (B := T132.setTop (mkF m 20 #[.val (.ref a1), .val (.int 2), .val (.long rm), .second, .val (.int 1), .unset, .unset, .unset, .unset, .unset, .unset] [(.int x1), (.ref pbA)])) (X132.iaload hx (j := (1 : Int32)) (v := (.int x1)) (by rw [e132]; exact Ar134.1) (State.isArrayOf_alike hZ.alike Ar134.2.1) Ar134.2.2 hin134 (Has.at Hs134 hin134 rfl) (g := (mkF m 19 #[.val (.ref a1), .val (.int 2), .val (.long rm), .second, .val (.int 1), .unset, .unset, .unset, .unset, .unset, .unset] [(.int 1), (.ref plA), (.ref pbA)])) rfl rfl (hb hby d6_19)) ?_
    refine Goes.step (fun _ k => pw_iconst X132.here hx (v := (1 : Int32)) (hb hby d6_20) rfl _ k) ?_
    obtain ⟨c135, Ar135, q135, Sz135, Nn135, Hs135, Gs135⟩ := id V128
    have hin135 : ¬ (x1 < 0 ∨ c135.slots.size ≤ (x1).toNatClampNeg) := inb_of Sz135 (own_gin (hx1 (by decide)))
    obtain ⟨T135, h135, X135, e135, W135, st135⟩ := stZ X132 hx hZ e132 Ar135 (j := x1) hin135 (g := (mkF m 21 #[.val (.ref a1), .val (.int 2), .val (.long rm), .second, .val (.int 1), .unset, .unset, .unset, .unset, .unset, .unset] [(.int 1), (.int x1), (.ref pbA)])) rfl rfl (hb hby d6_21)
    have V135 : Arv Z h135 pbA kb .boolean (3 : Int32) (((([0, 0, 0] : List Int32).set x0.toNatClampNeg 1).map Value.int).set (x1).toNatClampNeg (.int 1)) (.int 0) := Arv.set Ar135 q135 Sz135 Nn135 Hs135 Gs135 (by decide) W135 _ rfl (by have q := own_nat (hx1 (by decide)).1; have q2 := (hx1 (by decide)).2; rw [List.length_map]; (try simp only [List.length_set]); show _ < 3; omega)
    rw [own_setI] at V135
    have N135 := Fr.snoc X135 N128 gp
    have O_135 := O_128.wr W135 gp
    have K_135 := K_128.wr W135 (Or.inl (List.mem_of_getElem? (i := 0) rfl))
    refine Goes.step (B := T135.setTop (mkF m 22 #[.val (.ref a1), .val (.int 2), .val (.long rm), .second, .val (.int 1), .unset, .unset, .unset, .unset, .unset, .unset] [])) st135 ?_
    refine Goes.step (fun _ k => pw_iinc X135.here hx (l' := #[.val (.ref a1), .val (.int 2), .val (.long rm), .second, .val (.int 2), .unset, .unset, .unset, .unset, .unset, .unset]) (hb hby d6_22) rfl rfl _ (pw_goto X135.here hx (pc' := 3) (hb hby d6_25) (by decide) (by decide) _ (pw_iload X135.here hx (hb hby d6_3) rfl _ (pw_iloadN X135.here hx (hb hby d6_5) rfl _ (pw_icmpYes X135.here hx (pc' := 28) (hb hby d6_6) (flt (by decide)).2.1 (by decide) (by decide) _ k))))) ?_
    have f136 := (f129.other W135 (Or.inl na))
    have f137 := (f131.other W135 (Or.inl na))
    have f138 := ((Fbc.other W128 (Or.inl na)).other W135 (Or.inl na))
    have f139 := ((Fc.other W128 (Or.inl na)).other W135 (Or.inl na))
    have f140 := ((Fm.other W128 (Or.inl na)).other W135 (Or.inl na))
    have f141 := (f133.other W135 npl)
    have f142 := ((Vbc.other W128 nq).other W135 nq)
    have f143 := ((VC.other W128 nc).other W135 nc)
    have f144 := ((VM.other W128 nm).other W135 nm)
    exact J1 _ _ _ ((([0, 0, 0] : List Int32).set x0.toNatClampNeg 1).set x1.toNatClampNeg 1) X135 e135 O_135 N135 K_135 f136 f137 f138 f139 f140 f141 V135 f142 f143 f144 (own_plo2 (hx0 (by decide)) (hx1 (by decide)))
  · refine Goes.step (fun _ k => pw_iconst X0.here hx (v := (0 : Int32)) (hb hby d6_0) rfl _ (pw_istore X0.here hx (l' := #[.val (.ref a1), .val (.int 3), .val (.long rm), .second, .val (.int 0), .unset, .unset, .unset, .unset, .unset, .unset]) (hb hby d6_1) rfl _ (pw_iload X0.here hx (hb hby d6_3) rfl _ (pw_iloadN X0.here hx (hb hby d6_5) rfl _ (pw_icmpNo X0.here hx (hb hby d6_6) (tlt (by decide)).2.1 _ (pw_aloadN X0.here hx (hb hby d6_9) rfl rfl _ k)))))) ?_
    obtain ⟨T145, X145, e145, st145⟩ := getF X0 hx hZ hown (host := "") (Or.inl (own_w30 hw)) Via.refl e0 Fpb (g := (mkF m 10 #[.val (.ref a1), .val (.int 3), .val (.long rm), .second, .val (.int 0), .unset, .unset, .unset, .unset, .unset, .unset] [(.ref a1)])) rfl rfl (hb hby d6_10)
    refine Goes.step (B := T145.setTop (mkF m 13 #[.val (.ref a1), .val (.int 3), .val (.long rm), .second, .val (.int 0), .unset, .unset, .unset, .unset, .unset, .unset] [(.ref pbA)])) st145 ?_
    refine Goes.step (fun _ k => pw_aloadN X145.here hx (hb hby d6_13) rfl rfl _ k) ?_
    obtain ⟨T146, X146, e146, st146⟩ := getF X145 hx hZ hown (host := "") (Or.inl (own_w32 hw)) Via.refl e145 Fpl (g := (mkF m 14 #[.val (.ref a1), .val (.int 3), .val (.long rm), .second, .val (.int 0), .unset, .unset, .unset, .unset, .unset, .unset] [(.ref a1), (.ref pbA)])) rfl rfl (hb hby d6_14)
    refine Goes.step (B := T146.setTop (mkF m 17 #[.val (.ref a1), .val (.int 3), .val (.long rm), .second, .val (.int 0), .unset, .unset, .unset, .unset, .unset, .unset] [(.ref plA), (.ref pbA)])) st146 ?_
    refine Goes.step (fun _ k => pw_iload X146.here hx (hb hby d6_17) rfl _ k) ?_
    obtain ⟨c147, Ar147, -, Sz147, Nn147, Hs147, -⟩ := id Vpl
    have hin147 : ¬ ((0 : Int32) < 0 ∨ c147.slots.size ≤ ((0 : Int32)).toNatClampNeg) := inb_of Sz147 ⟨by decide, by decide⟩
    refine Goes.step (B := T146.setTop (mkF m 20 #[.val (.ref a1), .val (.int 3), .val (.long rm), .second, .val (.int 0), .unset, .unset, .unset, .unset, .unset, .unset] [(.int x0), (.ref pbA)])) (X146.iaload hx (j := (0 : Int32)) (v := (.int x0)) (by rw [e146]; exact Ar147.1) (State.isArrayOf_alike hZ.alike Ar147.2.1) Ar147.2.2 hin147 (Has.at Hs147 hin147 rfl) (g := (mkF m 19 #[.val (.ref a1), .val (.int 3), .val (.long rm), .second, .val (.int 0), .unset, .unset, .unset, .unset, .unset, .unset] [(.int 0), (.ref plA), (.ref pbA)])) rfl rfl (hb hby d6_19)) ?_
    refine Goes.step (fun _ k => pw_iconst X146.here hx (v := (1 : Int32)) (hb hby d6_20) rfl _ k) ?_
    obtain ⟨c148, Ar148, q148, Sz148, Nn148, Hs148, Gs148⟩ := id Vpb
    have hin148 : ¬ (x0 < 0 ∨ c148.slots.size ≤ (x0).toNatClampNeg) := inb_of Sz148 (own_gin (hx0 (by decide)))
    obtain ⟨T148, h148, X148, e148, W148, st148⟩ := stZ X146 hx hZ e146 Ar148 (j := x0) hin148 (g := (mkF m 21 #[.val (.ref a1), .val (.int 3), .val (.long rm), .second, .val (.int 0), .unset, .unset, .unset, .unset, .unset, .unset] [(.int 1), (.int x0), (.ref pbA)])) rfl rfl (hb hby d6_21)
    have V148 : Arv Z h148 pbA kb .boolean (3 : Int32) ((([0, 0, 0] : List Int32).map Value.int).set (x0).toNatClampNeg (.int 1)) (.int 0) := Arv.set Ar148 q148 Sz148 Nn148 Hs148 Gs148 (by decide) W148 _ rfl (by have q := own_nat (hx0 (by decide)).1; have q2 := (hx0 (by decide)).2; rw [List.length_map]; (try simp only [List.length_set]); show _ < 3; omega)
    rw [own_setI] at V148
    have N148 := Fr.snoc X148 N0 gp
    have O_148 := O0.wr W148 gp
    have K_148 := (Keep.refl h0 [pbA]).wr W148 (Or.inl (List.mem_of_getElem? (i := 0) rfl))
    refine Goes.step (B := T148.setTop (mkF m 22 #[.val (.ref a1), .val (.int 3), .val (.long rm), .second, .val (.int 0), .unset, .unset, .unset, .unset, .unset, .unset] [])) st148 ?_
    refine Goes.step (fun _ k => pw_iinc X148.here hx (l' := #[.val (.ref a1), .val (.int 3), .val (.long rm), .second, .val (.int 1), .unset, .unset, .unset, .unset, .unset, .unset]) (hb hby d6_22) rfl rfl _ (pw_goto X148.here hx (pc' := 3) (hb hby d6_25) (by decide) (by decide) _ (pw_iload X148.here hx (hb hby d6_3) rfl _ (pw_iloadN X148.here hx (hb hby d6_5) rfl _ (pw_icmpNo X148.here hx (hb hby d6_6) (tlt (by decide)).2.1 _ (pw_aloadN X148.here hx (hb hby d6_9) rfl rfl _ k)))))) ?_
    have f149 := (Fpb.other W148 (Or.inl na))
    obtain ⟨T150, X150, e150, st150⟩ := getF X148 hx hZ hown (host := "") (Or.inl (own_w30 hw)) Via.refl e148 f149 (g := (mkF m 10 #[.val (.ref a1), .val (.int 3), .val (.long rm), .second, .val (.int 1), .unset, .unset, .unset, .unset, .unset, .unset] [(.ref a1)])) rfl rfl (hb hby d6_10)
    refine Goes.step (B := T150.setTop (mkF m 13 #[.val (.ref a1), .val (.int 3), .val (.long rm), .second, .val (.int 1), .unset, .unset, .unset, .unset, .unset, .unset] [(.ref pbA)])) st150 ?_
    refine Goes.step (fun _ k => pw_aloadN X150.here hx (hb hby d6_13) rfl rfl _ k) ?_
    have f151 := (Fpl.other W148 (Or.inl na))
    obtain ⟨T152, X152, e152, st152⟩ := getF X150 hx hZ hown (host := "") (Or.inl (own_w32 hw)) Via.refl e150 f151 (g := (mkF m 14 #[.val (.ref a1), .val (.int 3), .val (.long rm), .second, .val (.int 1), .unset, .unset, .unset, .unset, .unset, .unset] [(.ref a1), (.ref pbA)])) rfl rfl (hb hby d6_14)
    refine Goes.step (B := T152.setTop (mkF m 17 #[.val (.ref a1), .val (.int 3), .val (.long rm), .second, .val (.int 1), .unset, .unset, .unset, .unset, .unset, .unset] [(.ref plA), (.ref pbA)])) st152 ?_
    refine Goes.step (fun _ k => pw_iload X152.here hx (hb hby d6_17) rfl _ k) ?_
    have f153 := (Vpl.other W148 npl)
    obtain ⟨c154, Ar154, -, Sz154, Nn154, Hs154, -⟩ := id f153
    have hin154 : ¬ ((1 : Int32) < 0 ∨ c154.slots.size ≤ ((1 : Int32)).toNatClampNeg) := inb_of Sz154 ⟨by decide, by decide⟩
    refine Goes.step (B := T152.setTop (mkF m 20 #[.val (.ref a1), .val (.int 3), .val (.long rm), .second, .val (.int 1), .unset, .unset, .unset, .unset, .unset, .unset] [(.int x1), (.ref pbA)])) (X152.iaload hx (j := (1 : Int32)) (v := (.int x1)) (by rw [e152]; exact Ar154.1) (State.isArrayOf_alike hZ.alike Ar154.2.1) Ar154.2.2 hin154 (Has.at Hs154 hin154 rfl) (g := (mkF m 19 #[.val (.ref a1), .val (.int 3), .val (.long rm), .second, .val (.int 1), .unset, .unset, .unset, .unset, .unset, .unset] [(.int 1), (.ref plA), (.ref pbA)])) rfl rfl (hb hby d6_19)) ?_
    refine Goes.step (fun _ k => pw_iconst X152.here hx (v := (1 : Int32)) (hb hby d6_20) rfl _ k) ?_
    obtain ⟨c155, Ar155, q155, Sz155, Nn155, Hs155, Gs155⟩ := id V148
    have hin155 : ¬ (x1 < 0 ∨ c155.slots.size ≤ (x1).toNatClampNeg) := inb_of Sz155 (own_gin (hx1 (by decide)))
    obtain ⟨T155, h155, X155, e155, W155, st155⟩ := stZ X152 hx hZ e152 Ar155 (j := x1) hin155 (g := (mkF m 21 #[.val (.ref a1), .val (.int 3), .val (.long rm), .second, .val (.int 1), .unset, .unset, .unset, .unset, .unset, .unset] [(.int 1), (.int x1), (.ref pbA)])) rfl rfl (hb hby d6_21)
    have V155 : Arv Z h155 pbA kb .boolean (3 : Int32) (((([0, 0, 0] : List Int32).set x0.toNatClampNeg 1).map Value.int).set (x1).toNatClampNeg (.int 1)) (.int 0) := Arv.set Ar155 q155 Sz155 Nn155 Hs155 Gs155 (by decide) W155 _ rfl (by have q := own_nat (hx1 (by decide)).1; have q2 := (hx1 (by decide)).2; rw [List.length_map]; (try simp only [List.length_set]); show _ < 3; omega)
    rw [own_setI] at V155
    have N155 := Fr.snoc X155 N148 gp
    have O_155 := O_148.wr W155 gp
    have K_155 := K_148.wr W155 (Or.inl (List.mem_of_getElem? (i := 0) rfl))
    refine Goes.step (B := T155.setTop (mkF m 22 #[.val (.ref a1), .val (.int 3), .val (.long rm), .second, .val (.int 1), .unset, .unset, .unset, .unset, .unset, .unset] [])) st155 ?_
    refine Goes.step (fun _ k => pw_iinc X155.here hx (l' := #[.val (.ref a1), .val (.int 3), .val (.long rm), .second, .val (.int 2), .unset, .unset, .unset, .unset, .unset, .unset]) (hb hby d6_22) rfl rfl _ (pw_goto X155.here hx (pc' := 3) (hb hby d6_25) (by decide) (by decide) _ (pw_iload X155.here hx (hb hby d6_3) rfl _ (pw_iloadN X155.here hx (hb hby d6_5) rfl _ (pw_icmpNo X155.here hx (hb hby d6_6) (tlt (by decide)).2.1 _ (pw_aloadN X155.here hx (hb hby d6_9) rfl rfl _ k)))))) ?_
    have f156 := (f149.other W155 (Or.inl na))
    obtain ⟨T157, X157, e157, st157⟩ := getF X155 hx hZ hown (host := "") (Or.inl (own_w30 hw)) Via.refl e155 f156 (g := (mkF m 10 #[.val (.ref a1), .val (.int 3), .val (.long rm), .second, .val (.int 2), .unset, .unset, .unset, .unset, .unset, .unset] [(.ref a1)])) rfl rfl (hb hby d6_10)
    refine Goes.step (B := T157.setTop (mkF m 13 #[.val (.ref a1), .val (.int 3), .val (.long rm), .second, .val (.int 2), .unset, .unset, .unset, .unset, .unset, .unset] [(.ref pbA)])) st157 ?_
    refine Goes.step (fun _ k => pw_aloadN X157.here hx (hb hby d6_13) rfl rfl _ k) ?_
    have f158 := (f151.other W155 (Or.inl na))
    obtain ⟨T159, X159, e159, st159⟩ := getF X157 hx hZ hown (host := "") (Or.inl (own_w32 hw)) Via.refl e157 f158 (g := (mkF m 14 #[.val (.ref a1), .val (.int 3), .val (.long rm), .second, .val (.int 2), .unset, .unset, .unset, .unset, .unset, .unset] [(.ref a1), (.ref pbA)])) rfl rfl (hb hby d6_14)
    refine Goes.step (B := T159.setTop (mkF m 17 #[.val (.ref a1), .val (.int 3), .val (.long rm), .second, .val (.int 2), .unset, .unset, .unset, .unset, .unset, .unset] [(.ref plA), (.ref pbA)])) st159 ?_
    refine Goes.step (fun _ k => pw_iload X159.here hx (hb hby d6_17) rfl _ k) ?_
    have f160 := (f153.other W155 npl)
    obtain ⟨c161, Ar161, -, Sz161, Nn161, Hs161, -⟩ := id f160
    have hin161 : ¬ ((2 : Int32) < 0 ∨ c161.slots.size ≤ ((2 : Int32)).toNatClampNeg) := inb_of Sz161 ⟨by decide, by decide⟩
    refine Goes.step (B := T159.setTop (mkF m 20 #[.val (.ref a1), .val (.int 3), .val (.long rm), .second, .val (.int 2), .unset, .unset, .unset, .unset, .unset, .unset] [(.int x2), (.ref pbA)])) (X159.iaload hx (j := (2 : Int32)) (v := (.int x2)) (by rw [e159]; exact Ar161.1) (State.isArrayOf_alike hZ.alike Ar161.2.1) Ar161.2.2 hin161 (Has.at Hs161 hin161 rfl) (g := (mkF m 19 #[.val (.ref a1), .val (.int 3), .val (.long rm), .second, .val (.int 2), .unset, .unset, .unset, .unset, .unset, .unset] [(.int 2), (.ref plA), (.ref pbA)])) rfl rfl (hb hby d6_19)) ?_
    refine Goes.step (fun _ k => pw_iconst X159.here hx (v := (1 : Int32)) (hb hby d6_20) rfl _ k) ?_
    obtain ⟨c162, Ar162, q162, Sz162, Nn162, Hs162, Gs162⟩ := id V155
    have hin162 : ¬ (x2 < 0 ∨ c162.slots.size ≤ (x2).toNatClampNeg) := inb_of Sz162 (own_gin (hx2 (by decide)))
    obtain ⟨T162, h162, X162, e162, W162, st162⟩ := stZ X159 hx hZ e159 Ar162 (j := x2) hin162 (g := (mkF m 21 #[.val (.ref a1), .val (.int 3), .val (.long rm), .second, .val (.int 2), .unset, .unset, .unset, .unset, .unset, .unset] [(.int 1), (.int x2), (.ref pbA)])) rfl rfl (hb hby d6_21)
    have V162 : Arv Z h162 pbA kb .boolean (3 : Int32) ((((([0, 0, 0] : List Int32).set x0.toNatClampNeg 1).set x1.toNatClampNeg 1).map Value.int).set (x2).toNatClampNeg (.int 1)) (.int 0) := Arv.set Ar162 q162 Sz162 Nn162 Hs162 Gs162 (by decide) W162 _ rfl (by have q := own_nat (hx2 (by decide)).1; have q2 := (hx2 (by decide)).2; rw [List.length_map]; (try simp only [List.length_set]); show _ < 3; omega)
    rw [own_setI] at V162
    have N162 := Fr.snoc X162 N155 gp
    have O_162 := O_155.wr W162 gp
    have K_162 := K_155.wr W162 (Or.inl (List.mem_of_getElem? (i := 0) rfl))
    refine Goes.step (B := T162.setTop (mkF m 22 #[.val (.ref a1), .val (.int 3), .val (.long rm), .second, .val (.int 2), .unset, .unset, .unset, .unset, .unset, .unset] [])) st162 ?_
    refine Goes.step (fun _ k => pw_iinc X162.here hx (l' := #[.val (.ref a1), .val (.int 3), .val (.long rm), .second, .val (.int 3), .unset, .unset, .unset, .unset, .unset, .unset]) (hb hby d6_22) rfl rfl _ (pw_goto X162.here hx (pc' := 3) (hb hby d6_25) (by decide) (by decide) _ (pw_iload X162.here hx (hb hby d6_3) rfl _ (pw_iloadN X162.here hx (hb hby d6_5) rfl _ (pw_icmpYes X162.here hx (pc' := 28) (hb hby d6_6) (flt (by decide)).2.1 (by decide) (by decide) _ k))))) ?_
    have f163 := (f156.other W162 (Or.inl na))
    have f164 := (f158.other W162 (Or.inl na))
    have f165 := (((Fbc.other W148 (Or.inl na)).other W155 (Or.inl na)).other W162 (Or.inl na))
    have f166 := (((Fc.other W148 (Or.inl na)).other W155 (Or.inl na)).other W162 (Or.inl na))
    have f167 := (((Fm.other W148 (Or.inl na)).other W155 (Or.inl na)).other W162 (Or.inl na))
    have f168 := (f160.other W162 npl)
    have f169 := (((Vbc.other W148 nq).other W155 nq).other W162 nq)
    have f170 := (((VC.other W148 nc).other W155 nc).other W162 nc)
    have f171 := (((VM.other W148 nm).other W155 nm).other W162 nm)
    exact J1 _ _ _ (((([0, 0, 0] : List Int32).set x0.toNatClampNeg 1).set x1.toNatClampNeg 1).set x2.toNatClampNeg 1) X162 e162 O_162 N162 K_162 f163 f164 f165 f166 f167 f168 V162 f169 f170 f171 (own_plo3 (hx0 (by decide)) (hx1 (by decide)) (hx2 (by decide)))
theorem d3_0 : decode prog_38_method_1_code 0 = .ok (.aload_n 0, 1) := by decide +kernel
theorem d3_1 : decode prog_38_method_1_code 1 = .ok (.invokespecial 3, 3) := by decide +kernel
theorem own_w18 {Z : State} {a0 : Array Value} (hw : ∀ d ∈ tables_1, d.before a0 Z = true) : (Jvm.Cond.methodLink "com/example/errantry/errantry/staff/CompletionBounds" (3 : Nat) ({ cls := "java/lang/Object", name := "<init>", desc := "()V" } : Jvm.MethodName)).before a0 Z = true := hw _ (List.mem_of_getElem? (i := 18) rfl)
theorem own_w19 {Z : State} {a0 : Array Value} (hw : ∀ d ∈ tables_1, d.before a0 Z = true) : (Jvm.Cond.instanceMethod ({ cls := "java/lang/Object", name := "<init>", desc := "()V" } : Jvm.MethodName)).before a0 Z = true := hw _ (List.mem_of_getElem? (i := 19) rfl)
theorem own_w20 {Z : State} {a0 : Array Value} (hw : ∀ d ∈ tables_1, d.before a0 Z = true) : (Jvm.Cond.code ({ cls := "java/lang/Object", name := "<init>", desc := "()V" } : Jvm.MethodName) object_method_1_code (1 : Nat) (Option.none : Option Jvm.ClassFile.FieldType)).before a0 Z = true := hw _ (List.mem_of_getElem? (i := 20) rfl)
theorem d3_4 : decode prog_38_method_1_code 4 = .ok (.aload_n 0, 1) := by decide +kernel
theorem d3_5 : decode prog_38_method_1_code 5 = .ok (.aload_n 1, 1) := by decide +kernel
theorem d3_6 : decode prog_38_method_1_code 6 = .ok (.putfield 9, 3) := by decide +kernel
theorem own_w21 {Z : State} {a0 : Array Value} (hw : ∀ d ∈ tables_1, d.before a0 Z = true) : (Jvm.Cond.fieldLink "com/example/errantry/errantry/staff/CompletionBounds" (9 : Nat) "com/example/errantry/errantry/staff/CompletionBounds" "reliability" "[D").before a0 Z = true := hw _ (List.mem_of_getElem? (i := 21) rfl)
theorem own_w22 {Z : State} {a0 : Array Value} (hw : ∀ d ∈ tables_1, d.before a0 Z = true) : (Jvm.Cond.laysFinal "com/example/errantry/errantry/staff/CompletionBounds" "com/example/errantry/errantry/staff/CompletionBounds" "reliability" "[D").before a0 Z = true := hw _ (List.mem_of_getElem? (i := 22) rfl)
theorem own_w12 {Z : State} {a0 : Array Value} (hw : ∀ d ∈ tables_1, d.before a0 Z = true) : (Jvm.Cond.instantiable "com/example/errantry/errantry/staff/CompletionBounds" (13 : Nat)).before a0 Z = true := hw _ (List.mem_of_getElem? (i := 12) rfl)
theorem d3_9 : decode prog_38_method_1_code 9 = .ok (.aload_n 0, 1) := by decide +kernel
theorem d3_10 : decode prog_38_method_1_code 10 = .ok (.aload_n 2, 1) := by decide +kernel
theorem d3_11 : decode prog_38_method_1_code 11 = .ok (.putfield 15, 3) := by decide +kernel
theorem own_w24 {Z : State} {a0 : Array Value} (hw : ∀ d ∈ tables_1, d.before a0 Z = true) : (Jvm.Cond.laysFinal "com/example/errantry/errantry/staff/CompletionBounds" "com/example/errantry/errantry/staff/CompletionBounds" "cost" "[J").before a0 Z = true := hw _ (List.mem_of_getElem? (i := 24) rfl)
theorem d3_14 : decode prog_38_method_1_code 14 = .ok (.aload_n 0, 1) := by decide +kernel
theorem d3_15 : decode prog_38_method_1_code 15 = .ok (.aload_n 3, 1) := by decide +kernel
theorem d3_16 : decode prog_38_method_1_code 16 = .ok (.putfield 19, 3) := by decide +kernel
theorem own_w26 {Z : State} {a0 : Array Value} (hw : ∀ d ∈ tables_1, d.before a0 Z = true) : (Jvm.Cond.laysFinal "com/example/errantry/errantry/staff/CompletionBounds" "com/example/errantry/errantry/staff/CompletionBounds" "members" "[I").before a0 Z = true := hw _ (List.mem_of_getElem? (i := 26) rfl)
theorem d3_19 : decode prog_38_method_1_code 19 = .ok (.aload_n 0, 1) := by decide +kernel
theorem d3_20 : decode prog_38_method_1_code 20 = .ok (.aload 4, 2) := by decide +kernel
theorem d3_22 : decode prog_38_method_1_code 22 = .ok (.putfield 23, 3) := by decide +kernel
theorem own_w28 {Z : State} {a0 : Array Value} (hw : ∀ d ∈ tables_1, d.before a0 Z = true) : (Jvm.Cond.laysFinal "com/example/errantry/errantry/staff/CompletionBounds" "com/example/errantry/errantry/staff/CompletionBounds" "byCost" "[I").before a0 Z = true := hw _ (List.mem_of_getElem? (i := 28) rfl)
theorem d3_25 : decode prog_38_method_1_code 25 = .ok (.aload_n 0, 1) := by decide +kernel
theorem d3_26 : decode prog_38_method_1_code 26 = .ok (.aload_n 1, 1) := by decide +kernel
theorem d3_27 : decode prog_38_method_1_code 27 = .ok (.arraylength, 1) := by decide +kernel
theorem d3_28 : decode prog_38_method_1_code 28 = .ok (.newarray .boolean, 2) := by decide +kernel
theorem own_w29 {Z : State} {a0 : Array Value} (hw : ∀ d ∈ tables_1, d.before a0 Z = true) : (Jvm.Cond.arrayClass Jvm.ClassFile.FieldType.boolean).before a0 Z = true := hw _ (List.mem_of_getElem? (i := 29) rfl)
theorem d3_30 : decode prog_38_method_1_code 30 = .ok (.putfield 26, 3) := by decide +kernel
theorem own_w31 {Z : State} {a0 : Array Value} (hw : ∀ d ∈ tables_1, d.before a0 Z = true) : (Jvm.Cond.laysFinal "com/example/errantry/errantry/staff/CompletionBounds" "com/example/errantry/errantry/staff/CompletionBounds" "pooled" "[Z").before a0 Z = true := hw _ (List.mem_of_getElem? (i := 31) rfl)
theorem d3_33 : decode prog_38_method_1_code 33 = .ok (.iconst 0, 1) := by decide +kernel
theorem d3_34 : decode prog_38_method_1_code 34 = .ok (.istore 5, 2) := by decide +kernel
theorem d3_36 : decode prog_38_method_1_code 36 = .ok (.aload_n 3, 1) := by decide +kernel
theorem d3_37 : decode prog_38_method_1_code 37 = .ok (.astore 6, 2) := by decide +kernel
theorem d3_39 : decode prog_38_method_1_code 39 = .ok (.aload 6, 2) := by decide +kernel
theorem d3_41 : decode prog_38_method_1_code 41 = .ok (.arraylength, 1) := by decide +kernel
theorem d3_42 : decode prog_38_method_1_code 42 = .ok (.istore 7, 2) := by decide +kernel
theorem d3_44 : decode prog_38_method_1_code 44 = .ok (.iconst 0, 1) := by decide +kernel
theorem d3_45 : decode prog_38_method_1_code 45 = .ok (.istore 8, 2) := by decide +kernel
theorem d3_47 : decode prog_38_method_1_code 47 = .ok (.iload 8, 2) := by decide +kernel
theorem d3_49 : decode prog_38_method_1_code 49 = .ok (.iload 7, 2) := by decide +kernel
theorem d3_51 : decode prog_38_method_1_code 51 = .ok (.if_icmp .ge 23, 3) := by decide +kernel
theorem d3_54 : decode prog_38_method_1_code 54 = .ok (.aload 6, 2) := by decide +kernel
theorem d3_56 : decode prog_38_method_1_code 56 = .ok (.iload 8, 2) := by decide +kernel
theorem d3_58 : decode prog_38_method_1_code 58 = .ok (.iaload, 1) := by decide +kernel
theorem d3_59 : decode prog_38_method_1_code 59 = .ok (.istore 9, 2) := by decide +kernel
theorem d3_61 : decode prog_38_method_1_code 61 = .ok (.iload 5, 2) := by decide +kernel
theorem d3_63 : decode prog_38_method_1_code 63 = .ok (.iload 9, 2) := by decide +kernel
theorem d3_65 : decode prog_38_method_1_code 65 = .ok (.iadd, 1) := by decide +kernel
theorem d3_66 : decode prog_38_method_1_code 66 = .ok (.istore 5, 2) := by decide +kernel
theorem d3_68 : decode prog_38_method_1_code 68 = .ok (.iinc 8 1, 3) := by decide +kernel
theorem d3_71 : decode prog_38_method_1_code 71 = .ok (.goto (-24), 3) := by decide +kernel
theorem d3_74 : decode prog_38_method_1_code 74 = .ok (.aload_n 0, 1) := by decide +kernel
theorem d3_75 : decode prog_38_method_1_code 75 = .ok (.aload_n 1, 1) := by decide +kernel
theorem d3_76 : decode prog_38_method_1_code 76 = .ok (.arraylength, 1) := by decide +kernel
theorem d3_77 : decode prog_38_method_1_code 77 = .ok (.newarray .int, 2) := by decide +kernel
theorem own_w1 {Z : State} {a0 : Array Value} (hw : ∀ d ∈ tables_1, d.before a0 Z = true) : (Jvm.Cond.arrayClass Jvm.ClassFile.FieldType.int).before a0 Z = true := hw _ (List.mem_of_getElem? (i := 1) rfl)
theorem d3_79 : decode prog_38_method_1_code 79 = .ok (.putfield 30, 3) := by decide +kernel
theorem own_w33 {Z : State} {a0 : Array Value} (hw : ∀ d ∈ tables_1, d.before a0 Z = true) : (Jvm.Cond.laysFinal "com/example/errantry/errantry/staff/CompletionBounds" "com/example/errantry/errantry/staff/CompletionBounds" "pool" "[I").before a0 Z = true := hw _ (List.mem_of_getElem? (i := 33) rfl)
theorem d3_82 : decode prog_38_method_1_code 82 = .ok (.aload_n 0, 1) := by decide +kernel
theorem d3_83 : decode prog_38_method_1_code 83 = .ok (.aload_n 1, 1) := by decide +kernel
theorem d3_84 : decode prog_38_method_1_code 84 = .ok (.arraylength, 1) := by decide +kernel
theorem d3_85 : decode prog_38_method_1_code 85 = .ok (.iconst 1, 1) := by decide +kernel
theorem d3_86 : decode prog_38_method_1_code 86 = .ok (.iadd, 1) := by decide +kernel
theorem d3_87 : decode prog_38_method_1_code 87 = .ok (.anewarray 33, 3) := by decide +kernel
theorem own_w34 {Z : State} {a0 : Array Value} (hw : ∀ d ∈ tables_1, d.before a0 Z = true) : (Jvm.Cond.classLink "com/example/errantry/errantry/staff/CompletionBounds" (33 : Nat) "[J").before a0 Z = true := hw _ (List.mem_of_getElem? (i := 34) rfl)
theorem own_w35 {Z : State} {a0 : Array Value} (hw : ∀ d ∈ tables_1, d.before a0 Z = true) : (Jvm.Cond.arrayOver (Jvm.ClassFile.FieldType.array Jvm.ClassFile.FieldType.long)).before a0 Z = true := hw _ (List.mem_of_getElem? (i := 35) rfl)
theorem d3_90 : decode prog_38_method_1_code 90 = .ok (.putfield 34, 3) := by decide +kernel
theorem own_w37 {Z : State} {a0 : Array Value} (hw : ∀ d ∈ tables_1, d.before a0 Z = true) : (Jvm.Cond.laysFinal "com/example/errantry/errantry/staff/CompletionBounds" "com/example/errantry/errantry/staff/CompletionBounds" "cheapest" "[[J").before a0 Z = true := hw _ (List.mem_of_getElem? (i := 37) rfl)
theorem d3_93 : decode prog_38_method_1_code 93 = .ok (.aload_n 0, 1) := by decide +kernel
theorem d3_94 : decode prog_38_method_1_code 94 = .ok (.iload 5, 2) := by decide +kernel
theorem d3_96 : decode prog_38_method_1_code 96 = .ok (.anewarray 38, 3) := by decide +kernel
theorem own_w38 {Z : State} {a0 : Array Value} (hw : ∀ d ∈ tables_1, d.before a0 Z = true) : (Jvm.Cond.classLink "com/example/errantry/errantry/staff/CompletionBounds" (38 : Nat) "[D").before a0 Z = true := hw _ (List.mem_of_getElem? (i := 38) rfl)
theorem own_w39 {Z : State} {a0 : Array Value} (hw : ∀ d ∈ tables_1, d.before a0 Z = true) : (Jvm.Cond.arrayOver (Jvm.ClassFile.FieldType.array Jvm.ClassFile.FieldType.double)).before a0 Z = true := hw _ (List.mem_of_getElem? (i := 39) rfl)
theorem d3_99 : decode prog_38_method_1_code 99 = .ok (.putfield 39, 3) := by decide +kernel
theorem own_w40 {Z : State} {a0 : Array Value} (hw : ∀ d ∈ tables_1, d.before a0 Z = true) : (Jvm.Cond.fieldLink "com/example/errantry/errantry/staff/CompletionBounds" (39 : Nat) "com/example/errantry/errantry/staff/CompletionBounds" "places" "[[D").before a0 Z = true := hw _ (List.mem_of_getElem? (i := 40) rfl)
theorem own_w41 {Z : State} {a0 : Array Value} (hw : ∀ d ∈ tables_1, d.before a0 Z = true) : (Jvm.Cond.laysFinal "com/example/errantry/errantry/staff/CompletionBounds" "com/example/errantry/errantry/staff/CompletionBounds" "places" "[[D").before a0 Z = true := hw _ (List.mem_of_getElem? (i := 41) rfl)
theorem d3_102 : decode prog_38_method_1_code 102 = .ok (.aload_n 0, 1) := by decide +kernel
theorem d3_103 : decode prog_38_method_1_code 103 = .ok (.iload 5, 2) := by decide +kernel
theorem d3_105 : decode prog_38_method_1_code 105 = .ok (.iconst 1, 1) := by decide +kernel
theorem d3_106 : decode prog_38_method_1_code 106 = .ok (.iadd, 1) := by decide +kernel
theorem d3_107 : decode prog_38_method_1_code 107 = .ok (.newarray .int, 2) := by decide +kernel
theorem d3_109 : decode prog_38_method_1_code 109 = .ok (.putfield 43, 3) := by decide +kernel
theorem own_w42 {Z : State} {a0 : Array Value} (hw : ∀ d ∈ tables_1, d.before a0 Z = true) : (Jvm.Cond.fieldLink "com/example/errantry/errantry/staff/CompletionBounds" (43 : Nat) "com/example/errantry/errantry/staff/CompletionBounds" "firstFitting" "[I").before a0 Z = true := hw _ (List.mem_of_getElem? (i := 42) rfl)
theorem own_w43 {Z : State} {a0 : Array Value} (hw : ∀ d ∈ tables_1, d.before a0 Z = true) : (Jvm.Cond.laysFinal "com/example/errantry/errantry/staff/CompletionBounds" "com/example/errantry/errantry/staff/CompletionBounds" "firstFitting" "[I").before a0 Z = true := hw _ (List.mem_of_getElem? (i := 43) rfl)
theorem d3_112 : decode prog_38_method_1_code 112 = .ok (.return_, 1) := by decide +kernel
theorem own_w54 {Z : State} {a0 : Array Value} (hw : ∀ d ∈ tables_1, d.before a0 Z = true) : (Jvm.Cond.lays "com/example/errantry/errantry/staff/CompletionBounds" "com/example/errantry/errantry/staff/CompletionBounds" "poolSize" "I").before a0 Z = true := hw _ (List.mem_of_getElem? (i := 54) rfl)
theorem own_w56 {Z : State} {a0 : Array Value} (hw : ∀ d ∈ tables_1, d.before a0 Z = true) : (Jvm.Cond.lays "com/example/errantry/errantry/staff/CompletionBounds" "com/example/errantry/errantry/staff/CompletionBounds" "room" "J").before a0 Z = true := hw _ (List.mem_of_getElem? (i := 56) rfl)
theorem own_w62 {Z : State} {a0 : Array Value} (hw : ∀ d ∈ tables_1, d.before a0 Z = true) : (Jvm.Cond.lays "com/example/errantry/errantry/staff/CompletionBounds" "com/example/errantry/errantry/staff/CompletionBounds" "most" "I").before a0 Z = true := hw _ (List.mem_of_getElem? (i := 62) rfl)
theorem own_w68 {Z : State} {a0 : Array Value} (hw : ∀ d ∈ tables_1, d.before a0 Z = true) : (Jvm.Cond.lays "com/example/errantry/errantry/staff/CompletionBounds" "com/example/errantry/errantry/staff/CompletionBounds" "rowsFilled" "I").before a0 Z = true := hw _ (List.mem_of_getElem? (i := 68) rfl)
theorem ef_rmIN (m : MethodId) (x0 : Addr) (x1 : Addr) (x2 : Addr) (x3 : Addr) (x4 : Addr) : entryFrame m #[(.ref x0), (.ref x1), (.ref x2), (.ref x3), (.ref x4)] 10 = mkF m 0 #[.val (.ref x0), .val (.ref x1), .val (.ref x2), .val (.ref x3), .val (.ref x4), .unset, .unset, .unset, .unset, .unset] [] := by first | (simp [entryFrame, mkF, argsToLocals, Value.category]; done) | rfl
def QIN (Z : State) (a0r : Addr) (rA : Addr) (kR : ClassId) (cA : Addr) (mA : Addr) (kM : ClassId) (qA : Addr) (mb0 : Int32) (mb1 : Int32) (mb2 : Int32) (h0 : Heap) (n0 : Nat) (v : Option Value) (h : Heap) (L : List Loc) : Prop := v = none ∧ Fr n0 L ∧ Keep h0 h [a0r] ∧ Exa Z h a0r "com/example/errantry/errantry/staff/CompletionBounds" ∧ ∃ (pb pl ca ff : Addr) (kb kp kc kf : ClassId) (zf : Int32), n0 ≤ pb ∧ h0.size ≤ pb ∧ n0 ≤ pl ∧ h0.size ≤ pl ∧ n0 ≤ ca ∧ h0.size ≤ ca ∧ n0 ≤ ff ∧ h0.size ≤ ff ∧ pb ≠ pl ∧ pb ≠ ca ∧ pb ≠ ff ∧ pl ≠ ca ∧ pl ≠ ff ∧ ca ≠ ff ∧ OvrA Z kc .long "[J" ∧ zf.toInt = mb0.toInt + mb1.toInt + mb2.toInt + 1 ∧ Fld Z h a0r "com/example/errantry/errantry/staff/CompletionBounds" "cost" "[J" (.ref cA) ∧ Fld Z h a0r "com/example/errantry/errantry/staff/CompletionBounds" "members" "[I" (.ref mA) ∧ Fld Z h a0r "com/example/errantry/errantry/staff/CompletionBounds" "byCost" "[I" (.ref qA) ∧ Fld Z h a0r "com/example/errantry/errantry/staff/CompletionBounds" "pooled" "[Z" (.ref pb) ∧ Fld Z h a0r "com/example/errantry/errantry/staff/CompletionBounds" "pool" "[I" (.ref pl) ∧ Fld Z h a0r "com/example/errantry/errantry/staff/CompletionBounds" "poolSize" "I" (.int 0) ∧ Fld Z h a0r "com/example/errantry/errantry/staff/CompletionBounds" "room" "J" (.long 0) ∧ Fld Z h a0r "com/example/errantry/errantry/staff/CompletionBounds" "most" "I" (.int 0) ∧ Fld Z h a0r "com/example/errantry/errantry/staff/CompletionBounds" "cheapest" "[[J" (.ref ca) ∧ Fld Z h a0r "com/example/errantry/errantry/staff/CompletionBounds" "rowsFilled" "I" (.int 0) ∧ Fld Z h a0r "com/example/errantry/errantry/staff/CompletionBounds" "firstFitting" "[I" (.ref ff) ∧ Arv Z h pb kb .boolean (3 : Int32) (([0, 0, 0] : List Int32).map Value.int) (.int 0) ∧ Arv Z h pl kp .int (3 : Int32) [.int 0, .int 0, .int 0] (.int 0) ∧ Arv Z h ca kc (.array .long) (4 : Int32) [.null, .null, .null, .null] .null ∧ Arv Z h ff kf .int zf (List.replicate zf.toNatClampNeg (.int 0)) (.int 0)
set_option maxRecDepth 65536 in
set_option maxHeartbeats 40000000 in
theorem rmIN (l : Launch) (Z : State) (a0 : Array Value) (hw : ∀ d ∈ tables_1, d.before a0 Z = true) (ws : List Jvm.Cond) (a0r : Addr) (rA : Addr) (kR : ClassId) (cA : Addr) (mA : Addr) (kM : ClassId) (qA : Addr) (mb0 : Int32) (mb1 : Int32) (mb2 : Int32) (h0 : Heap) (n0 : Nat) (O0 : Old Z n0 h0) (Er : Exa Z h0 a0r "com/example/errantry/errantry/staff/CompletionBounds") (gr : n0 ≤ a0r) (Fr_reliability : Fld Z h0 a0r "com/example/errantry/errantry/staff/CompletionBounds" "reliability" "[D" .null) (Fr_cost : Fld Z h0 a0r "com/example/errantry/errantry/staff/CompletionBounds" "cost" "[J" .null) (Fr_members : Fld Z h0 a0r "com/example/errantry/errantry/staff/CompletionBounds" "members" "[I" .null) (Fr_byCost : Fld Z h0 a0r "com/example/errantry/errantry/staff/CompletionBounds" "byCost" "[I" .null) (Fr_pooled : Fld Z h0 a0r "com/example/errantry/errantry/staff/CompletionBounds" "pooled" "[Z" .null) (Fr_pool : Fld Z h0 a0r "com/example/errantry/errantry/staff/CompletionBounds" "pool" "[I" .null) (Fr_poolSize : Fld Z h0 a0r "com/example/errantry/errantry/staff/CompletionBounds" "poolSize" "I" (.int 0)) (Fr_room : Fld Z h0 a0r "com/example/errantry/errantry/staff/CompletionBounds" "room" "J" (.long 0)) (Fr_most : Fld Z h0 a0r "com/example/errantry/errantry/staff/CompletionBounds" "most" "I" (.int 0)) (Fr_cheapest : Fld Z h0 a0r "com/example/errantry/errantry/staff/CompletionBounds" "cheapest" "[[J" .null) (Fr_places : Fld Z h0 a0r "com/example/errantry/errantry/staff/CompletionBounds" "places" "[[D" .null) (Fr_rowsFilled : Fld Z h0 a0r "com/example/errantry/errantry/staff/CompletionBounds" "rowsFilled" "I" (.int 0)) (Fr_firstFitting : Fld Z h0 a0r "com/example/errantry/errantry/staff/CompletionBounds" "firstFitting" "[I" .null) (VR : Arv Z h0 rA kR .double (3 : Int32) [.double 0, .double 0, .double 0] (.double 0)) (VM : Arv Z h0 mA kM .int (3 : Int32) [.int mb0, .int mb1, .int mb2] (.int 0)) (hM0 : 1 ≤ mb0.toInt ∧ mb0.toInt ≤ 4) (hM1 : 1 ≤ mb1.toInt ∧ mb1.toInt ≤ 4) (hM2 : 1 ≤ mb2.toInt ∧ mb2.toInt ≤ 4) (nr : rA ≠ a0r) (nmr : mA ≠ a0r) :
    MetFree l (⟨"com/example/errantry/errantry/staff/CompletionBounds", "<init>", "([D[J[I[I)V"⟩ : MethodName) (head1 (Jvm.Cond.code (⟨"com/example/errantry/errantry/staff/CompletionBounds", "<init>", "([D[J[I[I)V"⟩ : MethodName) prog_38_method_1_code 10 none :: ws) ({ frames := 1, cells := 5, slots := 35, locals := 12 } : Room)) (fun a U => a = #[(.ref a0r), (.ref rA), (.ref cA), (.ref mA), (.ref qA)] ∧ Z.Warmed39 U.vm ∧ U.heap = h0) (fun _ _ _ _ _ => True) (fun _ U o U' => ∃ v L, o = .returned v ∧ QIN Z a0r rA kR cA mA kM qA mb0 mb1 mb2 h0 n0 v U'.heap L ∧ FrameEnd U o U' L ({ frames := 1, cells := 5, slots := 35, locals := 12 } : Room).cells ({ frames := 1, cells := 5, slots := 35, locals := 12 } : Room).slots) := by
  refine MetFree.of_bodySF (plainFor_of_name pn_CompletionBounds) hisR ?_
  intro p e s m args below meth c s₁ Bd hml0 hP hK
  obtain ⟨rfl, hZ, hh⟩ := hP
  have hx := Bd.exec
  have hby := Bd.bytes
  have hlk : meth.locks = false := BodyLoose.notSynchronized Bd
  have hml : c.maxLocals = 10 := hml0
  have hown : s.vm.findClass "com/example/errantry/errantry/staff/CompletionBounds" = some m.cls := findClass_of_methodNamed Bd.named
  have hnm := (name_of_methodNamed Bd.named Bd.method).1
  have X0 : Stand p l e ({ frames := 1, cells := 5, slots := 35, locals := 12 } : Room) s m #[(.ref a0r), (.ref rA), (.ref cA), (.ref mA), (.ref qA)] below meth c s₁ [] 0 0 := Stand.of_body Bd
  have e0 : s₁.heap = h0 := by rw [← hh, Bd.state]; rfl
  have N0 := Fr.nil n0
  show Goes p e below s (QIN Z a0r rA kR cA mA kM qA mb0 mb1 mb2 h0 n0) ({ frames := 1, cells := 5, slots := 35, locals := 12 } : Room).cells ({ frames := 1, cells := 5, slots := 35, locals := 12 } : Room).slots (s₁.setTop (entryFrame m #[(.ref a0r), (.ref rA), (.ref cA), (.ref mA), (.ref qA)] 10))
  refine Goes.enter (g' := (mkF m 0 #[.val (.ref a0r), .val (.ref rA), .val (.ref cA), .val (.ref mA), .val (.ref qA), .unset, .unset, .unset, .unset, .unset] [])) (ef_rmIN m a0r rA cA mA qA) ?_
  refine Goes.step (fun _ k => pw_aloadN X0.here hx (hb hby d3_0) rfl rfl _ k) ?_
  obtain ⟨T1, X1, e1, st1⟩ := initO X0 hx hZ hown (own_w18 hw) (own_w19 hw) (own_w20 hw) e0 (g := (mkF m 1 #[.val (.ref a0r), .val (.ref rA), .val (.ref cA), .val (.ref mA), .val (.ref qA), .unset, .unset, .unset, .unset, .unset] [(.ref a0r)])) rfl (by rw [hml]; rfl) rfl (hb hby d3_1) (by decide) (W := 0) (by show 2 * 0 + _ ≤ _; exact Nat.le_of_eq rfl) (by decide)
  refine Goes.step (B := T1.setTop (mkF m 4 #[.val (.ref a0r), .val (.ref rA), .val (.ref cA), .val (.ref mA), .val (.ref qA), .unset, .unset, .unset, .unset, .unset] [])) st1 ?_
  refine Goes.step (fun _ k => pw_aloadN X1.here hx (hb hby d3_4) rfl rfl _ (pw_aloadN X1.here hx (hb hby d3_5) rfl rfl _ k)) ?_
  obtain ⟨T2, h2, X2, e2, W2, st2⟩ := putF X1 hx hZ hown (host := "") (Or.inl (own_w21 hw)) Via.refl e1 Fr_reliability Er (Or.inr ⟨(own_w22 hw), rfl, hnm⟩) (own_w12 hw) (ty := (.array .double)) (by decide) rfl rfl (g := (mkF m 6 #[.val (.ref a0r), .val (.ref rA), .val (.ref cA), .val (.ref mA), .val (.ref qA), .unset, .unset, .unset, .unset, .unset] [(.ref rA), (.ref a0r)])) rfl rfl (hb hby d3_6)
  have Fw2 := Fr_reliability.same W2
  have N2 := Fr.snoc X2 N0 gr
  have O_2 := O0.wr W2 gr
  have K_2 := (Keep.refl h0 [a0r]).wr W2 (Or.inl (List.mem_of_getElem? (i := 0) rfl))
  refine Goes.step (B := T2.setTop (mkF m 9 #[.val (.ref a0r), .val (.ref rA), .val (.ref cA), .val (.ref mA), .val (.ref qA), .unset, .unset, .unset, .unset, .unset] [])) st2 ?_
  refine Goes.step (fun _ k => pw_aloadN X2.here hx (hb hby d3_9) rfl rfl _ (pw_aloadN X2.here hx (hb hby d3_10) rfl rfl _ k)) ?_
  have f3 := (Er.wr W2)
  have f4 := (Fr_cost.other W2 (Or.inr (slot_ne (Or.inr (own_w24 hw)) (Or.inr (own_w22 hw)) (by decide) (t := (.array .long)) (t' := (.array .double)) (by decide) (by decide))))
  obtain ⟨T5, h5, X5, e5, W5, st5⟩ := putF X2 hx hZ hown (host := "") (Or.inl (own_w23 hw)) Via.refl e2 f4 f3 (Or.inr ⟨(own_w24 hw), rfl, hnm⟩) (own_w12 hw) (ty := (.array .long)) (by decide) rfl rfl (g := (mkF m 11 #[.val (.ref a0r), .val (.ref rA), .val (.ref cA), .val (.ref mA), .val (.ref qA), .unset, .unset, .unset, .unset, .unset] [(.ref cA), (.ref a0r)])) rfl rfl (hb hby d3_11)
  have Fw5 := f4.same W5
  have N5 := Fr.snoc X5 N2 gr
  have O_5 := O_2.wr W5 gr
  have K_5 := K_2.wr W5 (Or.inl (List.mem_of_getElem? (i := 0) rfl))
  refine Goes.step (B := T5.setTop (mkF m 14 #[.val (.ref a0r), .val (.ref rA), .val (.ref cA), .val (.ref mA), .val (.ref qA), .unset, .unset, .unset, .unset, .unset] [])) st5 ?_
  refine Goes.step (fun _ k => pw_aloadN X5.here hx (hb hby d3_14) rfl rfl _ (pw_aloadN X5.here hx (hb hby d3_15) rfl rfl _ k)) ?_
  have f6 := (f3.wr W5)
  have f7 := ((Fr_members.other W2 (Or.inr (slot_ne (Or.inr (own_w26 hw)) (Or.inr (own_w22 hw)) (by decide) (t := (.array .int)) (t' := (.array .double)) (by decide) (by decide)))).other W5 (Or.inr (slot_ne (Or.inr (own_w26 hw)) (Or.inr (own_w24 hw)) (by decide) (t := (.array .int)) (t' := (.array .long)) (by decide) (by decide))))
  obtain ⟨T8, h8, X8, e8, W8, st8⟩ := putF X5 hx hZ hown (host := "") (Or.inl (own_w25 hw)) Via.refl e5 f7 f6 (Or.inr ⟨(own_w26 hw), rfl, hnm⟩) (own_w12 hw) (ty := (.array .int)) (by decide) rfl rfl (g := (mkF m 16 #[.val (.ref a0r), .val (.ref rA), .val (.ref cA), .val (.ref mA), .val (.ref qA), .unset, .unset, .unset, .unset, .unset] [(.ref mA), (.ref a0r)])) rfl rfl (hb hby d3_16)
  have Fw8 := f7.same W8
  have N8 := Fr.snoc X8 N5 gr
  have O_8 := O_5.wr W8 gr
  have K_8 := K_5.wr W8 (Or.inl (List.mem_of_getElem? (i := 0) rfl))
  refine Goes.step (B := T8.setTop (mkF m 19 #[.val (.ref a0r), .val (.ref rA), .val (.ref cA), .val (.ref mA), .val (.ref qA), .unset, .unset, .unset, .unset, .unset] [])) st8 ?_
  refine Goes.step (fun _ k => pw_aloadN X8.here hx (hb hby d3_19) rfl rfl _ (pw_aload X8.here hx (hb hby d3_20) rfl rfl _ k)) ?_
  have f9 := (f6.wr W8)
  have f10 := (((Fr_byCost.other W2 (Or.inr (slot_ne (Or.inr (own_w28 hw)) (Or.inr (own_w22 hw)) (by decide) (t := (.array .int)) (t' := (.array .double)) (by decide) (by decide)))).other W5 (Or.inr (slot_ne (Or.inr (own_w28 hw)) (Or.inr (own_w24 hw)) (by decide) (t := (.array .int)) (t' := (.array .long)) (by decide) (by decide)))).other W8 (Or.inr (slot_ne (Or.inr (own_w28 hw)) (Or.inr (own_w26 hw)) (by decide) (t := (.array .int)) (t' := (.array .int)) (by decide) (by decide))))
  obtain ⟨T11, h11, X11, e11, W11, st11⟩ := putF X8 hx hZ hown (host := "") (Or.inl (own_w27 hw)) Via.refl e8 f10 f9 (Or.inr ⟨(own_w28 hw), rfl, hnm⟩) (own_w12 hw) (ty := (.array .int)) (by decide) rfl rfl (g := (mkF m 22 #[.val (.ref a0r), .val (.ref rA), .val (.ref cA), .val (.ref mA), .val (.ref qA), .unset, .unset, .unset, .unset, .unset] [(.ref qA), (.ref a0r)])) rfl rfl (hb hby d3_22)
  have Fw11 := f10.same W11
  have N11 := Fr.snoc X11 N8 gr
  have O_11 := O_8.wr W11 gr
  have K_11 := K_8.wr W11 (Or.inl (List.mem_of_getElem? (i := 0) rfl))
  refine Goes.step (B := T11.setTop (mkF m 25 #[.val (.ref a0r), .val (.ref rA), .val (.ref cA), .val (.ref mA), .val (.ref qA), .unset, .unset, .unset, .unset, .unset] [])) st11 ?_
  refine Goes.step (fun _ k => pw_aloadN X11.here hx (hb hby d3_25) rfl rfl _ (pw_aloadN X11.here hx (hb hby d3_26) rfl rfl _ k)) ?_
  have f12 := ((((VR.other W2 nr).other W5 nr).other W8 nr).other W11 nr)
  obtain ⟨c13, Ar13, -, Sz13, Nn13, -, -⟩ := id f12
  have len13 := X11.arraylength hx (by rw [e11]; exact Ar13.1) (State.isArrayOf_alike hZ.alike Ar13.2.1) (g := (mkF m 27 #[.val (.ref a0r), .val (.ref rA), .val (.ref cA), .val (.ref mA), .val (.ref qA), .unset, .unset, .unset, .unset, .unset] [(.ref rA), (.ref a0r)])) rfl rfl (hb hby d3_27)
  rw [len_of Sz13 Nn13] at len13
  refine Goes.step (B := T11.setTop (mkF m 28 #[.val (.ref a0r), .val (.ref rA), .val (.ref cA), .val (.ref mA), .val (.ref qA), .unset, .unset, .unset, .unset, .unset] [(.int 3), (.ref a0r)])) len13 ?_
  obtain ⟨T14, h14, k14, X14, e14, E14, A14, st14⟩ := newP (aty := .boolean) X11 hx hZ (own_w29 hw) e11 (g := (mkF m 28 #[.val (.ref a0r), .val (.ref rA), .val (.ref cA), .val (.ref mA), .val (.ref qA), .unset, .unset, .unset, .unset, .unset] [(.int 3), (.ref a0r)])) rfl (hb hby d3_28) rfl (by decide) (cap := 3) (by decide) (by decide) (by decide) (by decide)
  obtain ⟨b14, g14⟩ : ∃ z, z = h11.size := ⟨_, rfl⟩
  rw [← g14] at A14 st14
  have f15 := (f9.wr W11)
  have ne_a0r_b14 : a0r ≠ b14 := Nat.ne_of_lt (Nat.lt_of_lt_of_le f15.lt (Nat.le_of_eq g14.symm))
  have ne_rA_b14 : rA ≠ b14 := Nat.ne_of_lt (Nat.lt_of_lt_of_le f12.lt (Nat.le_of_eq g14.symm))
  have f16 := ((((VM.other W2 nmr).other W5 nmr).other W8 nmr).other W11 nmr)
  have ne_mA_b14 : mA ≠ b14 := Nat.ne_of_lt (Nat.lt_of_lt_of_le f16.lt (Nat.le_of_eq g14.symm))
  have g_b14 : n0 ≤ b14 := Nat.le_trans (own_z O_11) (Nat.le_of_eq g14.symm)
  have O_14 := O_11.ext E14
  have sz_b14 : h0.size ≤ b14 := Nat.le_trans K_11.1 (Nat.le_of_eq g14.symm)
  have K_14 := K_11.ext E14
  have V_b14 : Arv Z h14 b14 k14 .boolean (3 : Int32) [(.int 0), (.int 0), (.int 0)] (.int 0) := (Arv.new A14 (by decide)).pad (pad_rep [] (.int 0) 3)
  refine Goes.step (B := T14.setTop (mkF m 30 #[.val (.ref a0r), .val (.ref rA), .val (.ref cA), .val (.ref mA), .val (.ref qA), .unset, .unset, .unset, .unset, .unset] [(.ref b14), (.ref a0r)])) st14 ?_
  have f17 := (f15.ext E14)
  have f18 := (((((Fr_pooled.other W2 (Or.inr (slot_ne (Or.inr (own_w31 hw)) (Or.inr (own_w22 hw)) (by decide) (t := (.array .boolean)) (t' := (.array .double)) (by decide) (by decide)))).other W5 (Or.inr (slot_ne (Or.inr (own_w31 hw)) (Or.inr (own_w24 hw)) (by decide) (t := (.array .boolean)) (t' := (.array .long)) (by decide) (by decide)))).other W8 (Or.inr (slot_ne (Or.inr (own_w31 hw)) (Or.inr (own_w26 hw)) (by decide) (t := (.array .boolean)) (t' := (.array .int)) (by decide) (by decide)))).other W11 (Or.inr (slot_ne (Or.inr (own_w31 hw)) (Or.inr (own_w28 hw)) (by decide) (t := (.array .boolean)) (t' := (.array .int)) (by decide) (by decide)))).ext E14)
  obtain ⟨T19, h19, X19, e19, W19, st19⟩ := putF X14 hx hZ hown (host := "") (Or.inl (own_w30 hw)) Via.refl e14 f18 f17 (Or.inr ⟨(own_w31 hw), rfl, hnm⟩) (own_w12 hw) (ty := (.array .boolean)) (by decide) rfl rfl (g := (mkF m 30 #[.val (.ref a0r), .val (.ref rA), .val (.ref cA), .val (.ref mA), .val (.ref qA), .unset, .unset, .unset, .unset, .unset] [(.ref b14), (.ref a0r)])) rfl rfl (hb hby d3_30)
  have Fw19 := f18.same W19
  have N19 := Fr.snoc X19 N11 gr
  have O_19 := O_14.wr W19 gr
  have K_19 := K_14.wr W19 (Or.inl (List.mem_of_getElem? (i := 0) rfl))
  refine Goes.step (B := T19.setTop (mkF m 33 #[.val (.ref a0r), .val (.ref rA), .val (.ref cA), .val (.ref mA), .val (.ref qA), .unset, .unset, .unset, .unset, .unset] [])) st19 ?_
  refine Goes.step (fun _ k => pw_iconst X19.here hx (v := (0 : Int32)) (hb hby d3_33) rfl _ (pw_istore X19.here hx (l' := #[.val (.ref a0r), .val (.ref rA), .val (.ref cA), .val (.ref mA), .val (.ref qA), .val (.int 0), .unset, .unset, .unset, .unset]) (hb hby d3_34) rfl _ (pw_aloadN X19.here hx (hb hby d3_36) rfl rfl _ (pw_astore X19.here hx (l' := #[.val (.ref a0r), .val (.ref rA), .val (.ref cA), .val (.ref mA), .val (.ref qA), .val (.int 0), .val (.ref mA), .unset, .unset, .unset]) (hb hby d3_37) rfl rfl _ (pw_aload X19.here hx (hb hby d3_39) rfl rfl _ k))))) ?_
  have f20 := ((f16.ext E14).other W19 nmr)
  obtain ⟨c21, Ar21, -, Sz21, Nn21, -, -⟩ := id f20
  have len21 := X19.arraylength hx (by rw [e19]; exact Ar21.1) (State.isArrayOf_alike hZ.alike Ar21.2.1) (g := (mkF m 41 #[.val (.ref a0r), .val (.ref rA), .val (.ref cA), .val (.ref mA), .val (.ref qA), .val (.int 0), .val (.ref mA), .unset, .unset, .unset] [(.ref mA)])) rfl rfl (hb hby d3_41)
  rw [len_of Sz21 Nn21] at len21
  refine Goes.step (B := T19.setTop (mkF m 42 #[.val (.ref a0r), .val (.ref rA), .val (.ref cA), .val (.ref mA), .val (.ref qA), .val (.int 0), .val (.ref mA), .unset, .unset, .unset] [(.int 3)])) len21 ?_
  refine Goes.step (fun _ k => pw_istore X19.here hx (l' := #[.val (.ref a0r), .val (.ref rA), .val (.ref cA), .val (.ref mA), .val (.ref qA), .val (.int 0), .val (.ref mA), .val (.int 3), .unset, .unset]) (hb hby d3_42) rfl _ (pw_iconst X19.here hx (v := (0 : Int32)) (hb hby d3_44) rfl _ (pw_istore X19.here hx (l' := #[.val (.ref a0r), .val (.ref rA), .val (.ref cA), .val (.ref mA), .val (.ref qA), .val (.int 0), .val (.ref mA), .val (.int 3), .val (.int 0), .unset]) (hb hby d3_45) rfl _ (pw_iload X19.here hx (hb hby d3_47) rfl _ (pw_iload X19.here hx (hb hby d3_49) rfl _ (pw_icmpNo X19.here hx (hb hby d3_51) (tlt (by decide)).2.1 _ k)))))) ?_
  refine Goes.step (fun _ k => pw_aload X19.here hx (hb hby d3_54) rfl rfl _ (pw_iload X19.here hx (hb hby d3_56) rfl _ k)) ?_
  obtain ⟨c22, Ar22, -, Sz22, Nn22, Hs22, -⟩ := id f20
  have hin22 : ¬ ((0 : Int32) < 0 ∨ c22.slots.size ≤ ((0 : Int32)).toNatClampNeg) := inb_of Sz22 ⟨by decide, by decide⟩
  refine Goes.step (B := T19.setTop (mkF m 59 #[.val (.ref a0r), .val (.ref rA), .val (.ref cA), .val (.ref mA), .val (.ref qA), .val (.int 0), .val (.ref mA), .val (.int 3), .val (.int 0), .unset] [(.int mb0)])) (X19.iaload hx (j := (0 : Int32)) (v := (.int mb0)) (by rw [e19]; exact Ar22.1) (State.isArrayOf_alike hZ.alike Ar22.2.1) Ar22.2.2 hin22 (Has.at Hs22 hin22 rfl) (g := (mkF m 58 #[.val (.ref a0r), .val (.ref rA), .val (.ref cA), .val (.ref mA), .val (.ref qA), .val (.int 0), .val (.ref mA), .val (.int 3), .val (.int 0), .unset] [(.int 0), (.ref mA)])) rfl rfl (hb hby d3_58)) ?_
  refine Goes.step (fun _ k => pw_istore X19.here hx (l' := #[.val (.ref a0r), .val (.ref rA), .val (.ref cA), .val (.ref mA), .val (.ref qA), .val (.int 0), .val (.ref mA), .val (.int 3), .val (.int 0), .val (.int mb0)]) (hb hby d3_59) rfl _ (pw_iload X19.here hx (hb hby d3_61) rfl _ (pw_iload X19.here hx (hb hby d3_63) rfl _ (pw_iadd X19.here hx (hb hby d3_65) _ (pw_istore X19.here hx (l' := #[.val (.ref a0r), .val (.ref rA), .val (.ref cA), .val (.ref mA), .val (.ref qA), .val (.int ((0 : Int32) + mb0)), .val (.ref mA), .val (.int 3), .val (.int 0), .val (.int mb0)]) (hb hby d3_66) rfl _ (pw_iinc X19.here hx (l' := #[.val (.ref a0r), .val (.ref rA), .val (.ref cA), .val (.ref mA), .val (.ref qA), .val (.int ((0 : Int32) + mb0)), .val (.ref mA), .val (.int 3), .val (.int 1), .val (.int mb0)]) (hb hby d3_68) rfl rfl _ k)))))) ?_
  refine Goes.step (fun _ k => pw_goto X19.here hx (pc' := 47) (hb hby d3_71) (by decide) (by decide) _ (pw_iload X19.here hx (hb hby d3_47) rfl _ (pw_iload X19.here hx (hb hby d3_49) rfl _ (pw_icmpNo X19.here hx (hb hby d3_51) (tlt (by decide)).2.1 _ (pw_aload X19.here hx (hb hby d3_54) rfl rfl _ (pw_iload X19.here hx (hb hby d3_56) rfl _ k)))))) ?_
  obtain ⟨c23, Ar23, -, Sz23, Nn23, Hs23, -⟩ := id f20
  have hin23 : ¬ ((1 : Int32) < 0 ∨ c23.slots.size ≤ ((1 : Int32)).toNatClampNeg) := inb_of Sz23 ⟨by decide, by decide⟩
  refine Goes.step (B := T19.setTop (mkF m 59 #[.val (.ref a0r), .val (.ref rA), .val (.ref cA), .val (.ref mA), .val (.ref qA), .val (.int ((0 : Int32) + mb0)), .val (.ref mA), .val (.int 3), .val (.int 1), .val (.int mb0)] [(.int mb1)])) (X19.iaload hx (j := (1 : Int32)) (v := (.int mb1)) (by rw [e19]; exact Ar23.1) (State.isArrayOf_alike hZ.alike Ar23.2.1) Ar23.2.2 hin23 (Has.at Hs23 hin23 rfl) (g := (mkF m 58 #[.val (.ref a0r), .val (.ref rA), .val (.ref cA), .val (.ref mA), .val (.ref qA), .val (.int ((0 : Int32) + mb0)), .val (.ref mA), .val (.int 3), .val (.int 1), .val (.int mb0)] [(.int 1), (.ref mA)])) rfl rfl (hb hby d3_58)) ?_
  refine Goes.step (fun _ k => pw_istore X19.here hx (l' := #[.val (.ref a0r), .val (.ref rA), .val (.ref cA), .val (.ref mA), .val (.ref qA), .val (.int ((0 : Int32) + mb0)), .val (.ref mA), .val (.int 3), .val (.int 1), .val (.int mb1)]) (hb hby d3_59) rfl _ (pw_iload X19.here hx (hb hby d3_61) rfl _ (pw_iload X19.here hx (hb hby d3_63) rfl _ (pw_iadd X19.here hx (hb hby d3_65) _ (pw_istore X19.here hx (l' := #[.val (.ref a0r), .val (.ref rA), .val (.ref cA), .val (.ref mA), .val (.ref qA), .val (.int (((0 : Int32) + mb0) + mb1)), .val (.ref mA), .val (.int 3), .val (.int 1), .val (.int mb1)]) (hb hby d3_66) rfl _ (pw_iinc X19.here hx (l' := #[.val (.ref a0r), .val (.ref rA), .val (.ref cA), .val (.ref mA), .val (.ref qA), .val (.int (((0 : Int32) + mb0) + mb1)), .val (.ref mA), .val (.int 3), .val (.int 2), .val (.int mb1)]) (hb hby d3_68) rfl rfl _ k)))))) ?_
  refine Goes.step (fun _ k => pw_goto X19.here hx (pc' := 47) (hb hby d3_71) (by decide) (by decide) _ (pw_iload X19.here hx (hb hby d3_47) rfl _ (pw_iload X19.here hx (hb hby d3_49) rfl _ (pw_icmpNo X19.here hx (hb hby d3_51) (tlt (by decide)).2.1 _ (pw_aload X19.here hx (hb hby d3_54) rfl rfl _ (pw_iload X19.here hx (hb hby d3_56) rfl _ k)))))) ?_
  obtain ⟨c24, Ar24, -, Sz24, Nn24, Hs24, -⟩ := id f20
  have hin24 : ¬ ((2 : Int32) < 0 ∨ c24.slots.size ≤ ((2 : Int32)).toNatClampNeg) := inb_of Sz24 ⟨by decide, by decide⟩
  refine Goes.step (B := T19.setTop (mkF m 59 #[.val (.ref a0r), .val (.ref rA), .val (.ref cA), .val (.ref mA), .val (.ref qA), .val (.int (((0 : Int32) + mb0) + mb1)), .val (.ref mA), .val (.int 3), .val (.int 2), .val (.int mb1)] [(.int mb2)])) (X19.iaload hx (j := (2 : Int32)) (v := (.int mb2)) (by rw [e19]; exact Ar24.1) (State.isArrayOf_alike hZ.alike Ar24.2.1) Ar24.2.2 hin24 (Has.at Hs24 hin24 rfl) (g := (mkF m 58 #[.val (.ref a0r), .val (.ref rA), .val (.ref cA), .val (.ref mA), .val (.ref qA), .val (.int (((0 : Int32) + mb0) + mb1)), .val (.ref mA), .val (.int 3), .val (.int 2), .val (.int mb1)] [(.int 2), (.ref mA)])) rfl rfl (hb hby d3_58)) ?_
  refine Goes.step (fun _ k => pw_istore X19.here hx (l' := #[.val (.ref a0r), .val (.ref rA), .val (.ref cA), .val (.ref mA), .val (.ref qA), .val (.int (((0 : Int32) + mb0) + mb1)), .val (.ref mA), .val (.int 3), .val (.int 2), .val (.int mb2)]) (hb hby d3_59) rfl _ (pw_iload X19.here hx (hb hby d3_61) rfl _ (pw_iload X19.here hx (hb hby d3_63) rfl _ (pw_iadd X19.here hx (hb hby d3_65) _ (pw_istore X19.here hx (l' := #[.val (.ref a0r), .val (.ref rA), .val (.ref cA), .val (.ref mA), .val (.ref qA), .val (.int ((((0 : Int32) + mb0) + mb1) + mb2)), .val (.ref mA), .val (.int 3), .val (.int 2), .val (.int mb2)]) (hb hby d3_66) rfl _ (pw_iinc X19.here hx (l' := #[.val (.ref a0r), .val (.ref rA), .val (.ref cA), .val (.ref mA), .val (.ref qA), .val (.int ((((0 : Int32) + mb0) + mb1) + mb2)), .val (.ref mA), .val (.int 3), .val (.int 3), .val (.int mb2)]) (hb hby d3_68) rfl rfl _ k)))))) ?_
  refine Goes.step (fun _ k => pw_goto X19.here hx (pc' := 47) (hb hby d3_71) (by decide) (by decide) _ (pw_iload X19.here hx (hb hby d3_47) rfl _ (pw_iload X19.here hx (hb hby d3_49) rfl _ (pw_icmpYes X19.here hx (pc' := 74) (hb hby d3_51) (flt (by decide)).2.1 (by decide) (by decide) _ k)))) ?_
  obtain ⟨tt, htt⟩ : ∃ z, z = ((((0 : Int32) + mb0) + mb1) + mb2) := ⟨_, rfl⟩
  rw [← htt]
  have z0 : (0 : Int32).toInt = 0 := by decide
  have ta : ((0 : Int32) + mb0).toInt = mb0.toInt := by rw [own_ad (by omega) (by omega)]; omega
  have tb : (((0 : Int32) + mb0) + mb1).toInt = mb0.toInt + mb1.toInt := by rw [own_ad (by omega) (by omega)]; omega
  have tt0 : tt.toInt = mb0.toInt + mb1.toInt + mb2.toInt := by rw [htt, own_ad (by omega) (by omega)]; omega
  have ht0 : ¬ tt < 0 := own_nlt (by rw [own_i0]; omega)
  have tn := own_nat (j := tt) (by omega)
  have t1 := own_p1 (a := tt) (by omega)
  have ht1 : ¬ (tt + (1 : Int32)) < 0 := own_nlt (by rw [own_i0]; omega)
  have tn1 := own_nat (j := tt + 1) (by omega)
  refine Goes.step (fun _ k => pw_aloadN X19.here hx (hb hby d3_74) rfl rfl _ (pw_aloadN X19.here hx (hb hby d3_75) rfl rfl _ k)) ?_
  have f25 := ((f12.ext E14).other W19 nr)
  obtain ⟨c26, Ar26, -, Sz26, Nn26, -, -⟩ := id f25
  have len26 := X19.arraylength hx (by rw [e19]; exact Ar26.1) (State.isArrayOf_alike hZ.alike Ar26.2.1) (g := (mkF m 76 #[.val (.ref a0r), .val (.ref rA), .val (.ref cA), .val (.ref mA), .val (.ref qA), .val (.int tt), .val (.ref mA), .val (.int 3), .val (.int 3), .val (.int mb2)] [(.ref rA), (.ref a0r)])) rfl rfl (hb hby d3_76)
  rw [len_of Sz26 Nn26] at len26
  refine Goes.step (B := T19.setTop (mkF m 77 #[.val (.ref a0r), .val (.ref rA), .val (.ref cA), .val (.ref mA), .val (.ref qA), .val (.int tt), .val (.ref mA), .val (.int 3), .val (.int 3), .val (.int mb2)] [(.int 3), (.ref a0r)])) len26 ?_
  obtain ⟨T27, h27, k27, X27, e27, E27, A27, st27⟩ := newP (aty := .int) X19 hx hZ (own_w1 hw) e19 (g := (mkF m 77 #[.val (.ref a0r), .val (.ref rA), .val (.ref cA), .val (.ref mA), .val (.ref qA), .val (.int tt), .val (.ref mA), .val (.int 3), .val (.int 3), .val (.int mb2)] [(.int 3), (.ref a0r)])) rfl (hb hby d3_77) rfl (by decide) (cap := 3) (by decide) (by decide) (by decide) (by decide)
  obtain ⟨b27, g27⟩ : ∃ z, z = h19.size := ⟨_, rfl⟩
  rw [← g27] at A27 st27
  have f28 := (f17.wr W19)
  have ne_a0r_b27 : a0r ≠ b27 := Nat.ne_of_lt (Nat.lt_of_lt_of_le f28.lt (Nat.le_of_eq g27.symm))
  have ne_rA_b27 : rA ≠ b27 := Nat.ne_of_lt (Nat.lt_of_lt_of_le f25.lt (Nat.le_of_eq g27.symm))
  have ne_mA_b27 : mA ≠ b27 := Nat.ne_of_lt (Nat.lt_of_lt_of_le f20.lt (Nat.le_of_eq g27.symm))
  have f29 := (V_b14.other W19 (Ne.symm ne_a0r_b14))
  have ne_b14_b27 : b14 ≠ b27 := Nat.ne_of_lt (Nat.lt_of_lt_of_le f29.lt (Nat.le_of_eq g27.symm))
  have g_b27 : n0 ≤ b27 := Nat.le_trans (own_z O_19) (Nat.le_of_eq g27.symm)
  have O_27 := O_19.ext E27
  have sz_b27 : h0.size ≤ b27 := Nat.le_trans K_19.1 (Nat.le_of_eq g27.symm)
  have K_27 := K_19.ext E27
  have V_b27 : Arv Z h27 b27 k27 .int (3 : Int32) [(.int 0), (.int 0), (.int 0)] (.int 0) := (Arv.new A27 (by decide)).pad (pad_rep [] (.int 0) 3)
  refine Goes.step (B := T27.setTop (mkF m 79 #[.val (.ref a0r), .val (.ref rA), .val (.ref cA), .val (.ref mA), .val (.ref qA), .val (.int tt), .val (.ref mA), .val (.int 3), .val (.int 3), .val (.int mb2)] [(.ref b27), (.ref a0r)])) st27 ?_
  have f30 := (f28.ext E27)
  have f31 := (((((((Fr_pool.other W2 (Or.inr (slot_ne (Or.inr (own_w33 hw)) (Or.inr (own_w22 hw)) (by decide) (t := (.array .int)) (t' := (.array .double)) (by decide) (by decide)))).other W5 (Or.inr (slot_ne (Or.inr (own_w33 hw)) (Or.inr (own_w24 hw)) (by decide) (t := (.array .int)) (t' := (.array .long)) (by decide) (by decide)))).other W8 (Or.inr (slot_ne (Or.inr (own_w33 hw)) (Or.inr (own_w26 hw)) (by decide) (t := (.array .int)) (t' := (.array .int)) (by decide) (by decide)))).other W11 (Or.inr (slot_ne (Or.inr (own_w33 hw)) (Or.inr (own_w28 hw)) (by decide) (t := (.array .int)) (t' := (.array .int)) (by decide) (by decide)))).ext E14).other W19 (Or.inr (slot_ne (Or.inr (own_w33 hw)) (Or.inr (own_w31 hw)) (by decide) (t := (.array .int)) (t' := (.array .boolean)) (by decide) (by decide)))).ext E27)
  obtain ⟨T32, h32, X32, e32, W32, st32⟩ := putF X27 hx hZ hown (host := "") (Or.inl (own_w32 hw)) Via.refl e27 f31 f30 (Or.inr ⟨(own_w33 hw), rfl, hnm⟩) (own_w12 hw) (ty := (.array .int)) (by decide) rfl rfl (g := (mkF m 79 #[.val (.ref a0r), .val (.ref rA), .val (.ref cA), .val (.ref mA), .val (.ref qA), .val (.int tt), .val (.ref mA), .val (.int 3), .val (.int 3), .val (.int mb2)] [(.ref b27), (.ref a0r)])) rfl rfl (hb hby d3_79)
  have Fw32 := f31.same W32
  have N32 := Fr.snoc X32 N19 gr
  have O_32 := O_27.wr W32 gr
  have K_32 := K_27.wr W32 (Or.inl (List.mem_of_getElem? (i := 0) rfl))
  refine Goes.step (B := T32.setTop (mkF m 82 #[.val (.ref a0r), .val (.ref rA), .val (.ref cA), .val (.ref mA), .val (.ref qA), .val (.int tt), .val (.ref mA), .val (.int 3), .val (.int 3), .val (.int mb2)] [])) st32 ?_
  refine Goes.step (fun _ k => pw_aloadN X32.here hx (hb hby d3_82) rfl rfl _ (pw_aloadN X32.here hx (hb hby d3_83) rfl rfl _ k)) ?_
  have f33 := ((f25.ext E27).other W32 nr)
  obtain ⟨c34, Ar34, -, Sz34, Nn34, -, -⟩ := id f33
  have len34 := X32.arraylength hx (by rw [e32]; exact Ar34.1) (State.isArrayOf_alike hZ.alike Ar34.2.1) (g := (mkF m 84 #[.val (.ref a0r), .val (.ref rA), .val (.ref cA), .val (.ref mA), .val (.ref qA), .val (.int tt), .val (.ref mA), .val (.int 3), .val (.int 3), .val (.int mb2)] [(.ref rA), (.ref a0r)])) rfl rfl (hb hby d3_84)
  rw [len_of Sz34 Nn34] at len34
  refine Goes.step (B := T32.setTop (mkF m 85 #[.val (.ref a0r), .val (.ref rA), .val (.ref cA), .val (.ref mA), .val (.ref qA), .val (.int tt), .val (.ref mA), .val (.int 3), .val (.int 3), .val (.int mb2)] [(.int 3), (.ref a0r)])) len34 ?_
  refine Goes.step (fun _ k => pw_iconst X32.here hx (v := (1 : Int32)) (hb hby d3_85) rfl _ k) ?_
  refine Goes.step (B := T32.setTop (mkF m 87 #[.val (.ref a0r), .val (.ref rA), .val (.ref cA), .val (.ref mA), .val (.ref qA), .val (.int tt), .val (.ref mA), .val (.int 3), .val (.int 3), .val (.int mb2)] [(.int 4), (.ref a0r)])) (fun _ k => XS.iadd X32.here hx rfl (hb hby d3_86) rfl k) ?_
  obtain ⟨T35, h35, k35, X35, e35, E35, A35, G35, O35, st35⟩ := newRA X32 hx hZ (ty := .long) hown rfl (own_w34 hw) (own_w35 hw) e32 (g := (mkF m 87 #[.val (.ref a0r), .val (.ref rA), .val (.ref cA), .val (.ref mA), .val (.ref qA), .val (.int tt), .val (.ref mA), .val (.int 3), .val (.int 3), .val (.int mb2)] [(.int 4), (.ref a0r)])) rfl (hb hby d3_87) rfl (by decide) (cap := 4) (by decide) (by decide) (by decide) (by decide) (ad := "[[J") rfl
  obtain ⟨b35, g35⟩ : ∃ z, z = h32.size := ⟨_, rfl⟩
  rw [← g35] at A35 G35 st35
  have f36 := (f30.wr W32)
  have ne_a0r_b35 : a0r ≠ b35 := Nat.ne_of_lt (Nat.lt_of_lt_of_le f36.lt (Nat.le_of_eq g35.symm))
  have ne_rA_b35 : rA ≠ b35 := Nat.ne_of_lt (Nat.lt_of_lt_of_le f33.lt (Nat.le_of_eq g35.symm))
  have f37 := ((f20.ext E27).other W32 nmr)
  have ne_mA_b35 : mA ≠ b35 := Nat.ne_of_lt (Nat.lt_of_lt_of_le f37.lt (Nat.le_of_eq g35.symm))
  have f38 := ((f29.ext E27).other W32 (Ne.symm ne_a0r_b14))
  have ne_b14_b35 : b14 ≠ b35 := Nat.ne_of_lt (Nat.lt_of_lt_of_le f38.lt (Nat.le_of_eq g35.symm))
  have f39 := (V_b27.other W32 (Ne.symm ne_a0r_b27))
  have ne_b27_b35 : b27 ≠ b35 := Nat.ne_of_lt (Nat.lt_of_lt_of_le f39.lt (Nat.le_of_eq g35.symm))
  have g_b35 : n0 ≤ b35 := Nat.le_trans (own_z O_32) (Nat.le_of_eq g35.symm)
  have O_35 := O_32.ext E35
  have sz_b35 : h0.size ≤ b35 := Nat.le_trans K_32.1 (Nat.le_of_eq g35.symm)
  have K_35 := K_32.ext E35
  have V_b35 : Arv Z h35 b35 k35 (.array .long) (4 : Int32) [.null, .null, .null, .null] .null := (Arv.new A35 (by decide)).pad (pad_rep [] .null 4)
  refine Goes.step (B := T35.setTop (mkF m 90 #[.val (.ref a0r), .val (.ref rA), .val (.ref cA), .val (.ref mA), .val (.ref qA), .val (.int tt), .val (.ref mA), .val (.int 3), .val (.int 3), .val (.int mb2)] [(.ref b35), (.ref a0r)])) st35 ?_
  have f40 := (f36.ext E35)
  have f41 := (((((((((Fr_cheapest.other W2 (Or.inr (slot_ne (Or.inr (own_w37 hw)) (Or.inr (own_w22 hw)) (by decide) (t := (.array (.array .long))) (t' := (.array .double)) (by decide) (by decide)))).other W5 (Or.inr (slot_ne (Or.inr (own_w37 hw)) (Or.inr (own_w24 hw)) (by decide) (t := (.array (.array .long))) (t' := (.array .long)) (by decide) (by decide)))).other W8 (Or.inr (slot_ne (Or.inr (own_w37 hw)) (Or.inr (own_w26 hw)) (by decide) (t := (.array (.array .long))) (t' := (.array .int)) (by decide) (by decide)))).other W11 (Or.inr (slot_ne (Or.inr (own_w37 hw)) (Or.inr (own_w28 hw)) (by decide) (t := (.array (.array .long))) (t' := (.array .int)) (by decide) (by decide)))).ext E14).other W19 (Or.inr (slot_ne (Or.inr (own_w37 hw)) (Or.inr (own_w31 hw)) (by decide) (t := (.array (.array .long))) (t' := (.array .boolean)) (by decide) (by decide)))).ext E27).other W32 (Or.inr (slot_ne (Or.inr (own_w37 hw)) (Or.inr (own_w33 hw)) (by decide) (t := (.array (.array .long))) (t' := (.array .int)) (by decide) (by decide)))).ext E35)
  obtain ⟨T42, h42, X42, e42, W42, st42⟩ := putF X35 hx hZ hown (host := "") (Or.inl (own_w36 hw)) Via.refl e35 f41 f40 (Or.inr ⟨(own_w37 hw), rfl, hnm⟩) (own_w12 hw) (ty := (.array (.array .long))) (by decide) rfl rfl (g := (mkF m 90 #[.val (.ref a0r), .val (.ref rA), .val (.ref cA), .val (.ref mA), .val (.ref qA), .val (.int tt), .val (.ref mA), .val (.int 3), .val (.int 3), .val (.int mb2)] [(.ref b35), (.ref a0r)])) rfl rfl (hb hby d3_90)
  have Fw42 := f41.same W42
  have N42 := Fr.snoc X42 N32 gr
  have O_42 := O_35.wr W42 gr
  have K_42 := K_35.wr W42 (Or.inl (List.mem_of_getElem? (i := 0) rfl))
  refine Goes.step (B := T42.setTop (mkF m 93 #[.val (.ref a0r), .val (.ref rA), .val (.ref cA), .val (.ref mA), .val (.ref qA), .val (.int tt), .val (.ref mA), .val (.int 3), .val (.int 3), .val (.int mb2)] [])) st42 ?_
  refine Goes.step (fun _ k => pw_aloadN X42.here hx (hb hby d3_93) rfl rfl _ (pw_iload X42.here hx (hb hby d3_94) rfl _ k)) ?_
  obtain ⟨T43, h43, k43, X43, e43, E43, A43, G43, O43, st43⟩ := newRA X42 hx hZ (ty := .double) hown rfl (own_w38 hw) (own_w39 hw) e42 (g := (mkF m 96 #[.val (.ref a0r), .val (.ref rA), .val (.ref cA), .val (.ref mA), .val (.ref qA), .val (.int tt), .val (.ref mA), .val (.int 3), .val (.int 3), .val (.int mb2)] [(.int tt), (.ref a0r)])) rfl (hb hby d3_96) rfl ht0 (cap := 12) (by omega) (by decide) (by decide) (by decide) (ad := "[[D") rfl
  obtain ⟨b43, g43⟩ : ∃ z, z = h42.size := ⟨_, rfl⟩
  rw [← g43] at A43 G43 st43
  have f44 := (f40.wr W42)
  have ne_a0r_b43 : a0r ≠ b43 := Nat.ne_of_lt (Nat.lt_of_lt_of_le f44.lt (Nat.le_of_eq g43.symm))
  have f45 := ((f33.ext E35).other W42 nr)
  have ne_rA_b43 : rA ≠ b43 := Nat.ne_of_lt (Nat.lt_of_lt_of_le f45.lt (Nat.le_of_eq g43.symm))
  have f46 := ((f37.ext E35).other W42 nmr)
  have ne_mA_b43 : mA ≠ b43 := Nat.ne_of_lt (Nat.lt_of_lt_of_le f46.lt (Nat.le_of_eq g43.symm))
  have f47 := ((f38.ext E35).other W42 (Ne.symm ne_a0r_b14))
  have ne_b14_b43 : b14 ≠ b43 := Nat.ne_of_lt (Nat.lt_of_lt_of_le f47.lt (Nat.le_of_eq g43.symm))
  have f48 := ((f39.ext E35).other W42 (Ne.symm ne_a0r_b27))
  have ne_b27_b43 : b27 ≠ b43 := Nat.ne_of_lt (Nat.lt_of_lt_of_le f48.lt (Nat.le_of_eq g43.symm))
  have f49 := (V_b35.other W42 (Ne.symm ne_a0r_b35))
  have ne_b35_b43 : b35 ≠ b43 := Nat.ne_of_lt (Nat.lt_of_lt_of_le f49.lt (Nat.le_of_eq g43.symm))
  have g_b43 : n0 ≤ b43 := Nat.le_trans (own_z O_42) (Nat.le_of_eq g43.symm)
  have O_43 := O_42.ext E43
  have sz_b43 : h0.size ≤ b43 := Nat.le_trans K_42.1 (Nat.le_of_eq g43.symm)
  have K_43 := K_42.ext E43
  have V_b43 := Arv.new A43 ht0
  refine Goes.step (B := T43.setTop (mkF m 99 #[.val (.ref a0r), .val (.ref rA), .val (.ref cA), .val (.ref mA), .val (.ref qA), .val (.int tt), .val (.ref mA), .val (.int 3), .val (.int 3), .val (.int mb2)] [(.ref b43), (.ref a0r)])) st43 ?_
  have f50 := (f44.ext E43)
  have f51 := (((((((((((Fr_places.other W2 (Or.inr (slot_ne (Or.inr (own_w41 hw)) (Or.inr (own_w22 hw)) (by decide) (t := (.array (.array .double))) (t' := (.array .double)) (by decide) (by decide)))).other W5 (Or.inr (slot_ne (Or.inr (own_w41 hw)) (Or.inr (own_w24 hw)) (by decide) (t := (.array (.array .double))) (t' := (.array .long)) (by decide) (by decide)))).other W8 (Or.inr (slot_ne (Or.inr (own_w41 hw)) (Or.inr (own_w26 hw)) (by decide) (t := (.array (.array .double))) (t' := (.array .int)) (by decide) (by decide)))).other W11 (Or.inr (slot_ne (Or.inr (own_w41 hw)) (Or.inr (own_w28 hw)) (by decide) (t := (.array (.array .double))) (t' := (.array .int)) (by decide) (by decide)))).ext E14).other W19 (Or.inr (slot_ne (Or.inr (own_w41 hw)) (Or.inr (own_w31 hw)) (by decide) (t := (.array (.array .double))) (t' := (.array .boolean)) (by decide) (by decide)))).ext E27).other W32 (Or.inr (slot_ne (Or.inr (own_w41 hw)) (Or.inr (own_w33 hw)) (by decide) (t := (.array (.array .double))) (t' := (.array .int)) (by decide) (by decide)))).ext E35).other W42 (Or.inr (slot_ne (Or.inr (own_w41 hw)) (Or.inr (own_w37 hw)) (by decide) (t := (.array (.array .double))) (t' := (.array (.array .long))) (by decide) (by decide)))).ext E43)
  obtain ⟨T52, h52, X52, e52, W52, st52⟩ := putF X43 hx hZ hown (host := "") (Or.inl (own_w40 hw)) Via.refl e43 f51 f50 (Or.inr ⟨(own_w41 hw), rfl, hnm⟩) (own_w12 hw) (ty := (.array (.array .double))) (by decide) rfl rfl (g := (mkF m 99 #[.val (.ref a0r), .val (.ref rA), .val (.ref cA), .val (.ref mA), .val (.ref qA), .val (.int tt), .val (.ref mA), .val (.int 3), .val (.int 3), .val (.int mb2)] [(.ref b43), (.ref a0r)])) rfl rfl (hb hby d3_99)
  have Fw52 := f51.same W52
  have N52 := Fr.snoc X52 N42 gr
  have O_52 := O_43.wr W52 gr
  have K_52 := K_43.wr W52 (Or.inl (List.mem_of_getElem? (i := 0) rfl))
  refine Goes.step (B := T52.setTop (mkF m 102 #[.val (.ref a0r), .val (.ref rA), .val (.ref cA), .val (.ref mA), .val (.ref qA), .val (.int tt), .val (.ref mA), .val (.int 3), .val (.int 3), .val (.int mb2)] [])) st52 ?_
  refine Goes.step (fun _ k => pw_aloadN X52.here hx (hb hby d3_102) rfl rfl _ (pw_iload X52.here hx (hb hby d3_103) rfl _ (pw_iconst X52.here hx (v := (1 : Int32)) (hb hby d3_105) rfl _ (pw_iadd X52.here hx (hb hby d3_106) _ k)))) ?_
  obtain ⟨T53, h53, k53, X53, e53, E53, A53, st53⟩ := newP (aty := .int) X52 hx hZ (own_w1 hw) e52 (g := (mkF m 107 #[.val (.ref a0r), .val (.ref rA), .val (.ref cA), .val (.ref mA), .val (.ref qA), .val (.int tt), .val (.ref mA), .val (.int 3), .val (.int 3), .val (.int mb2)] [(.int (tt + (1 : Int32))), (.ref a0r)])) rfl (hb hby d3_107) rfl ht1 (cap := 13) (by omega) (by decide) (by decide) (by decide)
  obtain ⟨b53, g53⟩ : ∃ z, z = h52.size := ⟨_, rfl⟩
  rw [← g53] at A53 st53
  have f54 := (f50.wr W52)
  have ne_a0r_b53 : a0r ≠ b53 := Nat.ne_of_lt (Nat.lt_of_lt_of_le f54.lt (Nat.le_of_eq g53.symm))
  have f55 := ((f45.ext E43).other W52 nr)
  have ne_rA_b53 : rA ≠ b53 := Nat.ne_of_lt (Nat.lt_of_lt_of_le f55.lt (Nat.le_of_eq g53.symm))
  have f56 := ((f46.ext E43).other W52 nmr)
  have ne_mA_b53 : mA ≠ b53 := Nat.ne_of_lt (Nat.lt_of_lt_of_le f56.lt (Nat.le_of_eq g53.symm))
  have f57 := ((f47.ext E43).other W52 (Ne.symm ne_a0r_b14))
  have ne_b14_b53 : b14 ≠ b53 := Nat.ne_of_lt (Nat.lt_of_lt_of_le f57.lt (Nat.le_of_eq g53.symm))
  have f58 := ((f48.ext E43).other W52 (Ne.symm ne_a0r_b27))
  have ne_b27_b53 : b27 ≠ b53 := Nat.ne_of_lt (Nat.lt_of_lt_of_le f58.lt (Nat.le_of_eq g53.symm))
  have f59 := ((f49.ext E43).other W52 (Ne.symm ne_a0r_b35))
  have ne_b35_b53 : b35 ≠ b53 := Nat.ne_of_lt (Nat.lt_of_lt_of_le f59.lt (Nat.le_of_eq g53.symm))
  have f60 := (V_b43.other W52 (Ne.symm ne_a0r_b43))
  have ne_b43_b53 : b43 ≠ b53 := Nat.ne_of_lt (Nat.lt_of_lt_of_le f60.lt (Nat.le_of_eq g53.symm))
  have g_b53 : n0 ≤ b53 := Nat.le_trans (own_z O_52) (Nat.le_of_eq g53.symm)
  have O_53 := O_52.ext E53
  have sz_b53 : h0.size ≤ b53 := Nat.le_trans K_52.1 (Nat.le_of_eq g53.symm)
  have K_53 := K_52.ext E53
  have V_b53 := Arv.new A53 ht1
  refine Goes.step (B := T53.setTop (mkF m 109 #[.val (.ref a0r), .val (.ref rA), .val (.ref cA), .val (.ref mA), .val (.ref qA), .val (.int tt), .val (.ref mA), .val (.int 3), .val (.int 3), .val (.int mb2)] [(.ref b53), (.ref a0r)])) st53 ?_
  have Vp_b53 : Arv Z h53 b53 k53 .int (tt + (1 : Int32)) (List.replicate (tt + (1 : Int32)).toNatClampNeg (.int 0)) (.int 0) := Arv.pad V_b53 (pad_rep [] (.int 0) (tt + (1 : Int32)).toNatClampNeg)
  have f61 := (f54.ext E53)
  have f62 := (((((((((((((Fr_firstFitting.other W2 (Or.inr (slot_ne (Or.inr (own_w43 hw)) (Or.inr (own_w22 hw)) (by decide) (t := (.array .int)) (t' := (.array .double)) (by decide) (by decide)))).other W5 (Or.inr (slot_ne (Or.inr (own_w43 hw)) (Or.inr (own_w24 hw)) (by decide) (t := (.array .int)) (t' := (.array .long)) (by decide) (by decide)))).other W8 (Or.inr (slot_ne (Or.inr (own_w43 hw)) (Or.inr (own_w26 hw)) (by decide) (t := (.array .int)) (t' := (.array .int)) (by decide) (by decide)))).other W11 (Or.inr (slot_ne (Or.inr (own_w43 hw)) (Or.inr (own_w28 hw)) (by decide) (t := (.array .int)) (t' := (.array .int)) (by decide) (by decide)))).ext E14).other W19 (Or.inr (slot_ne (Or.inr (own_w43 hw)) (Or.inr (own_w31 hw)) (by decide) (t := (.array .int)) (t' := (.array .boolean)) (by decide) (by decide)))).ext E27).other W32 (Or.inr (slot_ne (Or.inr (own_w43 hw)) (Or.inr (own_w33 hw)) (by decide) (t := (.array .int)) (t' := (.array .int)) (by decide) (by decide)))).ext E35).other W42 (Or.inr (slot_ne (Or.inr (own_w43 hw)) (Or.inr (own_w37 hw)) (by decide) (t := (.array .int)) (t' := (.array (.array .long))) (by decide) (by decide)))).ext E43).other W52 (Or.inr (slot_ne (Or.inr (own_w43 hw)) (Or.inr (own_w41 hw)) (by decide) (t := (.array .int)) (t' := (.array (.array .double))) (by decide) (by decide)))).ext E53)
  obtain ⟨T63, h63, X63, e63, W63, st63⟩ := putF X53 hx hZ hown (host := "") (Or.inl (own_w42 hw)) Via.refl e53 f62 f61 (Or.inr ⟨(own_w43 hw), rfl, hnm⟩) (own_w12 hw) (ty := (.array .int)) (by decide) rfl rfl (g := (mkF m 109 #[.val (.ref a0r), .val (.ref rA), .val (.ref cA), .val (.ref mA), .val (.ref qA), .val (.int tt), .val (.ref mA), .val (.int 3), .val (.int 3), .val (.int mb2)] [(.ref b53), (.ref a0r)])) rfl rfl (hb hby d3_109)
  have Fw63 := f62.same W63
  have N63 := Fr.snoc X63 N52 gr
  have O_63 := O_53.wr W63 gr
  have K_63 := K_53.wr W63 (Or.inl (List.mem_of_getElem? (i := 0) rfl))
  refine Goes.step (B := T63.setTop (mkF m 112 #[.val (.ref a0r), .val (.ref rA), .val (.ref cA), .val (.ref mA), .val (.ref qA), .val (.int tt), .val (.ref mA), .val (.int 3), .val (.int 3), .val (.int mb2)] [])) st63 ?_
  have f64 := (f61.wr W63)
  have f65 := ((((((((((((Fw5.other W8 (Or.inr (slot_ne (Or.inr (own_w24 hw)) (Or.inr (own_w26 hw)) (by decide) (t := (.array .long)) (t' := (.array .int)) (by decide) (by decide)))).other W11 (Or.inr (slot_ne (Or.inr (own_w24 hw)) (Or.inr (own_w28 hw)) (by decide) (t := (.array .long)) (t' := (.array .int)) (by decide) (by decide)))).ext E14).other W19 (Or.inr (slot_ne (Or.inr (own_w24 hw)) (Or.inr (own_w31 hw)) (by decide) (t := (.array .long)) (t' := (.array .boolean)) (by decide) (by decide)))).ext E27).other W32 (Or.inr (slot_ne (Or.inr (own_w24 hw)) (Or.inr (own_w33 hw)) (by decide) (t := (.array .long)) (t' := (.array .int)) (by decide) (by decide)))).ext E35).other W42 (Or.inr (slot_ne (Or.inr (own_w24 hw)) (Or.inr (own_w37 hw)) (by decide) (t := (.array .long)) (t' := (.array (.array .long))) (by decide) (by decide)))).ext E43).other W52 (Or.inr (slot_ne (Or.inr (own_w24 hw)) (Or.inr (own_w41 hw)) (by decide) (t := (.array .long)) (t' := (.array (.array .double))) (by decide) (by decide)))).ext E53).other W63 (Or.inr (slot_ne (Or.inr (own_w24 hw)) (Or.inr (own_w43 hw)) (by decide) (t := (.array .long)) (t' := (.array .int)) (by decide) (by decide))))
  have f66 := (((((((((((Fw8.other W11 (Or.inr (slot_ne (Or.inr (own_w26 hw)) (Or.inr (own_w28 hw)) (by decide) (t := (.array .int)) (t' := (.array .int)) (by decide) (by decide)))).ext E14).other W19 (Or.inr (slot_ne (Or.inr (own_w26 hw)) (Or.inr (own_w31 hw)) (by decide) (t := (.array .int)) (t' := (.array .boolean)) (by decide) (by decide)))).ext E27).other W32 (Or.inr (slot_ne (Or.inr (own_w26 hw)) (Or.inr (own_w33 hw)) (by decide) (t := (.array .int)) (t' := (.array .int)) (by decide) (by decide)))).ext E35).other W42 (Or.inr (slot_ne (Or.inr (own_w26 hw)) (Or.inr (own_w37 hw)) (by decide) (t := (.array .int)) (t' := (.array (.array .long))) (by decide) (by decide)))).ext E43).other W52 (Or.inr (slot_ne (Or.inr (own_w26 hw)) (Or.inr (own_w41 hw)) (by decide) (t := (.array .int)) (t' := (.array (.array .double))) (by decide) (by decide)))).ext E53).other W63 (Or.inr (slot_ne (Or.inr (own_w26 hw)) (Or.inr (own_w43 hw)) (by decide) (t := (.array .int)) (t' := (.array .int)) (by decide) (by decide))))
  have f67 := ((((((((((Fw11.ext E14).other W19 (Or.inr (slot_ne (Or.inr (own_w28 hw)) (Or.inr (own_w31 hw)) (by decide) (t := (.array .int)) (t' := (.array .boolean)) (by decide) (by decide)))).ext E27).other W32 (Or.inr (slot_ne (Or.inr (own_w28 hw)) (Or.inr (own_w33 hw)) (by decide) (t := (.array .int)) (t' := (.array .int)) (by decide) (by decide)))).ext E35).other W42 (Or.inr (slot_ne (Or.inr (own_w28 hw)) (Or.inr (own_w37 hw)) (by decide) (t := (.array .int)) (t' := (.array (.array .long))) (by decide) (by decide)))).ext E43).other W52 (Or.inr (slot_ne (Or.inr (own_w28 hw)) (Or.inr (own_w41 hw)) (by decide) (t := (.array .int)) (t' := (.array (.array .double))) (by decide) (by decide)))).ext E53).other W63 (Or.inr (slot_ne (Or.inr (own_w28 hw)) (Or.inr (own_w43 hw)) (by decide) (t := (.array .int)) (t' := (.array .int)) (by decide) (by decide))))
  have f68 := ((((((((Fw19.ext E27).other W32 (Or.inr (slot_ne (Or.inr (own_w31 hw)) (Or.inr (own_w33 hw)) (by decide) (t := (.array .boolean)) (t' := (.array .int)) (by decide) (by decide)))).ext E35).other W42 (Or.inr (slot_ne (Or.inr (own_w31 hw)) (Or.inr (own_w37 hw)) (by decide) (t := (.array .boolean)) (t' := (.array (.array .long))) (by decide) (by decide)))).ext E43).other W52 (Or.inr (slot_ne (Or.inr (own_w31 hw)) (Or.inr (own_w41 hw)) (by decide) (t := (.array .boolean)) (t' := (.array (.array .double))) (by decide) (by decide)))).ext E53).other W63 (Or.inr (slot_ne (Or.inr (own_w31 hw)) (Or.inr (own_w43 hw)) (by decide) (t := (.array .boolean)) (t' := (.array .int)) (by decide) (by decide))))
  have f69 := ((((((Fw32.ext E35).other W42 (Or.inr (slot_ne (Or.inr (own_w33 hw)) (Or.inr (own_w37 hw)) (by decide) (t := (.array .int)) (t' := (.array (.array .long))) (by decide) (by decide)))).ext E43).other W52 (Or.inr (slot_ne (Or.inr (own_w33 hw)) (Or.inr (own_w41 hw)) (by decide) (t := (.array .int)) (t' := (.array (.array .double))) (by decide) (by decide)))).ext E53).other W63 (Or.inr (slot_ne (Or.inr (own_w33 hw)) (Or.inr (own_w43 hw)) (by decide) (t := (.array .int)) (t' := (.array .int)) (by decide) (by decide))))
  have f70 := ((((((((((((((Fr_poolSize.other W2 (Or.inr (slot_ne (Or.inl (own_w54 hw)) (Or.inr (own_w22 hw)) (by decide) (t := .int) (t' := (.array .double)) (by decide) (by decide)))).other W5 (Or.inr (slot_ne (Or.inl (own_w54 hw)) (Or.inr (own_w24 hw)) (by decide) (t := .int) (t' := (.array .long)) (by decide) (by decide)))).other W8 (Or.inr (slot_ne (Or.inl (own_w54 hw)) (Or.inr (own_w26 hw)) (by decide) (t := .int) (t' := (.array .int)) (by decide) (by decide)))).other W11 (Or.inr (slot_ne (Or.inl (own_w54 hw)) (Or.inr (own_w28 hw)) (by decide) (t := .int) (t' := (.array .int)) (by decide) (by decide)))).ext E14).other W19 (Or.inr (slot_ne (Or.inl (own_w54 hw)) (Or.inr (own_w31 hw)) (by decide) (t := .int) (t' := (.array .boolean)) (by decide) (by decide)))).ext E27).other W32 (Or.inr (slot_ne (Or.inl (own_w54 hw)) (Or.inr (own_w33 hw)) (by decide) (t := .int) (t' := (.array .int)) (by decide) (by decide)))).ext E35).other W42 (Or.inr (slot_ne (Or.inl (own_w54 hw)) (Or.inr (own_w37 hw)) (by decide) (t := .int) (t' := (.array (.array .long))) (by decide) (by decide)))).ext E43).other W52 (Or.inr (slot_ne (Or.inl (own_w54 hw)) (Or.inr (own_w41 hw)) (by decide) (t := .int) (t' := (.array (.array .double))) (by decide) (by decide)))).ext E53).other W63 (Or.inr (slot_ne (Or.inl (own_w54 hw)) (Or.inr (own_w43 hw)) (by decide) (t := .int) (t' := (.array .int)) (by decide) (by decide))))
  have f71 := ((((((((((((((Fr_room.other W2 (Or.inr (slot_ne (Or.inl (own_w56 hw)) (Or.inr (own_w22 hw)) (by decide) (t := .long) (t' := (.array .double)) (by decide) (by decide)))).other W5 (Or.inr (slot_ne (Or.inl (own_w56 hw)) (Or.inr (own_w24 hw)) (by decide) (t := .long) (t' := (.array .long)) (by decide) (by decide)))).other W8 (Or.inr (slot_ne (Or.inl (own_w56 hw)) (Or.inr (own_w26 hw)) (by decide) (t := .long) (t' := (.array .int)) (by decide) (by decide)))).other W11 (Or.inr (slot_ne (Or.inl (own_w56 hw)) (Or.inr (own_w28 hw)) (by decide) (t := .long) (t' := (.array .int)) (by decide) (by decide)))).ext E14).other W19 (Or.inr (slot_ne (Or.inl (own_w56 hw)) (Or.inr (own_w31 hw)) (by decide) (t := .long) (t' := (.array .boolean)) (by decide) (by decide)))).ext E27).other W32 (Or.inr (slot_ne (Or.inl (own_w56 hw)) (Or.inr (own_w33 hw)) (by decide) (t := .long) (t' := (.array .int)) (by decide) (by decide)))).ext E35).other W42 (Or.inr (slot_ne (Or.inl (own_w56 hw)) (Or.inr (own_w37 hw)) (by decide) (t := .long) (t' := (.array (.array .long))) (by decide) (by decide)))).ext E43).other W52 (Or.inr (slot_ne (Or.inl (own_w56 hw)) (Or.inr (own_w41 hw)) (by decide) (t := .long) (t' := (.array (.array .double))) (by decide) (by decide)))).ext E53).other W63 (Or.inr (slot_ne (Or.inl (own_w56 hw)) (Or.inr (own_w43 hw)) (by decide) (t := .long) (t' := (.array .int)) (by decide) (by decide))))
  have f72 := ((((((((((((((Fr_most.other W2 (Or.inr (slot_ne (Or.inl (own_w62 hw)) (Or.inr (own_w22 hw)) (by decide) (t := .int) (t' := (.array .double)) (by decide) (by decide)))).other W5 (Or.inr (slot_ne (Or.inl (own_w62 hw)) (Or.inr (own_w24 hw)) (by decide) (t := .int) (t' := (.array .long)) (by decide) (by decide)))).other W8 (Or.inr (slot_ne (Or.inl (own_w62 hw)) (Or.inr (own_w26 hw)) (by decide) (t := .int) (t' := (.array .int)) (by decide) (by decide)))).other W11 (Or.inr (slot_ne (Or.inl (own_w62 hw)) (Or.inr (own_w28 hw)) (by decide) (t := .int) (t' := (.array .int)) (by decide) (by decide)))).ext E14).other W19 (Or.inr (slot_ne (Or.inl (own_w62 hw)) (Or.inr (own_w31 hw)) (by decide) (t := .int) (t' := (.array .boolean)) (by decide) (by decide)))).ext E27).other W32 (Or.inr (slot_ne (Or.inl (own_w62 hw)) (Or.inr (own_w33 hw)) (by decide) (t := .int) (t' := (.array .int)) (by decide) (by decide)))).ext E35).other W42 (Or.inr (slot_ne (Or.inl (own_w62 hw)) (Or.inr (own_w37 hw)) (by decide) (t := .int) (t' := (.array (.array .long))) (by decide) (by decide)))).ext E43).other W52 (Or.inr (slot_ne (Or.inl (own_w62 hw)) (Or.inr (own_w41 hw)) (by decide) (t := .int) (t' := (.array (.array .double))) (by decide) (by decide)))).ext E53).other W63 (Or.inr (slot_ne (Or.inl (own_w62 hw)) (Or.inr (own_w43 hw)) (by decide) (t := .int) (t' := (.array .int)) (by decide) (by decide))))
  have f73 := ((((Fw42.ext E43).other W52 (Or.inr (slot_ne (Or.inr (own_w37 hw)) (Or.inr (own_w41 hw)) (by decide) (t := (.array (.array .long))) (t' := (.array (.array .double))) (by decide) (by decide)))).ext E53).other W63 (Or.inr (slot_ne (Or.inr (own_w37 hw)) (Or.inr (own_w43 hw)) (by decide) (t := (.array (.array .long))) (t' := (.array .int)) (by decide) (by decide))))
  have f74 := ((((((((((((((Fr_rowsFilled.other W2 (Or.inr (slot_ne (Or.inl (own_w68 hw)) (Or.inr (own_w22 hw)) (by decide) (t := .int) (t' := (.array .double)) (by decide) (by decide)))).other W5 (Or.inr (slot_ne (Or.inl (own_w68 hw)) (Or.inr (own_w24 hw)) (by decide) (t := .int) (t' := (.array .long)) (by decide) (by decide)))).other W8 (Or.inr (slot_ne (Or.inl (own_w68 hw)) (Or.inr (own_w26 hw)) (by decide) (t := .int) (t' := (.array .int)) (by decide) (by decide)))).other W11 (Or.inr (slot_ne (Or.inl (own_w68 hw)) (Or.inr (own_w28 hw)) (by decide) (t := .int) (t' := (.array .int)) (by decide) (by decide)))).ext E14).other W19 (Or.inr (slot_ne (Or.inl (own_w68 hw)) (Or.inr (own_w31 hw)) (by decide) (t := .int) (t' := (.array .boolean)) (by decide) (by decide)))).ext E27).other W32 (Or.inr (slot_ne (Or.inl (own_w68 hw)) (Or.inr (own_w33 hw)) (by decide) (t := .int) (t' := (.array .int)) (by decide) (by decide)))).ext E35).other W42 (Or.inr (slot_ne (Or.inl (own_w68 hw)) (Or.inr (own_w37 hw)) (by decide) (t := .int) (t' := (.array (.array .long))) (by decide) (by decide)))).ext E43).other W52 (Or.inr (slot_ne (Or.inl (own_w68 hw)) (Or.inr (own_w41 hw)) (by decide) (t := .int) (t' := (.array (.array .double))) (by decide) (by decide)))).ext E53).other W63 (Or.inr (slot_ne (Or.inl (own_w68 hw)) (Or.inr (own_w43 hw)) (by decide) (t := .int) (t' := (.array .int)) (by decide) (by decide))))
  have f75 := ((f57.ext E53).other W63 (Ne.symm ne_a0r_b14))
  have f76 := ((f58.ext E53).other W63 (Ne.symm ne_a0r_b27))
  have f77 := ((f59.ext E53).other W63 (Ne.symm ne_a0r_b35))
  have f78 := (Vp_b53.other W63 (Ne.symm ne_a0r_b53))
  exact Goes.retV X63 hx e63 Bd.returns hlk (hb hby d3_112) (by decide) (by decide) (⟨rfl, N63, K_63, f64, b14, b27, b35, b53, k14, k27, k35, k53, (tt + (1 : Int32)), g_b14, sz_b14, g_b27, sz_b27, g_b35, sz_b35, g_b53, sz_b53, ne_b14_b27, ne_b14_b35, ne_b14_b53, ne_b27_b35, ne_b27_b53, ne_b35_b53, O35, (by omega), f65, f66, f67, f68, f69, f70, f71, f72, f73, f74, Fw63, f75, f76, f77, f78⟩)
theorem d5_11 : decode prog_38_method_2_code 11 = .ok (.aload_n 0, 1) := by decide +kernel
theorem d5_12 : decode prog_38_method_2_code 12 = .ok (.iload_n 2, 1) := by decide +kernel
theorem d5_13 : decode prog_38_method_2_code 13 = .ok (.putfield 52, 3) := by decide +kernel
theorem d5_16 : decode prog_38_method_2_code 16 = .ok (.aload_n 0, 1) := by decide +kernel
theorem d5_17 : decode prog_38_method_2_code 17 = .ok (.lload_n 3, 1) := by decide +kernel
theorem d5_18 : decode prog_38_method_2_code 18 = .ok (.putfield 56, 3) := by decide +kernel
theorem own_w55 {Z : State} {a0 : Array Value} (hw : ∀ d ∈ tables_1, d.before a0 Z = true) : (Jvm.Cond.fieldLink "com/example/errantry/errantry/staff/CompletionBounds" (56 : Nat) "com/example/errantry/errantry/staff/CompletionBounds" "room" "J").before a0 Z = true := hw _ (List.mem_of_getElem? (i := 55) rfl)
theorem d5_21 : decode prog_38_method_2_code 21 = .ok (.aload_n 0, 1) := by decide +kernel
theorem d5_22 : decode prog_38_method_2_code 22 = .ok (.aload_n 0, 1) := by decide +kernel
theorem d5_23 : decode prog_38_method_2_code 23 = .ok (.iload_n 2, 1) := by decide +kernel
theorem d5_24 : decode prog_38_method_2_code 24 = .ok (.lload_n 3, 1) := by decide +kernel
theorem d5_25 : decode prog_38_method_2_code 25 = .ok (.invokevirtual 60, 3) := by decide +kernel
theorem own_w57 {Z : State} {a0 : Array Value} (hw : ∀ d ∈ tables_1, d.before a0 Z = true) : (Jvm.Cond.methodLink "com/example/errantry/errantry/staff/CompletionBounds" (60 : Nat) ({ cls := "com/example/errantry/errantry/staff/CompletionBounds", name := "mostFitting", desc := "(IJ)I" } : Jvm.MethodName)).before a0 Z = true := hw _ (List.mem_of_getElem? (i := 57) rfl)
theorem own_w60 {Z : State} {a0 : Array Value} (hw : ∀ d ∈ tables_1, d.before a0 Z = true) : (Jvm.Cond.code ({ cls := "com/example/errantry/errantry/staff/CompletionBounds", name := "mostFitting", desc := "(IJ)I" } : Jvm.MethodName) prog_38_method_3_code (11 : Nat) (Option.some Jvm.ClassFile.FieldType.int)).before a0 Z = true := hw _ (List.mem_of_getElem? (i := 60) rfl)
theorem own_w13 {Z : State} {a0 : Array Value} (hw : ∀ d ∈ tables_1, d.before a0 Z = true) : (Jvm.Cond.initialized "com/example/errantry/errantry/staff/CompletionBounds").before a0 Z = true := hw _ (List.mem_of_getElem? (i := 13) rfl)
theorem pd_3 : parseMethodDescriptor "(IJ)I" = some ⟨[.int, .long], some .int⟩ := by decide +kernel
theorem own_w58 {Z : State} {a0 : Array Value} (hw : ∀ d ∈ tables_1, d.before a0 Z = true) : (Jvm.Cond.instanceMethod ({ cls := "com/example/errantry/errantry/staff/CompletionBounds", name := "mostFitting", desc := "(IJ)I" } : Jvm.MethodName)).before a0 Z = true := hw _ (List.mem_of_getElem? (i := 58) rfl)
theorem own_selp {Z : State} {a0 : Array Value} {y : MethodName} {n : Nat} (w1 : (Jvm.Cond.instantiable y.cls n).before a0 Z = true) (w2 : (Jvm.Cond.instanceMethod y).before a0 Z = true) (w3 : (Jvm.Cond.privateMethod y).before a0 Z = true) (hy : y.cls ≠ "java/lang/invoke/MethodHandle" ∧ y.cls ≠ "java/lang/invoke/VarHandle") : (Jvm.Cond.selects y.cls y y).before a0 Z = true := by
  obtain ⟨c, k, hc, hk, -, hni, -⟩ := Cond.instantiable_spec w1
  rw [Bool.or_eq_false_iff] at hni
  exact Jvm.Stand.selects_self_of_private hc hk hni.1 (Cond.privateMethod_at w3) w2 hy
theorem own_w59 {Z : State} {a0 : Array Value} (hw : ∀ d ∈ tables_1, d.before a0 Z = true) : (Jvm.Cond.privateMethod ({ cls := "com/example/errantry/errantry/staff/CompletionBounds", name := "mostFitting", desc := "(IJ)I" } : Jvm.MethodName)).before a0 Z = true := hw _ (List.mem_of_getElem? (i := 59) rfl)
theorem d5_28 : decode prog_38_method_2_code 28 = .ok (.putfield 64, 3) := by decide +kernel
theorem d5_31 : decode prog_38_method_2_code 31 = .ok (.aload_n 0, 1) := by decide +kernel
theorem d5_32 : decode prog_38_method_2_code 32 = .ok (.getfield 34, 3) := by decide +kernel
theorem d5_35 : decode prog_38_method_2_code 35 = .ok (.iconst 0, 1) := by decide +kernel
theorem d5_36 : decode prog_38_method_2_code 36 = .ok (.aload_n 0, 1) := by decide +kernel
theorem d5_37 : decode prog_38_method_2_code 37 = .ok (.getfield 34, 3) := by decide +kernel
theorem d5_40 : decode prog_38_method_2_code 40 = .ok (.iconst 0, 1) := by decide +kernel
theorem d5_41 : decode prog_38_method_2_code 41 = .ok (.aaload, 1) := by decide +kernel
theorem d5_42 : decode prog_38_method_2_code 42 = .ok (.aload_n 0, 1) := by decide +kernel
theorem d5_43 : decode prog_38_method_2_code 43 = .ok (.getfield 64, 3) := by decide +kernel
theorem d5_46 : decode prog_38_method_2_code 46 = .ok (.invokestatic 67, 3) := by decide +kernel
theorem own_w63 {Z : State} {a0 : Array Value} (hw : ∀ d ∈ tables_1, d.before a0 Z = true) : (Jvm.Cond.methodLink "com/example/errantry/errantry/staff/CompletionBounds" (67 : Nat) ({ cls := "com/example/errantry/errantry/staff/CompletionBounds", name := "row", desc := "([JI)[J" } : Jvm.MethodName)).before a0 Z = true := hw _ (List.mem_of_getElem? (i := 63) rfl)
theorem own_w65 {Z : State} {a0 : Array Value} (hw : ∀ d ∈ tables_1, d.before a0 Z = true) : (Jvm.Cond.code ({ cls := "com/example/errantry/errantry/staff/CompletionBounds", name := "row", desc := "([JI)[J" } : Jvm.MethodName) prog_38_method_4_code (2 : Nat) (Option.some (Jvm.ClassFile.FieldType.array Jvm.ClassFile.FieldType.long))).before a0 Z = true := hw _ (List.mem_of_getElem? (i := 65) rfl)
theorem pd_4 : parseMethodDescriptor "([JI)[J" = some ⟨[(.array .long), .int], some (.array .long)⟩ := by decide +kernel
theorem own_w64 {Z : State} {a0 : Array Value} (hw : ∀ d ∈ tables_1, d.before a0 Z = true) : (Jvm.Cond.static ({ cls := "com/example/errantry/errantry/staff/CompletionBounds", name := "row", desc := "([JI)[J" } : Jvm.MethodName)).before a0 Z = true := hw _ (List.mem_of_getElem? (i := 64) rfl)
theorem d5_49 : decode prog_38_method_2_code 49 = .ok (.aastore, 1) := by decide +kernel
theorem d5_50 : decode prog_38_method_2_code 50 = .ok (.aload_n 0, 1) := by decide +kernel
theorem d5_51 : decode prog_38_method_2_code 51 = .ok (.getfield 34, 3) := by decide +kernel
theorem d5_54 : decode prog_38_method_2_code 54 = .ok (.iconst 0, 1) := by decide +kernel
theorem d5_55 : decode prog_38_method_2_code 55 = .ok (.aaload, 1) := by decide +kernel
theorem d5_56 : decode prog_38_method_2_code 56 = .ok (.iconst 0, 1) := by decide +kernel
theorem d5_57 : decode prog_38_method_2_code 57 = .ok (.lconst 0, 1) := by decide +kernel
theorem d5_58 : decode prog_38_method_2_code 58 = .ok (.lastore, 1) := by decide +kernel
theorem d5_89 : decode prog_38_method_2_code 89 = .ok (.iconst 1, 1) := by decide +kernel
theorem d5_90 : decode prog_38_method_2_code 90 = .ok (.istore 5, 2) := by decide +kernel
theorem d5_92 : decode prog_38_method_2_code 92 = .ok (.iload 5, 2) := by decide +kernel
theorem d5_94 : decode prog_38_method_2_code 94 = .ok (.iload_n 2, 1) := by decide +kernel
theorem d5_95 : decode prog_38_method_2_code 95 = .ok (.if_icmp .gt 63, 3) := by decide +kernel
theorem d5_158 : decode prog_38_method_2_code 158 = .ok (.aload_n 0, 1) := by decide +kernel
theorem d5_159 : decode prog_38_method_2_code 159 = .ok (.iconst 0, 1) := by decide +kernel
theorem d5_160 : decode prog_38_method_2_code 160 = .ok (.putfield 77, 3) := by decide +kernel
theorem own_w67 {Z : State} {a0 : Array Value} (hw : ∀ d ∈ tables_1, d.before a0 Z = true) : (Jvm.Cond.fieldLink "com/example/errantry/errantry/staff/CompletionBounds" (77 : Nat) "com/example/errantry/errantry/staff/CompletionBounds" "rowsFilled" "I").before a0 Z = true := hw _ (List.mem_of_getElem? (i := 67) rfl)
theorem d5_163 : decode prog_38_method_2_code 163 = .ok (.aload_n 0, 1) := by decide +kernel
theorem d5_164 : decode prog_38_method_2_code 164 = .ok (.getfield 43, 3) := by decide +kernel
theorem d5_167 : decode prog_38_method_2_code 167 = .ok (.iconst 1, 1) := by decide +kernel
theorem d5_168 : decode prog_38_method_2_code 168 = .ok (.invokestatic 80, 3) := by decide +kernel
theorem own_w69 {Z : State} {a0 : Array Value} (hw : ∀ d ∈ tables_1, d.before a0 Z = true) : (Jvm.Cond.methodLink "com/example/errantry/errantry/staff/CompletionBounds" (80 : Nat) ({ cls := "java/util/Arrays", name := "fill", desc := "([II)V" } : Jvm.MethodName)).before a0 Z = true := hw _ (List.mem_of_getElem? (i := 69) rfl)
theorem own_w72 {Z : State} {a0 : Array Value} (hw : ∀ d ∈ tables_1, d.before a0 Z = true) : (Jvm.Cond.code ({ cls := "java/util/Arrays", name := "fill", desc := "([II)V" } : Jvm.MethodName) jdk_65_method_103_code (4 : Nat) (Option.none : Option Jvm.ClassFile.FieldType)).before a0 Z = true := hw _ (List.mem_of_getElem? (i := 72) rfl)
theorem own_w71 {Z : State} {a0 : Array Value} (hw : ∀ d ∈ tables_1, d.before a0 Z = true) : (Jvm.Cond.initialized "java/util/Arrays").before a0 Z = true := hw _ (List.mem_of_getElem? (i := 71) rfl)
theorem pd_5 : parseMethodDescriptor "([II)V" = some ⟨[(.array .int), .int], none⟩ := by decide +kernel
theorem own_w70 {Z : State} {a0 : Array Value} (hw : ∀ d ∈ tables_1, d.before a0 Z = true) : (Jvm.Cond.static ({ cls := "java/util/Arrays", name := "fill", desc := "([II)V" } : Jvm.MethodName)).before a0 Z = true := hw _ (List.mem_of_getElem? (i := 70) rfl)
theorem d5_171 : decode prog_38_method_2_code 171 = .ok (.return_, 1) := by decide +kernel
theorem d5_98 : decode prog_38_method_2_code 98 = .ok (.aload_n 0, 1) := by decide +kernel
theorem d5_99 : decode prog_38_method_2_code 99 = .ok (.getfield 34, 3) := by decide +kernel
theorem d5_102 : decode prog_38_method_2_code 102 = .ok (.iload 5, 2) := by decide +kernel
theorem d5_104 : decode prog_38_method_2_code 104 = .ok (.aload_n 0, 1) := by decide +kernel
theorem d5_105 : decode prog_38_method_2_code 105 = .ok (.getfield 34, 3) := by decide +kernel
theorem d5_108 : decode prog_38_method_2_code 108 = .ok (.iload 5, 2) := by decide +kernel
theorem d5_110 : decode prog_38_method_2_code 110 = .ok (.aaload, 1) := by decide +kernel
theorem d5_111 : decode prog_38_method_2_code 111 = .ok (.aload_n 0, 1) := by decide +kernel
theorem d5_112 : decode prog_38_method_2_code 112 = .ok (.getfield 64, 3) := by decide +kernel
theorem d5_115 : decode prog_38_method_2_code 115 = .ok (.invokestatic 67, 3) := by decide +kernel
theorem d5_118 : decode prog_38_method_2_code 118 = .ok (.aastore, 1) := by decide +kernel
theorem d5_119 : decode prog_38_method_2_code 119 = .ok (.aload_n 0, 1) := by decide +kernel
theorem d5_120 : decode prog_38_method_2_code 120 = .ok (.aload_n 0, 1) := by decide +kernel
theorem d5_121 : decode prog_38_method_2_code 121 = .ok (.getfield 34, 3) := by decide +kernel
theorem d5_124 : decode prog_38_method_2_code 124 = .ok (.iload 5, 2) := by decide +kernel
theorem d5_126 : decode prog_38_method_2_code 126 = .ok (.iconst 1, 1) := by decide +kernel
theorem d5_127 : decode prog_38_method_2_code 127 = .ok (.isub, 1) := by decide +kernel
theorem d5_128 : decode prog_38_method_2_code 128 = .ok (.aaload, 1) := by decide +kernel
theorem d5_129 : decode prog_38_method_2_code 129 = .ok (.aload_n 0, 1) := by decide +kernel
theorem d5_130 : decode prog_38_method_2_code 130 = .ok (.getfield 34, 3) := by decide +kernel
theorem d5_133 : decode prog_38_method_2_code 133 = .ok (.iload 5, 2) := by decide +kernel
theorem d5_135 : decode prog_38_method_2_code 135 = .ok (.aaload, 1) := by decide +kernel
theorem d5_136 : decode prog_38_method_2_code 136 = .ok (.aload_n 0, 1) := by decide +kernel
theorem d5_137 : decode prog_38_method_2_code 137 = .ok (.getfield 30, 3) := by decide +kernel
theorem d5_140 : decode prog_38_method_2_code 140 = .ok (.iload 5, 2) := by decide +kernel
theorem d5_142 : decode prog_38_method_2_code 142 = .ok (.iconst 1, 1) := by decide +kernel
theorem d5_143 : decode prog_38_method_2_code 143 = .ok (.isub, 1) := by decide +kernel
theorem d5_144 : decode prog_38_method_2_code 144 = .ok (.iaload, 1) := by decide +kernel
theorem d5_145 : decode prog_38_method_2_code 145 = .ok (.aload_n 0, 1) := by decide +kernel
theorem d5_146 : decode prog_38_method_2_code 146 = .ok (.getfield 64, 3) := by decide +kernel
theorem d5_149 : decode prog_38_method_2_code 149 = .ok (.invokevirtual 73, 3) := by decide +kernel
theorem own_w104 {Z : State} {a0 : Array Value} (hw : ∀ d ∈ tables_1, d.before a0 Z = true) : (Jvm.Cond.methodLink "com/example/errantry/errantry/staff/CompletionBounds" (73 : Nat) ({ cls := "com/example/errantry/errantry/staff/CompletionBounds", name := "addGroup", desc := "([J[JII)V" } : Jvm.MethodName)).before a0 Z = true := hw _ (List.mem_of_getElem? (i := 104) rfl)
theorem own_w107 {Z : State} {a0 : Array Value} (hw : ∀ d ∈ tables_1, d.before a0 Z = true) : (Jvm.Cond.code ({ cls := "com/example/errantry/errantry/staff/CompletionBounds", name := "addGroup", desc := "([J[JII)V" } : Jvm.MethodName) prog_38_method_5_code (12 : Nat) (Option.none : Option Jvm.ClassFile.FieldType)).before a0 Z = true := hw _ (List.mem_of_getElem? (i := 107) rfl)
theorem pd_6 : parseMethodDescriptor "([J[JII)V" = some ⟨[(.array .long), (.array .long), .int, .int], none⟩ := by decide +kernel
theorem own_w105 {Z : State} {a0 : Array Value} (hw : ∀ d ∈ tables_1, d.before a0 Z = true) : (Jvm.Cond.instanceMethod ({ cls := "com/example/errantry/errantry/staff/CompletionBounds", name := "addGroup", desc := "([J[JII)V" } : Jvm.MethodName)).before a0 Z = true := hw _ (List.mem_of_getElem? (i := 105) rfl)
theorem own_w106 {Z : State} {a0 : Array Value} (hw : ∀ d ∈ tables_1, d.before a0 Z = true) : (Jvm.Cond.privateMethod ({ cls := "com/example/errantry/errantry/staff/CompletionBounds", name := "addGroup", desc := "([J[JII)V" } : Jvm.MethodName)).before a0 Z = true := hw _ (List.mem_of_getElem? (i := 106) rfl)
theorem d5_152 : decode prog_38_method_2_code 152 = .ok (.iinc 5 1, 3) := by decide +kernel
theorem d5_155 : decode prog_38_method_2_code 155 = .ok (.goto (-63), 3) := by decide +kernel
theorem d5_59 : decode prog_38_method_2_code 59 = .ok (.iconst 1, 1) := by decide +kernel
theorem d5_60 : decode prog_38_method_2_code 60 = .ok (.istore 5, 2) := by decide +kernel
theorem d5_62 : decode prog_38_method_2_code 62 = .ok (.iload 5, 2) := by decide +kernel
theorem d5_64 : decode prog_38_method_2_code 64 = .ok (.aload_n 0, 1) := by decide +kernel
theorem d5_65 : decode prog_38_method_2_code 65 = .ok (.getfield 64, 3) := by decide +kernel
theorem d5_68 : decode prog_38_method_2_code 68 = .ok (.if_icmp .gt 21, 3) := by decide +kernel
theorem d5_71 : decode prog_38_method_2_code 71 = .ok (.aload_n 0, 1) := by decide +kernel
theorem d5_72 : decode prog_38_method_2_code 72 = .ok (.getfield 34, 3) := by decide +kernel
theorem d5_75 : decode prog_38_method_2_code 75 = .ok (.iconst 0, 1) := by decide +kernel
theorem d5_76 : decode prog_38_method_2_code 76 = .ok (.aaload, 1) := by decide +kernel
theorem d5_77 : decode prog_38_method_2_code 77 = .ok (.iload 5, 2) := by decide +kernel
theorem d5_79 : decode prog_38_method_2_code 79 = .ok (.ldc2_w 71, 3) := by decide +kernel
theorem d5_82 : decode prog_38_method_2_code 82 = .ok (.lastore, 1) := by decide +kernel
theorem d5_83 : decode prog_38_method_2_code 83 = .ok (.iinc 5 1, 3) := by decide +kernel
theorem d5_86 : decode prog_38_method_2_code 86 = .ok (.goto (-24), 3) := by decide +kernel
theorem d5_0 : decode prog_38_method_2_code 0 = .ok (.aload_n 1, 1) := by decide +kernel
theorem d5_1 : decode prog_38_method_2_code 1 = .ok (.iconst 0, 1) := by decide +kernel
theorem d5_2 : decode prog_38_method_2_code 2 = .ok (.aload_n 0, 1) := by decide +kernel
theorem d5_3 : decode prog_38_method_2_code 3 = .ok (.getfield 30, 3) := by decide +kernel
theorem d5_6 : decode prog_38_method_2_code 6 = .ok (.iconst 0, 1) := by decide +kernel
theorem d5_7 : decode prog_38_method_2_code 7 = .ok (.iload_n 2, 1) := by decide +kernel
theorem d5_8 : decode prog_38_method_2_code 8 = .ok (.invokestatic 46, 3) := by decide +kernel
theorem own_w49 {Z : State} {a0 : Array Value} (hw : ∀ d ∈ tables_1, d.before a0 Z = true) : (Jvm.Cond.methodLink "com/example/errantry/errantry/staff/CompletionBounds" (46 : Nat) ({ cls := "java/lang/System", name := "arraycopy", desc := "(Ljava/lang/Object;ILjava/lang/Object;II)V" } : Jvm.MethodName)).before a0 Z = true := hw _ (List.mem_of_getElem? (i := 49) rfl)
theorem own_w52 {Z : State} {a0 : Array Value} (hw : ∀ d ∈ tables_1, d.before a0 Z = true) : (Jvm.Cond.native ({ cls := "java/lang/System", name := "arraycopy", desc := "(Ljava/lang/Object;ILjava/lang/Object;II)V" } : Jvm.MethodName)).before a0 Z = true := hw _ (List.mem_of_getElem? (i := 52) rfl)
theorem own_w50 {Z : State} {a0 : Array Value} (hw : ∀ d ∈ tables_1, d.before a0 Z = true) : (Jvm.Cond.static ({ cls := "java/lang/System", name := "arraycopy", desc := "(Ljava/lang/Object;ILjava/lang/Object;II)V" } : Jvm.MethodName)).before a0 Z = true := hw _ (List.mem_of_getElem? (i := 50) rfl)
theorem own_w51 {Z : State} {a0 : Array Value} (hw : ∀ d ∈ tables_1, d.before a0 Z = true) : (Jvm.Cond.initialized "java/lang/System").before a0 Z = true := hw _ (List.mem_of_getElem? (i := 51) rfl)
theorem ef_rmRS (m : MethodId) (x0 : Addr) (x1 : Addr) (x2 : Int32) (x3 : Int64) : entryFrame m #[(.ref x0), (.ref x1), (.int x2), (.long x3)] 6 = mkF m 0 #[.val (.ref x0), .val (.ref x1), .val (.int x2), .val (.long x3), .second, .unset] [] := by first | (simp [entryFrame, mkF, argsToLocals, Value.category]; done) | rfl
def QRS (Z : State) (a1 : Addr) (pgA : Addr) (kg : ClassId) (plA : Addr) (kp : ClassId) (pbA : Addr) (kb : ClassId) (qA : Addr) (kq : ClassId) (cA : Addr) (kC : ClassId) (mA : Addr) (kM : ClassId) (chA : Addr) (kc : ClassId) (ffA : Addr) (kf : ClassId) (zf : Int32) (ct0 : Int64) (ct1 : Int64) (ct2 : Int64) (mb0 : Int32) (mb1 : Int32) (mb2 : Int32) (bc0 : Int32) (bc1 : Int32) (bc2 : Int32) (x0 : Int32) (x1 : Int32) (x2 : Int32) (n : Int32) (rm : Int64) (h0 : Heap) (n0 : Nat) (v : Option Value) (h : Heap) (L : List Loc) : Prop := v = none ∧ Fr n0 L ∧ Keep h0 h [a1, plA, pbA, chA, ffA] ∧ ∃ (mo : Int32) (rl : List Value) (rn : Addr) (kr : ClassId) (B : List Int64) (el : Nat → Int) (t : Nat), 0 ≤ mo.toInt ∧ mo.toInt ≤ 12 ∧ mo.toInt ≤ own_em n x0 x1 x2 mb0 0 + own_em n x0 x1 x2 mb1 1 + own_em n x0 x1 x2 mb2 2 ∧ Exa Z h a1 "com/example/errantry/errantry/staff/CompletionBounds" ∧ Fld Z h a1 "com/example/errantry/errantry/staff/CompletionBounds" "cheapest" "[[J" (.ref chA) ∧ Fld Z h a1 "com/example/errantry/errantry/staff/CompletionBounds" "poolSize" "I" (.int n) ∧ Fld Z h a1 "com/example/errantry/errantry/staff/CompletionBounds" "most" "I" (.int mo) ∧ Arv Z h chA kc (.array .long) (4 : Int32) rl .null ∧ rl.getD n.toNatClampNeg .null = .ref rn ∧ Arv Z h rn kr .long (mo + (1 : Int32)) (B.map Value.long) (.long 0) ∧ own_R B el t mo.toNatClampNeg ∧ own_chain mo.toNatClampNeg (own_gl [ct0, ct1, ct2] [mb0, mb1, mb2] n x0 x1 x2) el t
set_option maxRecDepth 65536 in
set_option maxHeartbeats 40000000 in
theorem rmRS (l : Launch) (Z : State) (a0 : Array Value) (hw : ∀ d ∈ tables_1, d.before a0 Z = true) (ws : List Jvm.Cond) (a1 : Addr) (pgA : Addr) (kg : ClassId) (plA : Addr) (kp : ClassId) (pbA : Addr) (kb : ClassId) (qA : Addr) (kq : ClassId) (cA : Addr) (kC : ClassId) (mA : Addr) (kM : ClassId) (chA : Addr) (kc : ClassId) (ffA : Addr) (kf : ClassId) (zf : Int32) (ct0 : Int64) (ct1 : Int64) (ct2 : Int64) (mb0 : Int32) (mb1 : Int32) (mb2 : Int32) (bc0 : Int32) (bc1 : Int32) (bc2 : Int32) (x0 : Int32) (x1 : Int32) (x2 : Int32) (n : Int32) (rm : Int64) (h0 : Heap) (n0 : Nat) (O0 : Old Z n0 h0) (Er : Exa Z h0 a1 "com/example/errantry/errantry/staff/CompletionBounds") (g_a1 : n0 ≤ a1) (g_plA : n0 ≤ plA) (g_pbA : n0 ≤ pbA) (g_chA : n0 ≤ chA) (g_ffA : n0 ≤ ffA) (Fr_pooled : Fld Z h0 a1 "com/example/errantry/errantry/staff/CompletionBounds" "pooled" "[Z" (.ref pbA)) (Fr_pool : Fld Z h0 a1 "com/example/errantry/errantry/staff/CompletionBounds" "pool" "[I" (.ref plA)) (Fr_byCost : Fld Z h0 a1 "com/example/errantry/errantry/staff/CompletionBounds" "byCost" "[I" (.ref qA)) (Fr_cost : Fld Z h0 a1 "com/example/errantry/errantry/staff/CompletionBounds" "cost" "[J" (.ref cA)) (Fr_members : Fld Z h0 a1 "com/example/errantry/errantry/staff/CompletionBounds" "members" "[I" (.ref mA)) (Fr_cheapest : Fld Z h0 a1 "com/example/errantry/errantry/staff/CompletionBounds" "cheapest" "[[J" (.ref chA)) (Fr_firstFitting : Fld Z h0 a1 "com/example/errantry/errantry/staff/CompletionBounds" "firstFitting" "[I" (.ref ffA)) (Fr_poolSize : Fld Z h0 a1 "com/example/errantry/errantry/staff/CompletionBounds" "poolSize" "I" (.int 0)) (Fr_room : Fld Z h0 a1 "com/example/errantry/errantry/staff/CompletionBounds" "room" "J" (.long 0)) (Fr_most : Fld Z h0 a1 "com/example/errantry/errantry/staff/CompletionBounds" "most" "I" (.int 0)) (Fr_rowsFilled : Fld Z h0 a1 "com/example/errantry/errantry/staff/CompletionBounds" "rowsFilled" "I" (.int 0)) (Vpg : Arv Z h0 pgA kg .int (3 : Int32) [.int x0, .int x1, .int x2] (.int 0)) (Vpl : Arv Z h0 plA kp .int (3 : Int32) [.int 0, .int 0, .int 0] (.int 0)) (Vpb : Arv Z h0 pbA kb .boolean (3 : Int32) (([0, 0, 0] : List Int32).map Value.int) (.int 0)) (Vbc : Arv Z h0 qA kq .int (3 : Int32) [.int bc0, .int bc1, .int bc2] (.int 0)) (VC : Arv Z h0 cA kC .long (3 : Int32) [.long ct0, .long ct1, .long ct2] (.long 0)) (VM : Arv Z h0 mA kM .int (3 : Int32) [.int mb0, .int mb1, .int mb2] (.int 0)) (Vch : Arv Z h0 chA kc (.array .long) (4 : Int32) [.null, .null, .null, .null] .null) (Vff : Arv Z h0 ffA kf .int zf (List.replicate zf.toNatClampNeg (.int 0)) (.int 0)) (Ov : OvrA Z kc .long "[J") (hzf : 0 ≤ zf.toInt ∧ zf.toInt < 1000) (ne_a1_pgA : a1 ≠ pgA) (ne_a1_plA : a1 ≠ plA) (ne_a1_pbA : a1 ≠ pbA) (ne_a1_qA : a1 ≠ qA) (ne_a1_cA : a1 ≠ cA) (ne_a1_mA : a1 ≠ mA) (ne_a1_chA : a1 ≠ chA) (ne_a1_ffA : a1 ≠ ffA) (ne_pgA_plA : pgA ≠ plA) (ne_pgA_pbA : pgA ≠ pbA) (ne_pgA_chA : pgA ≠ chA) (ne_pgA_ffA : pgA ≠ ffA) (ne_plA_pbA : plA ≠ pbA) (ne_plA_qA : plA ≠ qA) (ne_plA_cA : plA ≠ cA) (ne_plA_mA : plA ≠ mA) (ne_plA_chA : plA ≠ chA) (ne_plA_ffA : plA ≠ ffA) (ne_pbA_qA : pbA ≠ qA) (ne_pbA_cA : pbA ≠ cA) (ne_pbA_mA : pbA ≠ mA) (ne_pbA_chA : pbA ≠ chA) (ne_pbA_ffA : pbA ≠ ffA) (ne_qA_chA : qA ≠ chA) (ne_qA_ffA : qA ≠ ffA) (ne_cA_chA : cA ≠ chA) (ne_cA_ffA : cA ≠ ffA) (ne_mA_chA : mA ≠ chA) (ne_mA_ffA : mA ≠ ffA) (ne_chA_ffA : chA ≠ ffA) (hn : 0 ≤ n.toInt ∧ n.toInt ≤ 3) (hx0 : 0 < n.toInt → 0 ≤ x0.toInt ∧ x0.toInt ≤ 2) (hx1 : 1 < n.toInt → 0 ≤ x1.toInt ∧ x1.toInt ≤ 2) (hx2 : 2 < n.toInt → 0 ≤ x2.toInt ∧ x2.toInt ≤ 2) (hpm : own_perm bc0 bc1 bc2) (hr : 0 ≤ rm.toInt ∧ rm.toInt < 1152921504606846976) (hC0 : 0 ≤ ct0.toInt ∧ ct0.toInt < 1099511627776) (hC1 : 0 ≤ ct1.toInt ∧ ct1.toInt < 1099511627776) (hC2 : 0 ≤ ct2.toInt ∧ ct2.toInt < 1099511627776) (hM0 : 1 ≤ mb0.toInt ∧ mb0.toInt ≤ 4) (hM1 : 1 ≤ mb1.toInt ∧ mb1.toInt ≤ 4) (hM2 : 1 ≤ mb2.toInt ∧ mb2.toInt ≤ 4) :
    MetFree l (⟨"com/example/errantry/errantry/staff/CompletionBounds", "reset", "([IIJ)V"⟩ : MethodName) (head1 (Jvm.Cond.code (⟨"com/example/errantry/errantry/staff/CompletionBounds", "reset", "([IIJ)V"⟩ : MethodName) prog_38_method_2_code 6 none :: ws) ({ frames := 2, cells := 4, slots := 52, locals := 38 } : Room)) (fun a U => a = #[(.ref a1), (.ref pgA), (.int n), (.long rm)] ∧ Z.Warmed39 U.vm ∧ U.heap = h0) (fun _ _ _ _ _ => True) (fun _ U o U' => ∃ v L, o = .returned v ∧ QRS Z a1 pgA kg plA kp pbA kb qA kq cA kC mA kM chA kc ffA kf zf ct0 ct1 ct2 mb0 mb1 mb2 bc0 bc1 bc2 x0 x1 x2 n rm h0 n0 v U'.heap L ∧ FrameEnd U o U' L ({ frames := 2, cells := 4, slots := 52, locals := 38 } : Room).cells ({ frames := 2, cells := 4, slots := 52, locals := 38 } : Room).slots) := by
  refine MetFree.of_bodySF (plainFor_of_name pn_CompletionBounds) hisR ?_
  intro p e s m args below meth c s₁ Bd hml0 hP hK
  obtain ⟨rfl, hZ, hh⟩ := hP
  have hx := Bd.exec
  have hby := Bd.bytes
  have hlk : meth.locks = false := BodyLoose.notSynchronized Bd
  have hml : c.maxLocals = 6 := hml0
  have hown : s.vm.findClass "com/example/errantry/errantry/staff/CompletionBounds" = some m.cls := findClass_of_methodNamed Bd.named
  have hnm := (name_of_methodNamed Bd.named Bd.method).1
  have X0 : Stand p l e ({ frames := 2, cells := 4, slots := 52, locals := 38 } : Room) s m #[(.ref a1), (.ref pgA), (.int n), (.long rm)] below meth c s₁ [] 0 0 := Stand.of_body Bd
  have e0 : s₁.heap = h0 := by rw [← hh, Bd.state]; rfl
  have N0 := Fr.nil n0
  show Goes p e below s (QRS Z a1 pgA kg plA kp pbA kb qA kq cA kC mA kM chA kc ffA kf zf ct0 ct1 ct2 mb0 mb1 mb2 bc0 bc1 bc2 x0 x1 x2 n rm h0 n0) ({ frames := 2, cells := 4, slots := 52, locals := 38 } : Room).cells ({ frames := 2, cells := 4, slots := 52, locals := 38 } : Room).slots (s₁.setTop (entryFrame m #[(.ref a1), (.ref pgA), (.int n), (.long rm)] 6))
  refine Goes.enter (g' := (mkF m 0 #[.val (.ref a1), .val (.ref pgA), .val (.int n), .val (.long rm), .second, .unset] [])) (ef_rmRS m a1 pgA n rm) ?_
  have J1 : ∀ (Tj1 : State) (Hj1 : Heap) (lj1 : List Loc) (y0 : Int32) (y1 : Int32) (y2 : Int32), Stand p l e ({ frames := 2, cells := 4, slots := 52, locals := 38 } : Room) s m #[(.ref a1), (.ref pgA), (.int n), (.long rm)] below meth c Tj1 lj1 0 0 → Tj1.heap = Hj1 → Old Z n0 Hj1 → Fr n0 lj1 → Keep h0 Hj1 [a1, plA, pbA, chA, ffA] → Exa Z Hj1 a1 "com/example/errantry/errantry/staff/CompletionBounds" → Fld Z Hj1 a1 "com/example/errantry/errantry/staff/CompletionBounds" "pooled" "[Z" (.ref pbA) → Fld Z Hj1 a1 "com/example/errantry/errantry/staff/CompletionBounds" "pool" "[I" (.ref plA) → Fld Z Hj1 a1 "com/example/errantry/errantry/staff/CompletionBounds" "byCost" "[I" (.ref qA) → Fld Z Hj1 a1 "com/example/errantry/errantry/staff/CompletionBounds" "cost" "[J" (.ref cA) → Fld Z Hj1 a1 "com/example/errantry/errantry/staff/CompletionBounds" "members" "[I" (.ref mA) → Fld Z Hj1 a1 "com/example/errantry/errantry/staff/CompletionBounds" "cheapest" "[[J" (.ref chA) → Fld Z Hj1 a1 "com/example/errantry/errantry/staff/CompletionBounds" "firstFitting" "[I" (.ref ffA) → Fld Z Hj1 a1 "com/example/errantry/errantry/staff/CompletionBounds" "poolSize" "I" (.int 0) → Fld Z Hj1 a1 "com/example/errantry/errantry/staff/CompletionBounds" "room" "J" (.long 0) → Fld Z Hj1 a1 "com/example/errantry/errantry/staff/CompletionBounds" "most" "I" (.int 0) → Fld Z Hj1 a1 "com/example/errantry/errantry/staff/CompletionBounds" "rowsFilled" "I" (.int 0) → Arv Z Hj1 plA kp .int (3 : Int32) [(.int y0), (.int y1), (.int y2)] (.int 0) → Arv Z Hj1 pbA kb .boolean (3 : Int32) (([0, 0, 0] : List Int32).map Value.int) (.int 0) → Arv Z Hj1 qA kq .int (3 : Int32) [(.int bc0), (.int bc1), (.int bc2)] (.int 0) → Arv Z Hj1 cA kC .long (3 : Int32) [(.long ct0), (.long ct1), (.long ct2)] (.long 0) → Arv Z Hj1 mA kM .int (3 : Int32) [(.int mb0), (.int mb1), (.int mb2)] (.int 0) → Arv Z Hj1 chA kc (.array .long) (4 : Int32) [.null, .null, .null, .null] .null → Arv Z Hj1 ffA kf .int zf (List.replicate zf.toNatClampNeg (.int 0)) (.int 0) → ((0 < n.toInt → y0 = x0) ∧ (1 < n.toInt → y1 = x1) ∧ (2 < n.toInt → y2 = x2)) → Goes p e below s (QRS Z a1 pgA kg plA kp pbA kb qA kq cA kC mA kM chA kc ffA kf zf ct0 ct1 ct2 mb0 mb1 mb2 bc0 bc1 bc2 x0 x1 x2 n rm h0 n0) ({ frames := 2, cells := 4, slots := 52, locals := 38 } : Room).cells ({ frames := 2, cells := 4, slots := 52, locals := 38 } : Room).slots (Tj1.setTop (mkF m 11 #[.val (.ref a1), .val (.ref pgA), .val (.int n), .val (.long rm), .second, .unset] [])) := by
   intro Tj1 Hj1 lj1 y0 y1 y2 Xj1 ej1 Oj1 Nj1 Kj1 fj1_0 fj1_1 fj1_2 fj1_3 fj1_4 fj1_5 fj1_6 fj1_7 fj1_8 fj1_9 fj1_10 fj1_11 fj1_12 fj1_13 fj1_14 fj1_15 fj1_16 fj1_17 fj1_18 hJ1
   have hy := hJ1
   have hq0 : 0 < n.toInt → 0 ≤ y0.toInt ∧ y0.toInt ≤ 2 := fun h => by rw [hy.1 h]; exact hx0 h
   have hq1 : 1 < n.toInt → 0 ≤ y1.toInt ∧ y1.toInt ≤ 2 := fun h => by rw [hy.2.1 h]; exact hx1 h
   have hq2 : 2 < n.toInt → 0 ≤ y2.toInt ∧ y2.toInt ≤ 2 := fun h => by rw [hy.2.2 h]; exact hx2 h
   refine Goes.step (fun _ k => pw_aloadN Xj1.here hx (hb hby d5_11) rfl rfl _ (pw_iloadN Xj1.here hx (hb hby d5_12) rfl _ k)) ?_
   obtain ⟨T2, h2, X2, e2, W2, st2⟩ := putF Xj1 hx hZ hown (host := "") (Or.inl (own_w53 hw)) Via.refl ej1 fj1_8 fj1_0 (Or.inl (own_w54 hw)) (own_w12 hw) (ty := .int) (by decide) rfl rfl (g := (mkF m 13 #[.val (.ref a1), .val (.ref pgA), .val (.int n), .val (.long rm), .second, .unset] [(.int n), (.ref a1)])) rfl rfl (hb hby d5_13)
   have Fw2 := fj1_8.same W2
   have N2 := Fr.snoc X2 Nj1 g_a1
   have O_2 := Oj1.wr W2 g_a1
   have K_2 := Kj1.wr W2 (Or.inl (List.mem_of_getElem? (i := 0) rfl))
   refine Goes.step (B := T2.setTop (mkF m 16 #[.val (.ref a1), .val (.ref pgA), .val (.int n), .val (.long rm), .second, .unset] [])) st2 ?_
   refine Goes.step (fun _ k => pw_aloadN X2.here hx (hb hby d5_16) rfl rfl _ (pw_lloadN X2.here hx (hb hby d5_17) rfl _ k)) ?_
   have f3 := (fj1_0.wr W2)
   have f4 := (fj1_9.other W2 (Or.inr (slot_ne (Or.inl (own_w56 hw)) (Or.inl (own_w54 hw)) (by decide) (t := .long) (t' := .int) (by decide) (by decide))))
   obtain ⟨T5, h5, X5, e5, W5, st5⟩ := putF X2 hx hZ hown (host := "") (Or.inl (own_w55 hw)) Via.refl e2 f4 f3 (Or.inl (own_w56 hw)) (own_w12 hw) (ty := .long) (by decide) rfl rfl (g := (mkF m 18 #[.val (.ref a1), .val (.ref pgA), .val (.int n), .val (.long rm), .second, .unset] [(.long rm), (.ref a1)])) rfl rfl (hb hby d5_18)
   have Fw5 := f4.same W5
   have N5 := Fr.snoc X5 N2 g_a1
   have O_5 := O_2.wr W5 g_a1
   have K_5 := K_2.wr W5 (Or.inl (List.mem_of_getElem? (i := 0) rfl))
   refine Goes.step (B := T5.setTop (mkF m 21 #[.val (.ref a1), .val (.ref pgA), .val (.int n), .val (.long rm), .second, .unset] [])) st5 ?_
   refine Goes.step (fun _ k => pw_aloadN X5.here hx (hb hby d5_21) rfl rfl _ (pw_aloadN X5.here hx (hb hby d5_22) rfl rfl _ (pw_iloadN X5.here hx (hb hby d5_23) rfl _ (pw_lloadN X5.here hx (hb hby d5_24) rfl _ k)))) ?_
   have f7 := ((fj1_1.other W2 (Or.inr (slot_ne (Or.inr (own_w31 hw)) (Or.inl (own_w54 hw)) (by decide) (t := (.array .boolean)) (t' := .int) (by decide) (by decide)))).other W5 (Or.inr (slot_ne (Or.inr (own_w31 hw)) (Or.inl (own_w56 hw)) (by decide) (t := (.array .boolean)) (t' := .long) (by decide) (by decide))))
   have f8 := ((fj1_2.other W2 (Or.inr (slot_ne (Or.inr (own_w33 hw)) (Or.inl (own_w54 hw)) (by decide) (t := (.array .int)) (t' := .int) (by decide) (by decide)))).other W5 (Or.inr (slot_ne (Or.inr (own_w33 hw)) (Or.inl (own_w56 hw)) (by decide) (t := (.array .int)) (t' := .long) (by decide) (by decide))))
   have f9 := ((fj1_3.other W2 (Or.inr (slot_ne (Or.inr (own_w28 hw)) (Or.inl (own_w54 hw)) (by decide) (t := (.array .int)) (t' := .int) (by decide) (by decide)))).other W5 (Or.inr (slot_ne (Or.inr (own_w28 hw)) (Or.inl (own_w56 hw)) (by decide) (t := (.array .int)) (t' := .long) (by decide) (by decide))))
   have f10 := ((fj1_4.other W2 (Or.inr (slot_ne (Or.inr (own_w24 hw)) (Or.inl (own_w54 hw)) (by decide) (t := (.array .long)) (t' := .int) (by decide) (by decide)))).other W5 (Or.inr (slot_ne (Or.inr (own_w24 hw)) (Or.inl (own_w56 hw)) (by decide) (t := (.array .long)) (t' := .long) (by decide) (by decide))))
   have f11 := ((fj1_5.other W2 (Or.inr (slot_ne (Or.inr (own_w26 hw)) (Or.inl (own_w54 hw)) (by decide) (t := (.array .int)) (t' := .int) (by decide) (by decide)))).other W5 (Or.inr (slot_ne (Or.inr (own_w26 hw)) (Or.inl (own_w56 hw)) (by decide) (t := (.array .int)) (t' := .long) (by decide) (by decide))))
   have f12 := ((fj1_12.other W2 (Ne.symm ne_a1_plA)).other W5 (Ne.symm ne_a1_plA))
   have f13 := ((fj1_13.other W2 (Ne.symm ne_a1_pbA)).other W5 (Ne.symm ne_a1_pbA))
   have f14 := ((fj1_14.other W2 (Ne.symm ne_a1_qA)).other W5 (Ne.symm ne_a1_qA))
   have f15 := ((fj1_15.other W2 (Ne.symm ne_a1_cA)).other W5 (Ne.symm ne_a1_cA))
   have f16 := ((fj1_16.other W2 (Ne.symm ne_a1_mA)).other W5 (Ne.symm ne_a1_mA))
   have f17 := (f3.wr W5)
   obtain ⟨cq6, qq6, qr6⟩ := f17.cell
   obtain ⟨_, _, ⟨T6, L6, k6, n6⟩, -, X6, ⟨Lc6, hQ6, l6, y6, z6⟩, st6⟩ := X5.privateBack hx (y := (⟨"com/example/errantry/errantry/staff/CompletionBounds", "mostFitting", "(IJ)I"⟩ : MethodName)) hown (mvT hZ (own_w57 hw)) (mvT hZ (own_w58 hw)) (mvT hZ (own_selp (y := ({ cls := "com/example/errantry/errantry/staff/CompletionBounds", name := "mostFitting", desc := "(IJ)I" } : Jvm.MethodName)) (own_w12 hw) (own_w58 hw) (own_w59 hw) (by decide))) (Cond.privateMethod_at (mvP hZ (own_w59 hw) (args := #[]))) (mvT hZ (own_w60 hw)) (by decide) (backOf (W := 1) (rmMF l Z a0 hw [] a1 plA kp pbA kb qA kq cA kC mA kM ct0 ct1 ct2 mb0 mb1 mb2 bc0 bc1 bc2 y0 y1 y2 n rm h5 n0 O_5 f7 f8 f9 f10 f11 f12 f13 f14 f15 f16 g_pbA ne_plA_pbA (Ne.symm ne_pbA_qA) (Ne.symm ne_pbA_cA) (Ne.symm ne_pbA_mA) ne_a1_pbA hn hq0 hq1 hq2 hpm hr hC0 hC1 hC2 hM0 hM1 hM2) hZ (own_w60 hw) (own_w13 hw) (by decide) (by decide)) (g := (mkF m 25 #[.val (.ref a1), .val (.ref pgA), .val (.int n), .val (.long rm), .second, .unset] [(.long rm), (.int n), (.ref a1), (.ref a1)])) rfl (by rw [hml]; rfl) (Steps.refl _) (a := a1) (by rw [e5]; exact qq6) qr6 (argsL := [(.int n), (.long rm)]) (rest := [(.ref a1)]) (lenOf pd_3 rfl) rfl (by show 2 * 0 + _ ≤ _; exact Nat.le_of_eq rfl) (hb hby d5_25) (fun _ _ => ⟨rfl, e5, (by decide : 0 + 0 ≤ _), (by decide : 0 + 0 ≤ _)⟩)
   dsimp only [Pt.U, Pt.locs, Pt.cells, Pt.slots] at X6 l6 y6 z6 st6 hQ6
   subst l6 y6 z6
   obtain ⟨ft6, rfl, Nq6, Kp6, fa6, fb6⟩ := hQ6
   have O_6 := O_5.keep Kp6 (allS g_pbA all0)
   have K_6 := K_5.trans Kp6 (allS (P := fun x => x ∈ _ ∨ _) (Or.inl (List.mem_of_getElem? (i := 2) rfl)) all0)
   have N6 := Fr.app N5 Nq6
   refine Goes.via (B := T6.setTop (mkF m 28 #[.val (.ref a1), .val (.ref pgA), .val (.int n), .val (.long rm), .second, .unset] [(.int ft6), (.ref a1)])) st6 ?_
   have hm0 := fa6
   have eq0 := own_em_le (n := n) (x0 := y0) (x1 := y1) (x2 := y2) (g := 0) hM0
   have eq1 := own_em_le (n := n) (x0 := y0) (x1 := y1) (x2 := y2) (g := 1) hM1
   have eq2 := own_em_le (n := n) (x0 := y0) (x1 := y1) (x2 := y2) (g := 2) hM2
   have hm1 : ft6.toInt ≤ 12 := by have q := fb6; omega
   have tz := own_p1 (a := ft6) (by omega)
   have nz := own_nat (j := ft6 + 1) (by omega)
   have nf := own_nat (j := ft6) (by omega)
   have hms := fb6
   rw [own_emc hy, own_emc hy, own_emc hy] at hms
   have f18 := (f17.keep Kp6)
   have f19 := (((fj1_10.other W2 (Or.inr (slot_ne (Or.inl (own_w62 hw)) (Or.inl (own_w54 hw)) (by decide) (t := .int) (t' := .int) (by decide) (by decide)))).other W5 (Or.inr (slot_ne (Or.inl (own_w62 hw)) (Or.inl (own_w56 hw)) (by decide) (t := .int) (t' := .long) (by decide) (by decide)))).keep Kp6 (ninS ne_a1_pbA nin0))
   obtain ⟨T20, h20, X20, e20, W20, st20⟩ := putF X6 hx hZ hown (host := "") (Or.inl (own_w61 hw)) Via.refl rfl f19 f18 (Or.inl (own_w62 hw)) (own_w12 hw) (ty := .int) (by decide) rfl rfl (g := (mkF m 28 #[.val (.ref a1), .val (.ref pgA), .val (.int n), .val (.long rm), .second, .unset] [(.int ft6), (.ref a1)])) rfl rfl (hb hby d5_28)
   have Fw20 := f19.same W20
   have N20 := Fr.snoc X20 N6 g_a1
   have O_20 := O_6.wr W20 g_a1
   have K_20 := K_6.wr W20 (Or.inl (List.mem_of_getElem? (i := 0) rfl))
   refine Goes.step (B := T20.setTop (mkF m 31 #[.val (.ref a1), .val (.ref pgA), .val (.int n), .val (.long rm), .second, .unset] [])) st20 ?_
   refine Goes.step (fun _ k => pw_aloadN X20.here hx (hb hby d5_31) rfl rfl _ k) ?_
   have f21 := ((((fj1_6.other W2 (Or.inr (slot_ne (Or.inr (own_w37 hw)) (Or.inl (own_w54 hw)) (by decide) (t := (.array (.array .long))) (t' := .int) (by decide) (by decide)))).other W5 (Or.inr (slot_ne (Or.inr (own_w37 hw)) (Or.inl (own_w56 hw)) (by decide) (t := (.array (.array .long))) (t' := .long) (by decide) (by decide)))).keep Kp6 (ninS ne_a1_pbA nin0)).other W20 (Or.inr (slot_ne (Or.inr (own_w37 hw)) (Or.inl (own_w62 hw)) (by decide) (t := (.array (.array .long))) (t' := .int) (by decide) (by decide))))
   obtain ⟨T22, X22, e22, st22⟩ := getF X20 hx hZ hown (host := "") (Or.inl (own_w36 hw)) Via.refl e20 f21 (g := (mkF m 32 #[.val (.ref a1), .val (.ref pgA), .val (.int n), .val (.long rm), .second, .unset] [(.ref a1)])) rfl rfl (hb hby d5_32)
   refine Goes.step (B := T22.setTop (mkF m 35 #[.val (.ref a1), .val (.ref pgA), .val (.int n), .val (.long rm), .second, .unset] [(.ref chA)])) st22 ?_
   refine Goes.step (fun _ k => pw_iconst X22.here hx (v := (0 : Int32)) (hb hby d5_35) rfl _ (pw_aloadN X22.here hx (hb hby d5_36) rfl rfl _ k)) ?_
   obtain ⟨T23, X23, e23, st23⟩ := getF X22 hx hZ hown (host := "") (Or.inl (own_w36 hw)) Via.refl e22 f21 (g := (mkF m 37 #[.val (.ref a1), .val (.ref pgA), .val (.int n), .val (.long rm), .second, .unset] [(.ref a1), (.int 0), (.ref chA)])) rfl rfl (hb hby d5_37)
   refine Goes.step (B := T23.setTop (mkF m 40 #[.val (.ref a1), .val (.ref pgA), .val (.int n), .val (.long rm), .second, .unset] [(.ref chA), (.int 0), (.ref chA)])) st23 ?_
   refine Goes.step (fun _ k => pw_iconst X23.here hx (v := (0 : Int32)) (hb hby d5_40) rfl _ k) ?_
   have f24 := ((((fj1_17.other W2 (Ne.symm ne_a1_chA)).other W5 (Ne.symm ne_a1_chA)).keep Kp6 (ninS (Ne.symm ne_pbA_chA) nin0)).other W20 (Ne.symm ne_a1_chA))
   obtain ⟨c25, Ar25, -, Sz25, Nn25, Hs25, -⟩ := id f24
   have hin25 : ¬ ((0 : Int32) < 0 ∨ c25.slots.size ≤ ((0 : Int32)).toNatClampNeg) := inb_of Sz25 ⟨by decide, by decide⟩
   refine Goes.step (B := T23.setTop (mkF m 42 #[.val (.ref a1), .val (.ref pgA), .val (.int n), .val (.long rm), .second, .unset] [.null, (.int 0), (.ref chA)])) (X23.aaload hx (j := (0 : Int32)) (v := .null) (by rw [e23]; exact Ar25.1) (State.isArrayOf_alike hZ.alike Ar25.2.1) rfl Ar25.2.2 hin25 (Has.at Hs25 hin25 rfl) (g := (mkF m 41 #[.val (.ref a1), .val (.ref pgA), .val (.int n), .val (.long rm), .second, .unset] [(.int 0), (.ref chA), (.int 0), (.ref chA)])) rfl rfl (hb hby d5_41)) ?_
   refine Goes.step (fun _ k => pw_aloadN X23.here hx (hb hby d5_42) rfl rfl _ k) ?_
   obtain ⟨T26, X26, e26, st26⟩ := getF X23 hx hZ hown (host := "") (Or.inl (own_w61 hw)) Via.refl e23 Fw20 (g := (mkF m 43 #[.val (.ref a1), .val (.ref pgA), .val (.int n), .val (.long rm), .second, .unset] [(.ref a1), .null, (.int 0), (.ref chA)])) rfl rfl (hb hby d5_43)
   refine Goes.step (B := T26.setTop (mkF m 46 #[.val (.ref a1), .val (.ref pgA), .val (.int n), .val (.long rm), .second, .unset] [(.int ft6), .null, (.int 0), (.ref chA)])) st26 ?_
   have f28 := (f18.wr W20)
   have lt_a1_27 := f28.lt
   have f29 := ((f12.keep Kp6 (ninS ne_plA_pbA nin0)).other W20 (Ne.symm ne_a1_plA))
   have lt_plA_27 := f29.lt
   have f30 := ((f14.keep Kp6 (ninS (Ne.symm ne_pbA_qA) nin0)).other W20 (Ne.symm ne_a1_qA))
   have lt_qA_27 := f30.lt
   have f31 := ((f15.keep Kp6 (ninS (Ne.symm ne_pbA_cA) nin0)).other W20 (Ne.symm ne_a1_cA))
   have lt_cA_27 := f31.lt
   have f32 := ((f16.keep Kp6 (ninS (Ne.symm ne_pbA_mA) nin0)).other W20 (Ne.symm ne_a1_mA))
   have lt_mA_27 := f32.lt
   have lt_chA_27 := f24.lt
   have f33 := ((((fj1_18.other W2 (Ne.symm ne_a1_ffA)).other W5 (Ne.symm ne_a1_ffA)).keep Kp6 (ninS (Ne.symm ne_pbA_ffA) nin0)).other W20 (Ne.symm ne_a1_ffA))
   have lt_ffA_27 := f33.lt
   obtain ⟨_, _, ⟨T27, L27, k27, n27⟩, -, X27, ⟨Lc27, hQ27, l27, y27, z27⟩, st27⟩ := Jvm.LawKit.callS X26 hx (y := (⟨"com/example/errantry/errantry/staff/CompletionBounds", "row", "([JI)[J"⟩ : MethodName)) hown (mvT hZ (own_w63 hw)) (mvT hZ (own_w64 hw)) (mvT hZ (own_w13 hw)) (mvT hZ (own_w65 hw)) (by decide) (backOf (W := 2) (rmROW l Z a0 hw [] ft6 h20 n0 O_20 hm0 hm1) hZ (own_w65 hw) (own_w13 hw) (by decide) (by decide)) (g := (mkF m 46 #[.val (.ref a1), .val (.ref pgA), .val (.int n), .val (.long rm), .second, .unset] [(.int ft6), .null, (.int 0), (.ref chA)])) rfl (by rw [hml]; rfl) (argsL := [.null, (.int ft6)]) (rest := [(.int 0), (.ref chA)]) (lenOf pd_4 rfl) rfl (by show 2 * 0 + _ ≤ _; exact Nat.le_of_eq rfl) (hb hby d5_46) (fun _ _ => ⟨rfl, e26, (by decide : 0 + 1 ≤ _), (by decide : 0 + 13 ≤ _)⟩)
   dsimp only [Pt.U, Pt.locs, Pt.cells, Pt.slots] at X27 l27 y27 z27 st27 hQ27
   subst l27 y27 z27
   obtain ⟨fb27, fk27, rfl, Nq27, Kp27, gb27, szc_fb27, Eb27, Vb27⟩ := hQ27
   have ne_a1_fb27 : a1 ≠ fb27 := Nat.ne_of_lt (Nat.lt_of_lt_of_le lt_a1_27 szc_fb27)
   have ne_plA_fb27 : plA ≠ fb27 := Nat.ne_of_lt (Nat.lt_of_lt_of_le lt_plA_27 szc_fb27)
   have ne_qA_fb27 : qA ≠ fb27 := Nat.ne_of_lt (Nat.lt_of_lt_of_le lt_qA_27 szc_fb27)
   have ne_cA_fb27 : cA ≠ fb27 := Nat.ne_of_lt (Nat.lt_of_lt_of_le lt_cA_27 szc_fb27)
   have ne_mA_fb27 : mA ≠ fb27 := Nat.ne_of_lt (Nat.lt_of_lt_of_le lt_mA_27 szc_fb27)
   have ne_chA_fb27 : chA ≠ fb27 := Nat.ne_of_lt (Nat.lt_of_lt_of_le lt_chA_27 szc_fb27)
   have ne_ffA_fb27 : ffA ≠ fb27 := Nat.ne_of_lt (Nat.lt_of_lt_of_le lt_ffA_27 szc_fb27)
   have sz_fb27 : h0.size ≤ fb27 := Nat.le_trans K_20.1 szc_fb27
   have O_27 := O_20.keep Kp27 all0
   have K_27 := K_20.trans Kp27 all0
   have N27 := Fr.app N20 Nq27
   refine Goes.step (B := T27.setTop (mkF m 49 #[.val (.ref a1), .val (.ref pgA), .val (.int n), .val (.long rm), .second, .unset] [(.ref fb27), (.int 0), (.ref chA)])) st27 ?_
   have f34 := (f24.keep Kp27 nin0)
   obtain ⟨c35, Ar35, q35, Sz35, Nn35, Hs35, Gs35⟩ := id f34
   have hin35 : ¬ ((0 : Int32) < 0 ∨ c35.slots.size ≤ ((0 : Int32)).toNatClampNeg) := inb_of Sz35 ⟨by decide, by decide⟩
   obtain ⟨T35, h35, X35, e35, W35, st35⟩ := stR X27 hx hZ rfl Ar35 (j := (0 : Int32)) hin35 rfl (Sto.ofVA Ar35 q35 Ov (Ins.self Eb27)) (g := (mkF m 49 #[.val (.ref a1), .val (.ref pgA), .val (.int n), .val (.long rm), .second, .unset] [(.ref fb27), (.int 0), (.ref chA)])) rfl rfl (hb hby d5_49)
   have V35 : Arv Z h35 chA kc (.array .long) (4 : Int32) [(.ref fb27), .null, .null, .null] .null := Arv.set Ar35 q35 Sz35 Nn35 Hs35 Gs35 rfl W35 0 rfl (Nat.le_of_ble_eq_true rfl)
   have N35 := Fr.snoc X35 N27 g_chA
   have O_35 := O_27.wr W35 g_chA
   have K_35 := K_27.wr W35 (Or.inl (List.mem_of_getElem? (i := 3) rfl))
   refine Goes.step (B := T35.setTop (mkF m 50 #[.val (.ref a1), .val (.ref pgA), .val (.int n), .val (.long rm), .second, .unset] [])) st35 ?_
   refine Goes.step (fun _ k => pw_aloadN X35.here hx (hb hby d5_50) rfl rfl _ k) ?_
   have f36 := ((f21.keep Kp27 nin0).other W35 (Or.inl ne_a1_chA))
   obtain ⟨T37, X37, e37, st37⟩ := getF X35 hx hZ hown (host := "") (Or.inl (own_w36 hw)) Via.refl e35 f36 (g := (mkF m 51 #[.val (.ref a1), .val (.ref pgA), .val (.int n), .val (.long rm), .second, .unset] [(.ref a1)])) rfl rfl (hb hby d5_51)
   refine Goes.step (B := T37.setTop (mkF m 54 #[.val (.ref a1), .val (.ref pgA), .val (.int n), .val (.long rm), .second, .unset] [(.ref chA)])) st37 ?_
   refine Goes.step (fun _ k => pw_iconst X37.here hx (v := (0 : Int32)) (hb hby d5_54) rfl _ k) ?_
   obtain ⟨c38, Ar38, -, Sz38, Nn38, Hs38, -⟩ := id V35
   have hin38 : ¬ ((0 : Int32) < 0 ∨ c38.slots.size ≤ ((0 : Int32)).toNatClampNeg) := inb_of Sz38 ⟨by decide, by decide⟩
   refine Goes.step (B := T37.setTop (mkF m 56 #[.val (.ref a1), .val (.ref pgA), .val (.int n), .val (.long rm), .second, .unset] [(.ref fb27)])) (X37.aaload hx (j := (0 : Int32)) (v := (.ref fb27)) (by rw [e37]; exact Ar38.1) (State.isArrayOf_alike hZ.alike Ar38.2.1) rfl Ar38.2.2 hin38 (Has.at Hs38 hin38 rfl) (g := (mkF m 55 #[.val (.ref a1), .val (.ref pgA), .val (.int n), .val (.long rm), .second, .unset] [(.int 0), (.ref chA)])) rfl rfl (hb hby d5_55)) ?_
   refine Goes.step (fun _ k => pw_iconst X37.here hx (v := (0 : Int32)) (hb hby d5_56) rfl _ k) ?_
   refine Goes.step (B := T37.setTop (mkF m 58 #[.val (.ref a1), .val (.ref pgA), .val (.int n), .val (.long rm), .second, .unset] [(.long 0), (.int 0), (.ref fb27)])) (fun _ k => XS.lconst X37.here hx rfl (hb hby d5_57) k) ?_
   have f39 := (Vb27.other W35 (Ne.symm ne_chA_fb27))
   obtain ⟨c40, Ar40, q40, Sz40, Nn40, Hs40, Gs40⟩ := id f39
   have hin40 : ¬ ((0 : Int32) < 0 ∨ c40.slots.size ≤ ((0 : Int32)).toNatClampNeg) := inb_of Sz40 ⟨by decide, own_lt (by rw [own_i0]; omega)⟩
   obtain ⟨T40, h40, X40, e40, W40, st40⟩ := stJ X37 hx hZ e37 Ar40 (j := (0 : Int32)) hin40 (g := (mkF m 58 #[.val (.ref a1), .val (.ref pgA), .val (.int n), .val (.long rm), .second, .unset] [(.long 0), (.int 0), (.ref fb27)])) rfl rfl (hb hby d5_58)
   have V40 : Arv Z h40 fb27 fk27 .long (ft6 + (1 : Int32)) (((List.replicate (ft6 + (1 : Int32)).toNatClampNeg (0 : Int64)).map Value.long).set ((0 : Int32)).toNatClampNeg (.long 0)) (.long 0) := Arv.set Ar40 q40 Sz40 Nn40 Hs40 Gs40 rfl W40 _ rfl (by rw [List.length_map, List.length_replicate, show (0 : Int32).toNatClampNeg = 0 from by decide]; omega)
   rw [own_setL] at V40
   have N40 := Fr.snoc X40 N35 gb27
   have O_40 := O_35.wr W40 gb27
   have K_40 := K_35.wr W40 (Or.inr sz_fb27)
   refine Goes.step (B := T40.setTop (mkF m 59 #[.val (.ref a1), .val (.ref pgA), .val (.int n), .val (.long rm), .second, .unset] [])) st40 ?_
   have J41 : ∀ (Tj41 : State) (Hj41 : Heap) (lj41 : List Loc) (ri : Int32) (B0 : List Int64), Stand p l e ({ frames := 2, cells := 4, slots := 52, locals := 38 } : Room) s m #[(.ref a1), (.ref pgA), (.int n), (.long rm)] below meth c Tj41 lj41 1 13 → Tj41.heap = Hj41 → Old Z n0 Hj41 → Fr n0 lj41 → Keep h0 Hj41 [a1, plA, pbA, chA, ffA] → Exa Z Hj41 a1 "com/example/errantry/errantry/staff/CompletionBounds" → Fld Z Hj41 a1 "com/example/errantry/errantry/staff/CompletionBounds" "pooled" "[Z" (.ref pbA) → Fld Z Hj41 a1 "com/example/errantry/errantry/staff/CompletionBounds" "pool" "[I" (.ref plA) → Fld Z Hj41 a1 "com/example/errantry/errantry/staff/CompletionBounds" "byCost" "[I" (.ref qA) → Fld Z Hj41 a1 "com/example/errantry/errantry/staff/CompletionBounds" "cost" "[J" (.ref cA) → Fld Z Hj41 a1 "com/example/errantry/errantry/staff/CompletionBounds" "members" "[I" (.ref mA) → Fld Z Hj41 a1 "com/example/errantry/errantry/staff/CompletionBounds" "cheapest" "[[J" (.ref chA) → Fld Z Hj41 a1 "com/example/errantry/errantry/staff/CompletionBounds" "firstFitting" "[I" (.ref ffA) → Fld Z Hj41 a1 "com/example/errantry/errantry/staff/CompletionBounds" "poolSize" "I" (.int n) → Fld Z Hj41 a1 "com/example/errantry/errantry/staff/CompletionBounds" "room" "J" (.long rm) → Fld Z Hj41 a1 "com/example/errantry/errantry/staff/CompletionBounds" "most" "I" (.int ft6) → Fld Z Hj41 a1 "com/example/errantry/errantry/staff/CompletionBounds" "rowsFilled" "I" (.int 0) → Arv Z Hj41 plA kp .int (3 : Int32) [(.int y0), (.int y1), (.int y2)] (.int 0) → Arv Z Hj41 qA kq .int (3 : Int32) [(.int bc0), (.int bc1), (.int bc2)] (.int 0) → Arv Z Hj41 cA kC .long (3 : Int32) [(.long ct0), (.long ct1), (.long ct2)] (.long 0) → Arv Z Hj41 mA kM .int (3 : Int32) [(.int mb0), (.int mb1), (.int mb2)] (.int 0) → Arv Z Hj41 chA kc (.array .long) (4 : Int32) [(.ref fb27), .null, .null, .null] .null → Arv Z Hj41 ffA kf .int zf (List.replicate zf.toNatClampNeg (.int 0)) (.int 0) → Arv Z Hj41 fb27 fk27 .long (ft6 + (1 : Int32)) (B0.map Value.long) (.long 0) → Exa Z Hj41 fb27 "[J" → (B0.length = (ft6 + (1 : Int32)).toNatClampNeg ∧ B0.getD 0 0 = 0 ∧ ∀ j, 1 ≤ j → j ≤ ft6.toNatClampNeg → B0.getD j 0 = (9223372036854775807 : Int64)) → Goes p e below s (QRS Z a1 pgA kg plA kp pbA kb qA kq cA kC mA kM chA kc ffA kf zf ct0 ct1 ct2 mb0 mb1 mb2 bc0 bc1 bc2 x0 x1 x2 n rm h0 n0) ({ frames := 2, cells := 4, slots := 52, locals := 38 } : Room).cells ({ frames := 2, cells := 4, slots := 52, locals := 38 } : Room).slots (Tj41.setTop (mkF m 89 #[.val (.ref a1), .val (.ref pgA), .val (.int n), .val (.long rm), .second, .val (.int ri)] [])) := by
    intro Tj41 Hj41 lj41 ri B0 Xj41 ej41 Oj41 Nj41 Kj41 fj41_0 fj41_1 fj41_2 fj41_3 fj41_4 fj41_5 fj41_6 fj41_7 fj41_8 fj41_9 fj41_10 fj41_11 fj41_12 fj41_13 fj41_14 fj41_15 fj41_16 fj41_17 fj41_18 fj41_19 hJ41
    obtain ⟨hl0, hz0, hb0⟩ := hJ41
    obtain ⟨R0, D0⟩ := own_R0 hz0 hb0
    have C0 : own_chain ft6.toNatClampNeg [] (fun _ => 0) 0 := own_nilI
    refine Goes.step (fun _ k => pw_iconst Xj41.here hx (v := (1 : Int32)) (hb hby d5_89) rfl _ (pw_istore Xj41.here hx (l' := #[.val (.ref a1), .val (.ref pgA), .val (.int n), .val (.long rm), .second, .val (.int 1)]) (hb hby d5_90) rfl _ k)) ?_
    rcases own_n4c hn with rfl | rfl | rfl | rfl
    · refine Goes.step (fun _ k => pw_iload Xj41.here hx (hb hby d5_92) rfl _ (pw_iloadN Xj41.here hx (hb hby d5_94) rfl _ (pw_icmpYes Xj41.here hx (pc' := 158) (hb hby d5_95) (tlt (by decide)).2.2.1 (by decide) (by decide) _ (pw_aloadN Xj41.here hx (hb hby d5_158) rfl rfl _ (pw_iconst Xj41.here hx (v := (0 : Int32)) (hb hby d5_159) rfl _ k))))) ?_
      obtain ⟨T42, h42, X42, e42, W42, st42⟩ := putF Xj41 hx hZ hown (host := "") (Or.inl (own_w67 hw)) Via.refl ej41 fj41_11 fj41_0 (Or.inl (own_w68 hw)) (own_w12 hw) (ty := .int) (by decide) rfl rfl (g := (mkF m 160 #[.val (.ref a1), .val (.ref pgA), .val (.int 0), .val (.long rm), .second, .val (.int 1)] [(.int 0), (.ref a1)])) rfl rfl (hb hby d5_160)
      have Fw42 := fj41_11.same W42
      have N42 := Fr.snoc X42 Nj41 g_a1
      have O_42 := Oj41.wr W42 g_a1
      have K_42 := Kj41.wr W42 (Or.inl (List.mem_of_getElem? (i := 0) rfl))
      refine Goes.step (B := T42.setTop (mkF m 163 #[.val (.ref a1), .val (.ref pgA), .val (.int 0), .val (.long rm), .second, .val (.int 1)] [])) st42 ?_
      refine Goes.step (fun _ k => pw_aloadN X42.here hx (hb hby d5_163) rfl rfl _ k) ?_
      have f43 := (fj41_7.other W42 (Or.inr (slot_ne (Or.inr (own_w43 hw)) (Or.inl (own_w68 hw)) (by decide) (t := (.array .int)) (t' := .int) (by decide) (by decide))))
      obtain ⟨T44, X44, e44, st44⟩ := getF X42 hx hZ hown (host := "") (Or.inl (own_w42 hw)) Via.refl e42 f43 (g := (mkF m 164 #[.val (.ref a1), .val (.ref pgA), .val (.int 0), .val (.long rm), .second, .val (.int 1)] [(.ref a1)])) rfl rfl (hb hby d5_164)
      refine Goes.step (B := T44.setTop (mkF m 167 #[.val (.ref a1), .val (.ref pgA), .val (.int 0), .val (.long rm), .second, .val (.int 1)] [(.ref ffA)])) st44 ?_
      refine Goes.step (fun _ k => pw_iconst X44.here hx (v := (1 : Int32)) (hb hby d5_167) rfl _ k) ?_
      have f46 := (fj41_17.other W42 (Ne.symm ne_a1_ffA))
      obtain ⟨_, _, ⟨T45, L45, k45, n45⟩, -, X45, ⟨Lc45, hQ45, l45, y45, z45⟩, st45⟩ := Jvm.LawKit.callS X44 hx (y := (⟨"java/util/Arrays", "fill", "([II)V"⟩ : MethodName)) hown (mvT hZ (own_w69 hw)) (mvT hZ (own_w70 hw)) (mvT hZ (own_w71 hw)) (mvT hZ (own_w72 hw)) (by decide) (backOf (W := 0) (rmFILL l Z a0 hw [] ffA kf zf (List.replicate zf.toNatClampNeg (.int 0)) (1 : Int32) h42 n0 O_42 f46 g_ffA (List.length_replicate ..) hzf.2) hZ (own_w72 hw) (own_w71 hw) (by decide) (by decide)) (g := (mkF m 168 #[.val (.ref a1), .val (.ref pgA), .val (.int 0), .val (.long rm), .second, .val (.int 1)] [(.int 1), (.ref ffA)])) rfl (by rw [hml]; rfl) (argsL := [(.ref ffA), (.int 1)]) (rest := []) (lenOf pd_5 rfl) rfl (by show 2 * 0 + _ ≤ _; exact Nat.le_of_eq rfl) (hb hby d5_168) (fun _ _ => ⟨rfl, e44, (by decide : 1 + 0 ≤ _), (by decide : 13 + 0 ≤ _)⟩)
      dsimp only [Pt.U, Pt.locs, Pt.cells, Pt.slots] at X45 l45 y45 z45 st45 hQ45
      subst l45 y45 z45
      obtain ⟨rfl, Nq45, Kp45⟩ := hQ45
      have O_45 := O_42.keep Kp45 (allS g_ffA all0)
      have K_45 := K_42.trans Kp45 (allS (P := fun x => x ∈ _ ∨ _) (Or.inl (List.mem_of_getElem? (i := 4) rfl)) all0)
      have N45 := Fr.app N42 Nq45
      refine Goes.step (B := T45.setTop (mkF m 171 #[.val (.ref a1), .val (.ref pgA), .val (.int 0), .val (.long rm), .second, .val (.int 1)] [])) st45 ?_
      have f47 := ((fj41_0.wr W42).keep Kp45)
      have f48 := ((fj41_6.other W42 (Or.inr (slot_ne (Or.inr (own_w37 hw)) (Or.inl (own_w68 hw)) (by decide) (t := (.array (.array .long))) (t' := .int) (by decide) (by decide)))).keep Kp45 (ninS ne_a1_ffA nin0))
      have f49 := ((fj41_8.other W42 (Or.inr (slot_ne (Or.inl (own_w54 hw)) (Or.inl (own_w68 hw)) (by decide) (t := .int) (t' := .int) (by decide) (by decide)))).keep Kp45 (ninS ne_a1_ffA nin0))
      have f50 := ((fj41_10.other W42 (Or.inr (slot_ne (Or.inl (own_w62 hw)) (Or.inl (own_w68 hw)) (by decide) (t := .int) (t' := .int) (by decide) (by decide)))).keep Kp45 (ninS ne_a1_ffA nin0))
      have f51 := ((fj41_16.other W42 (Ne.symm ne_a1_chA)).keep Kp45 (ninS ne_chA_ffA nin0))
      have f52 := ((fj41_18.other W42 (Ne.symm ne_a1_fb27)).keep Kp45 (ninS (Ne.symm ne_ffA_fb27) nin0))
      exact Goes.retV X45 hx rfl Bd.returns hlk (hb hby d5_171) (by decide) (by decide) (⟨rfl, N45, K_45, ft6, [(.ref fb27), .null, .null, .null], fb27, fk27, B0, (fun _ => 0), 0, hm0, hm1, hms, f47, f48, f49, f50, f51, rfl, f52, R0, (by have q := C0; unfold own_gl; rw [show (0 : Int32).toNatClampNeg = 0 from by decide]; exact q)⟩)
    · refine Goes.step (fun _ k => pw_iload Xj41.here hx (hb hby d5_92) rfl _ (pw_iloadN Xj41.here hx (hb hby d5_94) rfl _ (pw_icmpNo Xj41.here hx (hb hby d5_95) (flt (by decide)).2.2.1 _ (pw_aloadN Xj41.here hx (hb hby d5_98) rfl rfl _ k)))) ?_
      obtain ⟨T53, X53, e53, st53⟩ := getF Xj41 hx hZ hown (host := "") (Or.inl (own_w36 hw)) Via.refl ej41 fj41_6 (g := (mkF m 99 #[.val (.ref a1), .val (.ref pgA), .val (.int 1), .val (.long rm), .second, .val (.int 1)] [(.ref a1)])) rfl rfl (hb hby d5_99)
      refine Goes.step (B := T53.setTop (mkF m 102 #[.val (.ref a1), .val (.ref pgA), .val (.int 1), .val (.long rm), .second, .val (.int 1)] [(.ref chA)])) st53 ?_
      refine Goes.step (fun _ k => pw_iload X53.here hx (hb hby d5_102) rfl _ (pw_aloadN X53.here hx (hb hby d5_104) rfl rfl _ k)) ?_
      obtain ⟨T54, X54, e54, st54⟩ := getF X53 hx hZ hown (host := "") (Or.inl (own_w36 hw)) Via.refl e53 fj41_6 (g := (mkF m 105 #[.val (.ref a1), .val (.ref pgA), .val (.int 1), .val (.long rm), .second, .val (.int 1)] [(.ref a1), (.int 1), (.ref chA)])) rfl rfl (hb hby d5_105)
      refine Goes.step (B := T54.setTop (mkF m 108 #[.val (.ref a1), .val (.ref pgA), .val (.int 1), .val (.long rm), .second, .val (.int 1)] [(.ref chA), (.int 1), (.ref chA)])) st54 ?_
      refine Goes.step (fun _ k => pw_iload X54.here hx (hb hby d5_108) rfl _ k) ?_
      obtain ⟨c55, Ar55, -, Sz55, Nn55, Hs55, -⟩ := id fj41_16
      have hin55 : ¬ ((1 : Int32) < 0 ∨ c55.slots.size ≤ ((1 : Int32)).toNatClampNeg) := inb_of Sz55 ⟨by decide, by decide⟩
      refine Goes.step (B := T54.setTop (mkF m 111 #[.val (.ref a1), .val (.ref pgA), .val (.int 1), .val (.long rm), .second, .val (.int 1)] [.null, (.int 1), (.ref chA)])) (X54.aaload hx (j := (1 : Int32)) (v := .null) (by rw [e54]; exact Ar55.1) (State.isArrayOf_alike hZ.alike Ar55.2.1) rfl Ar55.2.2 hin55 (Has.at Hs55 hin55 rfl) (g := (mkF m 110 #[.val (.ref a1), .val (.ref pgA), .val (.int 1), .val (.long rm), .second, .val (.int 1)] [(.int 1), (.ref chA), (.int 1), (.ref chA)])) rfl rfl (hb hby d5_110)) ?_
      refine Goes.step (fun _ k => pw_aloadN X54.here hx (hb hby d5_111) rfl rfl _ k) ?_
      obtain ⟨T56, X56, e56, st56⟩ := getF X54 hx hZ hown (host := "") (Or.inl (own_w61 hw)) Via.refl e54 fj41_10 (g := (mkF m 112 #[.val (.ref a1), .val (.ref pgA), .val (.int 1), .val (.long rm), .second, .val (.int 1)] [(.ref a1), .null, (.int 1), (.ref chA)])) rfl rfl (hb hby d5_112)
      refine Goes.step (B := T56.setTop (mkF m 115 #[.val (.ref a1), .val (.ref pgA), .val (.int 1), .val (.long rm), .second, .val (.int 1)] [(.int ft6), .null, (.int 1), (.ref chA)])) st56 ?_
      have lt_a1_57 := fj41_0.lt
      have lt_plA_57 := fj41_12.lt
      have lt_qA_57 := fj41_13.lt
      have lt_cA_57 := fj41_14.lt
      have lt_mA_57 := fj41_15.lt
      have lt_chA_57 := fj41_16.lt
      have lt_ffA_57 := fj41_17.lt
      have lt_fb27_57 := fj41_18.lt
      obtain ⟨_, _, ⟨T57, L57, k57, n57⟩, -, X57, ⟨Lc57, hQ57, l57, y57, z57⟩, st57⟩ := Jvm.LawKit.callS X56 hx (y := (⟨"com/example/errantry/errantry/staff/CompletionBounds", "row", "([JI)[J"⟩ : MethodName)) hown (mvT hZ (own_w63 hw)) (mvT hZ (own_w64 hw)) (mvT hZ (own_w13 hw)) (mvT hZ (own_w65 hw)) (by decide) (backOf (W := 2) (rmROW l Z a0 hw [] ft6 Hj41 n0 Oj41 hm0 hm1) hZ (own_w65 hw) (own_w13 hw) (by decide) (by decide)) (g := (mkF m 115 #[.val (.ref a1), .val (.ref pgA), .val (.int 1), .val (.long rm), .second, .val (.int 1)] [(.int ft6), .null, (.int 1), (.ref chA)])) rfl (by rw [hml]; rfl) (argsL := [.null, (.int ft6)]) (rest := [(.int 1), (.ref chA)]) (lenOf pd_4 rfl) rfl (by show 2 * 0 + _ ≤ _; exact Nat.le_of_eq rfl) (hb hby d5_115) (fun _ _ => ⟨rfl, e56, (by decide : 1 + 1 ≤ _), (by decide : 13 + 13 ≤ _)⟩)
      dsimp only [Pt.U, Pt.locs, Pt.cells, Pt.slots] at X57 l57 y57 z57 st57 hQ57
      subst l57 y57 z57
      obtain ⟨fb57, fk57, rfl, Nq57, Kp57, gb57, szc_fb57, Eb57, Vb57⟩ := hQ57
      have ne_a1_fb57 : a1 ≠ fb57 := Nat.ne_of_lt (Nat.lt_of_lt_of_le lt_a1_57 szc_fb57)
      have ne_plA_fb57 : plA ≠ fb57 := Nat.ne_of_lt (Nat.lt_of_lt_of_le lt_plA_57 szc_fb57)
      have ne_qA_fb57 : qA ≠ fb57 := Nat.ne_of_lt (Nat.lt_of_lt_of_le lt_qA_57 szc_fb57)
      have ne_cA_fb57 : cA ≠ fb57 := Nat.ne_of_lt (Nat.lt_of_lt_of_le lt_cA_57 szc_fb57)
      have ne_mA_fb57 : mA ≠ fb57 := Nat.ne_of_lt (Nat.lt_of_lt_of_le lt_mA_57 szc_fb57)
      have ne_chA_fb57 : chA ≠ fb57 := Nat.ne_of_lt (Nat.lt_of_lt_of_le lt_chA_57 szc_fb57)
      have ne_ffA_fb57 : ffA ≠ fb57 := Nat.ne_of_lt (Nat.lt_of_lt_of_le lt_ffA_57 szc_fb57)
      have ne_fb27_fb57 : fb27 ≠ fb57 := Nat.ne_of_lt (Nat.lt_of_lt_of_le lt_fb27_57 szc_fb57)
      have sz_fb57 : h0.size ≤ fb57 := Nat.le_trans Kj41.1 szc_fb57
      have O_57 := Oj41.keep Kp57 all0
      have K_57 := Kj41.trans Kp57 all0
      have N57 := Fr.app Nj41 Nq57
      refine Goes.step (B := T57.setTop (mkF m 118 #[.val (.ref a1), .val (.ref pgA), .val (.int 1), .val (.long rm), .second, .val (.int 1)] [(.ref fb57), (.int 1), (.ref chA)])) st57 ?_
      have f58 := (fj41_16.keep Kp57 nin0)
      obtain ⟨c59, Ar59, q59, Sz59, Nn59, Hs59, Gs59⟩ := id f58
      have hin59 : ¬ ((1 : Int32) < 0 ∨ c59.slots.size ≤ ((1 : Int32)).toNatClampNeg) := inb_of Sz59 ⟨by decide, by decide⟩
      obtain ⟨T59, h59, X59, e59, W59, st59⟩ := stR X57 hx hZ rfl Ar59 (j := (1 : Int32)) hin59 rfl (Sto.ofVA Ar59 q59 Ov (Ins.self Eb57)) (g := (mkF m 118 #[.val (.ref a1), .val (.ref pgA), .val (.int 1), .val (.long rm), .second, .val (.int 1)] [(.ref fb57), (.int 1), (.ref chA)])) rfl rfl (hb hby d5_118)
      have V59 : Arv Z h59 chA kc (.array .long) (4 : Int32) [(.ref fb27), (.ref fb57), .null, .null] .null := Arv.set Ar59 q59 Sz59 Nn59 Hs59 Gs59 rfl W59 1 rfl (Nat.le_of_ble_eq_true rfl)
      have N59 := Fr.snoc X59 N57 g_chA
      have O_59 := O_57.wr W59 g_chA
      have K_59 := K_57.wr W59 (Or.inl (List.mem_of_getElem? (i := 3) rfl))
      refine Goes.step (B := T59.setTop (mkF m 119 #[.val (.ref a1), .val (.ref pgA), .val (.int 1), .val (.long rm), .second, .val (.int 1)] [])) st59 ?_
      have gy1 := hq0 (by decide)
      have gm1 := own_mb hM0 hM1 hM2 gy1
      refine Goes.step (fun _ k => pw_aloadN X59.here hx (hb hby d5_119) rfl rfl _ (pw_aloadN X59.here hx (hb hby d5_120) rfl rfl _ k)) ?_
      have f60 := ((fj41_6.keep Kp57 nin0).other W59 (Or.inl ne_a1_chA))
      obtain ⟨T61, X61, e61, st61⟩ := getF X59 hx hZ hown (host := "") (Or.inl (own_w36 hw)) Via.refl e59 f60 (g := (mkF m 121 #[.val (.ref a1), .val (.ref pgA), .val (.int 1), .val (.long rm), .second, .val (.int 1)] [(.ref a1), (.ref a1)])) rfl rfl (hb hby d5_121)
      refine Goes.step (B := T61.setTop (mkF m 124 #[.val (.ref a1), .val (.ref pgA), .val (.int 1), .val (.long rm), .second, .val (.int 1)] [(.ref chA), (.ref a1)])) st61 ?_
      refine Goes.step (fun _ k => pw_iload X61.here hx (hb hby d5_124) rfl _ (pw_iconst X61.here hx (v := (1 : Int32)) (hb hby d5_126) rfl _ k)) ?_
      refine Goes.step (B := T61.setTop (mkF m 128 #[.val (.ref a1), .val (.ref pgA), .val (.int 1), .val (.long rm), .second, .val (.int 1)] [(.int 0), (.ref chA), (.ref a1)])) (fun _ k => XS.isub X61.here hx rfl (hb hby d5_127) rfl k) ?_
      obtain ⟨c62, Ar62, -, Sz62, Nn62, Hs62, -⟩ := id V59
      have hin62 : ¬ ((0 : Int32) < 0 ∨ c62.slots.size ≤ ((0 : Int32)).toNatClampNeg) := inb_of Sz62 ⟨by decide, by decide⟩
      refine Goes.step (B := T61.setTop (mkF m 129 #[.val (.ref a1), .val (.ref pgA), .val (.int 1), .val (.long rm), .second, .val (.int 1)] [(.ref fb27), (.ref a1)])) (X61.aaload hx (j := (0 : Int32)) (v := (.ref fb27)) (by rw [e61]; exact Ar62.1) (State.isArrayOf_alike hZ.alike Ar62.2.1) rfl Ar62.2.2 hin62 (Has.at Hs62 hin62 rfl) (g := (mkF m 128 #[.val (.ref a1), .val (.ref pgA), .val (.int 1), .val (.long rm), .second, .val (.int 1)] [(.int 0), (.ref chA), (.ref a1)])) rfl rfl (hb hby d5_128)) ?_
      refine Goes.step (fun _ k => pw_aloadN X61.here hx (hb hby d5_129) rfl rfl _ k) ?_
      obtain ⟨T63, X63, e63, st63⟩ := getF X61 hx hZ hown (host := "") (Or.inl (own_w36 hw)) Via.refl e61 f60 (g := (mkF m 130 #[.val (.ref a1), .val (.ref pgA), .val (.int 1), .val (.long rm), .second, .val (.int 1)] [(.ref a1), (.ref fb27), (.ref a1)])) rfl rfl (hb hby d5_130)
      refine Goes.step (B := T63.setTop (mkF m 133 #[.val (.ref a1), .val (.ref pgA), .val (.int 1), .val (.long rm), .second, .val (.int 1)] [(.ref chA), (.ref fb27), (.ref a1)])) st63 ?_
      refine Goes.step (fun _ k => pw_iload X63.here hx (hb hby d5_133) rfl _ k) ?_
      obtain ⟨c64, Ar64, -, Sz64, Nn64, Hs64, -⟩ := id V59
      have hin64 : ¬ ((1 : Int32) < 0 ∨ c64.slots.size ≤ ((1 : Int32)).toNatClampNeg) := inb_of Sz64 ⟨by decide, by decide⟩
      refine Goes.step (B := T63.setTop (mkF m 136 #[.val (.ref a1), .val (.ref pgA), .val (.int 1), .val (.long rm), .second, .val (.int 1)] [(.ref fb57), (.ref fb27), (.ref a1)])) (X63.aaload hx (j := (1 : Int32)) (v := (.ref fb57)) (by rw [e63]; exact Ar64.1) (State.isArrayOf_alike hZ.alike Ar64.2.1) rfl Ar64.2.2 hin64 (Has.at Hs64 hin64 rfl) (g := (mkF m 135 #[.val (.ref a1), .val (.ref pgA), .val (.int 1), .val (.long rm), .second, .val (.int 1)] [(.int 1), (.ref chA), (.ref fb27), (.ref a1)])) rfl rfl (hb hby d5_135)) ?_
      refine Goes.step (fun _ k => pw_aloadN X63.here hx (hb hby d5_136) rfl rfl _ k) ?_
      have f65 := ((fj41_2.keep Kp57 nin0).other W59 (Or.inl ne_a1_chA))
      obtain ⟨T66, X66, e66, st66⟩ := getF X63 hx hZ hown (host := "") (Or.inl (own_w32 hw)) Via.refl e63 f65 (g := (mkF m 137 #[.val (.ref a1), .val (.ref pgA), .val (.int 1), .val (.long rm), .second, .val (.int 1)] [(.ref a1), (.ref fb57), (.ref fb27), (.ref a1)])) rfl rfl (hb hby d5_137)
      refine Goes.step (B := T66.setTop (mkF m 140 #[.val (.ref a1), .val (.ref pgA), .val (.int 1), .val (.long rm), .second, .val (.int 1)] [(.ref plA), (.ref fb57), (.ref fb27), (.ref a1)])) st66 ?_
      refine Goes.step (fun _ k => pw_iload X66.here hx (hb hby d5_140) rfl _ (pw_iconst X66.here hx (v := (1 : Int32)) (hb hby d5_142) rfl _ k)) ?_
      refine Goes.step (B := T66.setTop (mkF m 144 #[.val (.ref a1), .val (.ref pgA), .val (.int 1), .val (.long rm), .second, .val (.int 1)] [(.int 0), (.ref plA), (.ref fb57), (.ref fb27), (.ref a1)])) (fun _ k => XS.isub X66.here hx rfl (hb hby d5_143) rfl k) ?_
      have f67 := ((fj41_12.keep Kp57 nin0).other W59 ne_plA_chA)
      obtain ⟨c68, Ar68, -, Sz68, Nn68, Hs68, -⟩ := id f67
      have hin68 : ¬ ((0 : Int32) < 0 ∨ c68.slots.size ≤ ((0 : Int32)).toNatClampNeg) := inb_of Sz68 ⟨by decide, by decide⟩
      refine Goes.step (B := T66.setTop (mkF m 145 #[.val (.ref a1), .val (.ref pgA), .val (.int 1), .val (.long rm), .second, .val (.int 1)] [(.int y0), (.ref fb57), (.ref fb27), (.ref a1)])) (X66.iaload hx (j := (0 : Int32)) (v := (.int y0)) (by rw [e66]; exact Ar68.1) (State.isArrayOf_alike hZ.alike Ar68.2.1) Ar68.2.2 hin68 (Has.at Hs68 hin68 rfl) (g := (mkF m 144 #[.val (.ref a1), .val (.ref pgA), .val (.int 1), .val (.long rm), .second, .val (.int 1)] [(.int 0), (.ref plA), (.ref fb57), (.ref fb27), (.ref a1)])) rfl rfl (hb hby d5_144)) ?_
      refine Goes.step (fun _ k => pw_aloadN X66.here hx (hb hby d5_145) rfl rfl _ k) ?_
      have f69 := ((fj41_10.keep Kp57 nin0).other W59 (Or.inl ne_a1_chA))
      obtain ⟨T70, X70, e70, st70⟩ := getF X66 hx hZ hown (host := "") (Or.inl (own_w61 hw)) Via.refl e66 f69 (g := (mkF m 146 #[.val (.ref a1), .val (.ref pgA), .val (.int 1), .val (.long rm), .second, .val (.int 1)] [(.ref a1), (.int y0), (.ref fb57), (.ref fb27), (.ref a1)])) rfl rfl (hb hby d5_146)
      refine Goes.step (B := T70.setTop (mkF m 149 #[.val (.ref a1), .val (.ref pgA), .val (.int 1), .val (.long rm), .second, .val (.int 1)] [(.int ft6), (.int y0), (.ref fb57), (.ref fb27), (.ref a1)])) st70 ?_
      have f72 := ((fj41_4.keep Kp57 nin0).other W59 (Or.inl ne_a1_chA))
      have f73 := ((fj41_5.keep Kp57 nin0).other W59 (Or.inl ne_a1_chA))
      have f74 := ((fj41_14.keep Kp57 nin0).other W59 ne_cA_chA)
      have f75 := ((fj41_15.keep Kp57 nin0).other W59 ne_mA_chA)
      have f76 := ((fj41_18.keep Kp57 nin0).other W59 (Ne.symm ne_chA_fb27))
      have f77 := (Vb57.other W59 (Ne.symm ne_chA_fb57))
      have f78 := ((fj41_0.keep Kp57).wr W59)
      obtain ⟨cq71, qq71, qr71⟩ := f78.cell
      obtain ⟨_, _, ⟨T71, L71, k71, n71⟩, -, X71, ⟨Lc71, hQ71, l71, y71, z71⟩, st71⟩ := X70.privateBack hx (y := (⟨"com/example/errantry/errantry/staff/CompletionBounds", "addGroup", "([J[JII)V"⟩ : MethodName)) hown (mvT hZ (own_w104 hw)) (mvT hZ (own_w105 hw)) (mvT hZ (own_selp (y := ({ cls := "com/example/errantry/errantry/staff/CompletionBounds", name := "addGroup", desc := "([J[JII)V" } : Jvm.MethodName)) (own_w12 hw) (own_w105 hw) (own_w106 hw) (by decide))) (Cond.privateMethod_at (mvP hZ (own_w106 hw) (args := #[]))) (mvT hZ (own_w107 hw)) (by decide) (backOf (W := 0) (rmAG l Z a0 hw [] a1 cA kC mA kM ct0 ct1 ct2 mb0 mb1 mb2 fb27 fk27 fb57 fk57 (ft6 + (1 : Int32)) B0 (List.replicate (ft6 + (1 : Int32)).toNatClampNeg (0 : Int64)) y0 ft6 h59 n0 O_59 f72 f73 f74 f75 f76 f77 gb57 ne_fb27_fb57 ne_cA_fb57 ne_mA_fb57 ne_a1_fb57 gy1 ⟨hm0, hm1⟩ tz (List.length_replicate ..) ⟨by omega, gm1.2⟩) hZ (own_w107 hw) (own_w13 hw) (by decide) (by decide)) (g := (mkF m 149 #[.val (.ref a1), .val (.ref pgA), .val (.int 1), .val (.long rm), .second, .val (.int 1)] [(.int ft6), (.int y0), (.ref fb57), (.ref fb27), (.ref a1)])) rfl (by rw [hml]; rfl) (Steps.refl _) (a := a1) (by rw [e70]; exact qq71) qr71 (argsL := [(.ref fb27), (.ref fb57), (.int y0), (.int ft6)]) (rest := []) (lenOf pd_6 rfl) rfl (by show 2 * 0 + _ ≤ _; exact Nat.le_of_eq rfl) (hb hby d5_149) (fun _ _ => ⟨rfl, e70, (by decide : 2 + 0 ≤ _), (by decide : 26 + 0 ≤ _)⟩)
      dsimp only [Pt.U, Pt.locs, Pt.cells, Pt.slots] at X71 l71 y71 z71 st71 hQ71
      subst l71 y71 z71
      obtain ⟨M71, ea71, cn71, q71, rfl, Nq71, Kp71, hea71, hcn71, Vn71, hch71, hnx71⟩ := hQ71
      have O_71 := O_59.keep Kp71 (allS gb57 all0)
      have K_71 := K_59.trans Kp71 (allS (P := fun x => x ∈ _ ∨ _) (Or.inr sz_fb57) all0)
      have N71 := Fr.app N59 Nq71
      refine Goes.via (B := T71.setTop (mkF m 152 #[.val (.ref a1), .val (.ref pgA), .val (.int 1), .val (.long rm), .second, .val (.int 1)] [])) st71 ?_
      have ck1 : 0 ≤ ea71.toInt ∧ ea71.toInt < 1099511627776 := by rw [hea71]; exact own_ctb hC0 hC1 hC2 gy1
      have cm1 : 1 ≤ cn71.toInt ∧ cn71.toInt ≤ 4 := by rw [hcn71]; exact gm1
      have nn1 := own_nat (j := cn71) (by omega)
      obtain ⟨P1, D1, R1⟩ := own_add R0 D0 (by omega) (by omega) ck1.1 ck1.2 hch71 hnx71
      obtain ⟨t1, ht1⟩ : ∃ z, z = 0 + cn71.toNatClampNeg := ⟨_, rfl⟩
      obtain ⟨el1, hel1⟩ : ∃ z, z = own_insF (fun _ => 0) q71 ea71.toInt cn71.toNatClampNeg := ⟨_, rfl⟩
      rw [← ht1, ← hel1] at D1 R1
      have C1 : own_chain ft6.toNatClampNeg [((([ct0, ct1, ct2] : List Int64).getD y0.toNatClampNeg 0).toInt, (([mb0, mb1, mb2] : List Int32).getD y0.toNatClampNeg 0).toNatClampNeg)] el1 t1 := own_consI C0 (by rw [← hea71]; exact P1) (by rw [← hea71, ← hcn71]; exact hel1) (by rw [← hcn71]; exact ht1)
      have bt1 : t1 ≤ 4 := by omega
      refine Goes.step (fun _ k => pw_iinc X71.here hx (l' := #[.val (.ref a1), .val (.ref pgA), .val (.int 1), .val (.long rm), .second, .val (.int 2)]) (hb hby d5_152) rfl rfl _ (pw_goto X71.here hx (pc' := 92) (hb hby d5_155) (by decide) (by decide) _ (pw_iload X71.here hx (hb hby d5_92) rfl _ (pw_iloadN X71.here hx (hb hby d5_94) rfl _ (pw_icmpYes X71.here hx (pc' := 158) (hb hby d5_95) (tlt (by decide)).2.2.1 (by decide) (by decide) _ (pw_aloadN X71.here hx (hb hby d5_158) rfl rfl _ k)))))) ?_
      refine Goes.step (fun _ k => pw_iconst X71.here hx (v := (0 : Int32)) (hb hby d5_159) rfl _ k) ?_
      have f79 := (f78.keep Kp71)
      have f80 := (((fj41_11.keep Kp57 nin0).other W59 (Or.inl ne_a1_chA)).keep Kp71 (ninS ne_a1_fb57 nin0))
      obtain ⟨T81, h81, X81, e81, W81, st81⟩ := putF X71 hx hZ hown (host := "") (Or.inl (own_w67 hw)) Via.refl rfl f80 f79 (Or.inl (own_w68 hw)) (own_w12 hw) (ty := .int) (by decide) rfl rfl (g := (mkF m 160 #[.val (.ref a1), .val (.ref pgA), .val (.int 1), .val (.long rm), .second, .val (.int 2)] [(.int 0), (.ref a1)])) rfl rfl (hb hby d5_160)
      have Fw81 := f80.same W81
      have N81 := Fr.snoc X81 N71 g_a1
      have O_81 := O_71.wr W81 g_a1
      have K_81 := K_71.wr W81 (Or.inl (List.mem_of_getElem? (i := 0) rfl))
      refine Goes.step (B := T81.setTop (mkF m 163 #[.val (.ref a1), .val (.ref pgA), .val (.int 1), .val (.long rm), .second, .val (.int 2)] [])) st81 ?_
      refine Goes.step (fun _ k => pw_aloadN X81.here hx (hb hby d5_163) rfl rfl _ k) ?_
      have f82 := ((((fj41_7.keep Kp57 nin0).other W59 (Or.inl ne_a1_chA)).keep Kp71 (ninS ne_a1_fb57 nin0)).other W81 (Or.inr (slot_ne (Or.inr (own_w43 hw)) (Or.inl (own_w68 hw)) (by decide) (t := (.array .int)) (t' := .int) (by decide) (by decide))))
      obtain ⟨T83, X83, e83, st83⟩ := getF X81 hx hZ hown (host := "") (Or.inl (own_w42 hw)) Via.refl e81 f82 (g := (mkF m 164 #[.val (.ref a1), .val (.ref pgA), .val (.int 1), .val (.long rm), .second, .val (.int 2)] [(.ref a1)])) rfl rfl (hb hby d5_164)
      refine Goes.step (B := T83.setTop (mkF m 167 #[.val (.ref a1), .val (.ref pgA), .val (.int 1), .val (.long rm), .second, .val (.int 2)] [(.ref ffA)])) st83 ?_
      refine Goes.step (fun _ k => pw_iconst X83.here hx (v := (1 : Int32)) (hb hby d5_167) rfl _ k) ?_
      have f85 := ((((fj41_17.keep Kp57 nin0).other W59 (Ne.symm ne_chA_ffA)).keep Kp71 (ninS ne_ffA_fb57 nin0)).other W81 (Ne.symm ne_a1_ffA))
      obtain ⟨_, _, ⟨T84, L84, k84, n84⟩, -, X84, ⟨Lc84, hQ84, l84, y84, z84⟩, st84⟩ := Jvm.LawKit.callS X83 hx (y := (⟨"java/util/Arrays", "fill", "([II)V"⟩ : MethodName)) hown (mvT hZ (own_w69 hw)) (mvT hZ (own_w70 hw)) (mvT hZ (own_w71 hw)) (mvT hZ (own_w72 hw)) (by decide) (backOf (W := 0) (rmFILL l Z a0 hw [] ffA kf zf (List.replicate zf.toNatClampNeg (.int 0)) (1 : Int32) h81 n0 O_81 f85 g_ffA (List.length_replicate ..) hzf.2) hZ (own_w72 hw) (own_w71 hw) (by decide) (by decide)) (g := (mkF m 168 #[.val (.ref a1), .val (.ref pgA), .val (.int 1), .val (.long rm), .second, .val (.int 2)] [(.int 1), (.ref ffA)])) rfl (by rw [hml]; rfl) (argsL := [(.ref ffA), (.int 1)]) (rest := []) (lenOf pd_5 rfl) rfl (by show 2 * 0 + _ ≤ _; exact Nat.le_of_eq rfl) (hb hby d5_168) (fun _ _ => ⟨rfl, e83, (by decide : 2 + 0 ≤ _), (by decide : 26 + 0 ≤ _)⟩)
      dsimp only [Pt.U, Pt.locs, Pt.cells, Pt.slots] at X84 l84 y84 z84 st84 hQ84
      subst l84 y84 z84
      obtain ⟨rfl, Nq84, Kp84⟩ := hQ84
      have O_84 := O_81.keep Kp84 (allS g_ffA all0)
      have K_84 := K_81.trans Kp84 (allS (P := fun x => x ∈ _ ∨ _) (Or.inl (List.mem_of_getElem? (i := 4) rfl)) all0)
      have N84 := Fr.app N81 Nq84
      refine Goes.step (B := T84.setTop (mkF m 171 #[.val (.ref a1), .val (.ref pgA), .val (.int 1), .val (.long rm), .second, .val (.int 2)] [])) st84 ?_
      have f86 := ((f79.wr W81).keep Kp84)
      have f87 := (((f60.keep Kp71 (ninS ne_a1_fb57 nin0)).other W81 (Or.inr (slot_ne (Or.inr (own_w37 hw)) (Or.inl (own_w68 hw)) (by decide) (t := (.array (.array .long))) (t' := .int) (by decide) (by decide)))).keep Kp84 (ninS ne_a1_ffA nin0))
      have f88 := (((((fj41_8.keep Kp57 nin0).other W59 (Or.inl ne_a1_chA)).keep Kp71 (ninS ne_a1_fb57 nin0)).other W81 (Or.inr (slot_ne (Or.inl (own_w54 hw)) (Or.inl (own_w68 hw)) (by decide) (t := .int) (t' := .int) (by decide) (by decide)))).keep Kp84 (ninS ne_a1_ffA nin0))
      have f89 := (((f69.keep Kp71 (ninS ne_a1_fb57 nin0)).other W81 (Or.inr (slot_ne (Or.inl (own_w62 hw)) (Or.inl (own_w68 hw)) (by decide) (t := .int) (t' := .int) (by decide) (by decide)))).keep Kp84 (ninS ne_a1_ffA nin0))
      have f90 := (((V59.keep Kp71 (ninS ne_chA_fb57 nin0)).other W81 (Ne.symm ne_a1_chA)).keep Kp84 (ninS ne_chA_ffA nin0))
      have f91 := ((Vn71.other W81 (Ne.symm ne_a1_fb57)).keep Kp84 (ninS (Ne.symm ne_ffA_fb57) nin0))
      exact Goes.retV X84 hx rfl Bd.returns hlk (hb hby d5_171) (by decide) (by decide) (⟨rfl, N84, K_84, ft6, [(.ref fb27), (.ref fb57), .null, .null], fb57, fk57, M71, el1, t1, hm0, hm1, hms, f86, f87, f88, f89, f90, rfl, f91, R1, (by have q := C1; rw [hy.1 (by decide)] at q; unfold own_gl; rw [show (1 : Int32).toNatClampNeg = 1 from by decide]; exact q)⟩)
    · refine Goes.step (fun _ k => pw_iload Xj41.here hx (hb hby d5_92) rfl _ (pw_iloadN Xj41.here hx (hb hby d5_94) rfl _ (pw_icmpNo Xj41.here hx (hb hby d5_95) (flt (by decide)).2.2.1 _ (pw_aloadN Xj41.here hx (hb hby d5_98) rfl rfl _ k)))) ?_
      obtain ⟨T92, X92, e92, st92⟩ := getF Xj41 hx hZ hown (host := "") (Or.inl (own_w36 hw)) Via.refl ej41 fj41_6 (g := (mkF m 99 #[.val (.ref a1), .val (.ref pgA), .val (.int 2), .val (.long rm), .second, .val (.int 1)] [(.ref a1)])) rfl rfl (hb hby d5_99)
      refine Goes.step (B := T92.setTop (mkF m 102 #[.val (.ref a1), .val (.ref pgA), .val (.int 2), .val (.long rm), .second, .val (.int 1)] [(.ref chA)])) st92 ?_
      refine Goes.step (fun _ k => pw_iload X92.here hx (hb hby d5_102) rfl _ (pw_aloadN X92.here hx (hb hby d5_104) rfl rfl _ k)) ?_
      obtain ⟨T93, X93, e93, st93⟩ := getF X92 hx hZ hown (host := "") (Or.inl (own_w36 hw)) Via.refl e92 fj41_6 (g := (mkF m 105 #[.val (.ref a1), .val (.ref pgA), .val (.int 2), .val (.long rm), .second, .val (.int 1)] [(.ref a1), (.int 1), (.ref chA)])) rfl rfl (hb hby d5_105)
      refine Goes.step (B := T93.setTop (mkF m 108 #[.val (.ref a1), .val (.ref pgA), .val (.int 2), .val (.long rm), .second, .val (.int 1)] [(.ref chA), (.int 1), (.ref chA)])) st93 ?_
      refine Goes.step (fun _ k => pw_iload X93.here hx (hb hby d5_108) rfl _ k) ?_
      obtain ⟨c94, Ar94, -, Sz94, Nn94, Hs94, -⟩ := id fj41_16
      have hin94 : ¬ ((1 : Int32) < 0 ∨ c94.slots.size ≤ ((1 : Int32)).toNatClampNeg) := inb_of Sz94 ⟨by decide, by decide⟩
      refine Goes.step (B := T93.setTop (mkF m 111 #[.val (.ref a1), .val (.ref pgA), .val (.int 2), .val (.long rm), .second, .val (.int 1)] [.null, (.int 1), (.ref chA)])) (X93.aaload hx (j := (1 : Int32)) (v := .null) (by rw [e93]; exact Ar94.1) (State.isArrayOf_alike hZ.alike Ar94.2.1) rfl Ar94.2.2 hin94 (Has.at Hs94 hin94 rfl) (g := (mkF m 110 #[.val (.ref a1), .val (.ref pgA), .val (.int 2), .val (.long rm), .second, .val (.int 1)] [(.int 1), (.ref chA), (.int 1), (.ref chA)])) rfl rfl (hb hby d5_110)) ?_
      refine Goes.step (fun _ k => pw_aloadN X93.here hx (hb hby d5_111) rfl rfl _ k) ?_
      obtain ⟨T95, X95, e95, st95⟩ := getF X93 hx hZ hown (host := "") (Or.inl (own_w61 hw)) Via.refl e93 fj41_10 (g := (mkF m 112 #[.val (.ref a1), .val (.ref pgA), .val (.int 2), .val (.long rm), .second, .val (.int 1)] [(.ref a1), .null, (.int 1), (.ref chA)])) rfl rfl (hb hby d5_112)
      refine Goes.step (B := T95.setTop (mkF m 115 #[.val (.ref a1), .val (.ref pgA), .val (.int 2), .val (.long rm), .second, .val (.int 1)] [(.int ft6), .null, (.int 1), (.ref chA)])) st95 ?_
      have lt_a1_96 := fj41_0.lt
      have lt_plA_96 := fj41_12.lt
      have lt_qA_96 := fj41_13.lt
      have lt_cA_96 := fj41_14.lt
      have lt_mA_96 := fj41_15.lt
      have lt_chA_96 := fj41_16.lt
      have lt_ffA_96 := fj41_17.lt
      have lt_fb27_96 := fj41_18.lt
      obtain ⟨_, _, ⟨T96, L96, k96, n96⟩, -, X96, ⟨Lc96, hQ96, l96, y96, z96⟩, st96⟩ := Jvm.LawKit.callS X95 hx (y := (⟨"com/example/errantry/errantry/staff/CompletionBounds", "row", "([JI)[J"⟩ : MethodName)) hown (mvT hZ (own_w63 hw)) (mvT hZ (own_w64 hw)) (mvT hZ (own_w13 hw)) (mvT hZ (own_w65 hw)) (by decide) (backOf (W := 2) (rmROW l Z a0 hw [] ft6 Hj41 n0 Oj41 hm0 hm1) hZ (own_w65 hw) (own_w13 hw) (by decide) (by decide)) (g := (mkF m 115 #[.val (.ref a1), .val (.ref pgA), .val (.int 2), .val (.long rm), .second, .val (.int 1)] [(.int ft6), .null, (.int 1), (.ref chA)])) rfl (by rw [hml]; rfl) (argsL := [.null, (.int ft6)]) (rest := [(.int 1), (.ref chA)]) (lenOf pd_4 rfl) rfl (by show 2 * 0 + _ ≤ _; exact Nat.le_of_eq rfl) (hb hby d5_115) (fun _ _ => ⟨rfl, e95, (by decide : 1 + 1 ≤ _), (by decide : 13 + 13 ≤ _)⟩)
      dsimp only [Pt.U, Pt.locs, Pt.cells, Pt.slots] at X96 l96 y96 z96 st96 hQ96
      subst l96 y96 z96
      obtain ⟨fb96, fk96, rfl, Nq96, Kp96, gb96, szc_fb96, Eb96, Vb96⟩ := hQ96
      have ne_a1_fb96 : a1 ≠ fb96 := Nat.ne_of_lt (Nat.lt_of_lt_of_le lt_a1_96 szc_fb96)
      have ne_plA_fb96 : plA ≠ fb96 := Nat.ne_of_lt (Nat.lt_of_lt_of_le lt_plA_96 szc_fb96)
      have ne_qA_fb96 : qA ≠ fb96 := Nat.ne_of_lt (Nat.lt_of_lt_of_le lt_qA_96 szc_fb96)
      have ne_cA_fb96 : cA ≠ fb96 := Nat.ne_of_lt (Nat.lt_of_lt_of_le lt_cA_96 szc_fb96)
      have ne_mA_fb96 : mA ≠ fb96 := Nat.ne_of_lt (Nat.lt_of_lt_of_le lt_mA_96 szc_fb96)
      have ne_chA_fb96 : chA ≠ fb96 := Nat.ne_of_lt (Nat.lt_of_lt_of_le lt_chA_96 szc_fb96)
      have ne_ffA_fb96 : ffA ≠ fb96 := Nat.ne_of_lt (Nat.lt_of_lt_of_le lt_ffA_96 szc_fb96)
      have ne_fb27_fb96 : fb27 ≠ fb96 := Nat.ne_of_lt (Nat.lt_of_lt_of_le lt_fb27_96 szc_fb96)
      have sz_fb96 : h0.size ≤ fb96 := Nat.le_trans Kj41.1 szc_fb96
      have O_96 := Oj41.keep Kp96 all0
      have K_96 := Kj41.trans Kp96 all0
      have N96 := Fr.app Nj41 Nq96
      refine Goes.step (B := T96.setTop (mkF m 118 #[.val (.ref a1), .val (.ref pgA), .val (.int 2), .val (.long rm), .second, .val (.int 1)] [(.ref fb96), (.int 1), (.ref chA)])) st96 ?_
      have f97 := (fj41_16.keep Kp96 nin0)
      obtain ⟨c98, Ar98, q98, Sz98, Nn98, Hs98, Gs98⟩ := id f97
      have hin98 : ¬ ((1 : Int32) < 0 ∨ c98.slots.size ≤ ((1 : Int32)).toNatClampNeg) := inb_of Sz98 ⟨by decide, by decide⟩
      obtain ⟨T98, h98, X98, e98, W98, st98⟩ := stR X96 hx hZ rfl Ar98 (j := (1 : Int32)) hin98 rfl (Sto.ofVA Ar98 q98 Ov (Ins.self Eb96)) (g := (mkF m 118 #[.val (.ref a1), .val (.ref pgA), .val (.int 2), .val (.long rm), .second, .val (.int 1)] [(.ref fb96), (.int 1), (.ref chA)])) rfl rfl (hb hby d5_118)
      have V98 : Arv Z h98 chA kc (.array .long) (4 : Int32) [(.ref fb27), (.ref fb96), .null, .null] .null := Arv.set Ar98 q98 Sz98 Nn98 Hs98 Gs98 rfl W98 1 rfl (Nat.le_of_ble_eq_true rfl)
      have N98 := Fr.snoc X98 N96 g_chA
      have O_98 := O_96.wr W98 g_chA
      have K_98 := K_96.wr W98 (Or.inl (List.mem_of_getElem? (i := 3) rfl))
      refine Goes.step (B := T98.setTop (mkF m 119 #[.val (.ref a1), .val (.ref pgA), .val (.int 2), .val (.long rm), .second, .val (.int 1)] [])) st98 ?_
      have gy1 := hq0 (by decide)
      have gm1 := own_mb hM0 hM1 hM2 gy1
      refine Goes.step (fun _ k => pw_aloadN X98.here hx (hb hby d5_119) rfl rfl _ (pw_aloadN X98.here hx (hb hby d5_120) rfl rfl _ k)) ?_
      have f99 := ((fj41_6.keep Kp96 nin0).other W98 (Or.inl ne_a1_chA))
      obtain ⟨T100, X100, e100, st100⟩ := getF X98 hx hZ hown (host := "") (Or.inl (own_w36 hw)) Via.refl e98 f99 (g := (mkF m 121 #[.val (.ref a1), .val (.ref pgA), .val (.int 2), .val (.long rm), .second, .val (.int 1)] [(.ref a1), (.ref a1)])) rfl rfl (hb hby d5_121)
      refine Goes.step (B := T100.setTop (mkF m 124 #[.val (.ref a1), .val (.ref pgA), .val (.int 2), .val (.long rm), .second, .val (.int 1)] [(.ref chA), (.ref a1)])) st100 ?_
      refine Goes.step (fun _ k => pw_iload X100.here hx (hb hby d5_124) rfl _ (pw_iconst X100.here hx (v := (1 : Int32)) (hb hby d5_126) rfl _ k)) ?_
      refine Goes.step (B := T100.setTop (mkF m 128 #[.val (.ref a1), .val (.ref pgA), .val (.int 2), .val (.long rm), .second, .val (.int 1)] [(.int 0), (.ref chA), (.ref a1)])) (fun _ k => XS.isub X100.here hx rfl (hb hby d5_127) rfl k) ?_
      obtain ⟨c101, Ar101, -, Sz101, Nn101, Hs101, -⟩ := id V98
      have hin101 : ¬ ((0 : Int32) < 0 ∨ c101.slots.size ≤ ((0 : Int32)).toNatClampNeg) := inb_of Sz101 ⟨by decide, by decide⟩
      refine Goes.step (B := T100.setTop (mkF m 129 #[.val (.ref a1), .val (.ref pgA), .val (.int 2), .val (.long rm), .second, .val (.int 1)] [(.ref fb27), (.ref a1)])) (X100.aaload hx (j := (0 : Int32)) (v := (.ref fb27)) (by rw [e100]; exact Ar101.1) (State.isArrayOf_alike hZ.alike Ar101.2.1) rfl Ar101.2.2 hin101 (Has.at Hs101 hin101 rfl) (g := (mkF m 128 #[.val (.ref a1), .val (.ref pgA), .val (.int 2), .val (.long rm), .second, .val (.int 1)] [(.int 0), (.ref chA), (.ref a1)])) rfl rfl (hb hby d5_128)) ?_
      refine Goes.step (fun _ k => pw_aloadN X100.here hx (hb hby d5_129) rfl rfl _ k) ?_
      obtain ⟨T102, X102, e102, st102⟩ := getF X100 hx hZ hown (host := "") (Or.inl (own_w36 hw)) Via.refl e100 f99 (g := (mkF m 130 #[.val (.ref a1), .val (.ref pgA), .val (.int 2), .val (.long rm), .second, .val (.int 1)] [(.ref a1), (.ref fb27), (.ref a1)])) rfl rfl (hb hby d5_130)
      refine Goes.step (B := T102.setTop (mkF m 133 #[.val (.ref a1), .val (.ref pgA), .val (.int 2), .val (.long rm), .second, .val (.int 1)] [(.ref chA), (.ref fb27), (.ref a1)])) st102 ?_
      refine Goes.step (fun _ k => pw_iload X102.here hx (hb hby d5_133) rfl _ k) ?_
      obtain ⟨c103, Ar103, -, Sz103, Nn103, Hs103, -⟩ := id V98
      have hin103 : ¬ ((1 : Int32) < 0 ∨ c103.slots.size ≤ ((1 : Int32)).toNatClampNeg) := inb_of Sz103 ⟨by decide, by decide⟩
      refine Goes.step (B := T102.setTop (mkF m 136 #[.val (.ref a1), .val (.ref pgA), .val (.int 2), .val (.long rm), .second, .val (.int 1)] [(.ref fb96), (.ref fb27), (.ref a1)])) (X102.aaload hx (j := (1 : Int32)) (v := (.ref fb96)) (by rw [e102]; exact Ar103.1) (State.isArrayOf_alike hZ.alike Ar103.2.1) rfl Ar103.2.2 hin103 (Has.at Hs103 hin103 rfl) (g := (mkF m 135 #[.val (.ref a1), .val (.ref pgA), .val (.int 2), .val (.long rm), .second, .val (.int 1)] [(.int 1), (.ref chA), (.ref fb27), (.ref a1)])) rfl rfl (hb hby d5_135)) ?_
      refine Goes.step (fun _ k => pw_aloadN X102.here hx (hb hby d5_136) rfl rfl _ k) ?_
      have f104 := ((fj41_2.keep Kp96 nin0).other W98 (Or.inl ne_a1_chA))
      obtain ⟨T105, X105, e105, st105⟩ := getF X102 hx hZ hown (host := "") (Or.inl (own_w32 hw)) Via.refl e102 f104 (g := (mkF m 137 #[.val (.ref a1), .val (.ref pgA), .val (.int 2), .val (.long rm), .second, .val (.int 1)] [(.ref a1), (.ref fb96), (.ref fb27), (.ref a1)])) rfl rfl (hb hby d5_137)
      refine Goes.step (B := T105.setTop (mkF m 140 #[.val (.ref a1), .val (.ref pgA), .val (.int 2), .val (.long rm), .second, .val (.int 1)] [(.ref plA), (.ref fb96), (.ref fb27), (.ref a1)])) st105 ?_
      refine Goes.step (fun _ k => pw_iload X105.here hx (hb hby d5_140) rfl _ (pw_iconst X105.here hx (v := (1 : Int32)) (hb hby d5_142) rfl _ k)) ?_
      refine Goes.step (B := T105.setTop (mkF m 144 #[.val (.ref a1), .val (.ref pgA), .val (.int 2), .val (.long rm), .second, .val (.int 1)] [(.int 0), (.ref plA), (.ref fb96), (.ref fb27), (.ref a1)])) (fun _ k => XS.isub X105.here hx rfl (hb hby d5_143) rfl k) ?_
      have f106 := ((fj41_12.keep Kp96 nin0).other W98 ne_plA_chA)
      obtain ⟨c107, Ar107, -, Sz107, Nn107, Hs107, -⟩ := id f106
      have hin107 : ¬ ((0 : Int32) < 0 ∨ c107.slots.size ≤ ((0 : Int32)).toNatClampNeg) := inb_of Sz107 ⟨by decide, by decide⟩
      refine Goes.step (B := T105.setTop (mkF m 145 #[.val (.ref a1), .val (.ref pgA), .val (.int 2), .val (.long rm), .second, .val (.int 1)] [(.int y0), (.ref fb96), (.ref fb27), (.ref a1)])) (X105.iaload hx (j := (0 : Int32)) (v := (.int y0)) (by rw [e105]; exact Ar107.1) (State.isArrayOf_alike hZ.alike Ar107.2.1) Ar107.2.2 hin107 (Has.at Hs107 hin107 rfl) (g := (mkF m 144 #[.val (.ref a1), .val (.ref pgA), .val (.int 2), .val (.long rm), .second, .val (.int 1)] [(.int 0), (.ref plA), (.ref fb96), (.ref fb27), (.ref a1)])) rfl rfl (hb hby d5_144)) ?_
      refine Goes.step (fun _ k => pw_aloadN X105.here hx (hb hby d5_145) rfl rfl _ k) ?_
      have f108 := ((fj41_10.keep Kp96 nin0).other W98 (Or.inl ne_a1_chA))
      obtain ⟨T109, X109, e109, st109⟩ := getF X105 hx hZ hown (host := "") (Or.inl (own_w61 hw)) Via.refl e105 f108 (g := (mkF m 146 #[.val (.ref a1), .val (.ref pgA), .val (.int 2), .val (.long rm), .second, .val (.int 1)] [(.ref a1), (.int y0), (.ref fb96), (.ref fb27), (.ref a1)])) rfl rfl (hb hby d5_146)
      refine Goes.step (B := T109.setTop (mkF m 149 #[.val (.ref a1), .val (.ref pgA), .val (.int 2), .val (.long rm), .second, .val (.int 1)] [(.int ft6), (.int y0), (.ref fb96), (.ref fb27), (.ref a1)])) st109 ?_
      have f111 := ((fj41_4.keep Kp96 nin0).other W98 (Or.inl ne_a1_chA))
      have f112 := ((fj41_5.keep Kp96 nin0).other W98 (Or.inl ne_a1_chA))
      have f113 := ((fj41_14.keep Kp96 nin0).other W98 ne_cA_chA)
      have f114 := ((fj41_15.keep Kp96 nin0).other W98 ne_mA_chA)
      have f115 := ((fj41_18.keep Kp96 nin0).other W98 (Ne.symm ne_chA_fb27))
      have f116 := (Vb96.other W98 (Ne.symm ne_chA_fb96))
      have f117 := ((fj41_0.keep Kp96).wr W98)
      obtain ⟨cq110, qq110, qr110⟩ := f117.cell
      obtain ⟨_, _, ⟨T110, L110, k110, n110⟩, -, X110, ⟨Lc110, hQ110, l110, y110, z110⟩, st110⟩ := X109.privateBack hx (y := (⟨"com/example/errantry/errantry/staff/CompletionBounds", "addGroup", "([J[JII)V"⟩ : MethodName)) hown (mvT hZ (own_w104 hw)) (mvT hZ (own_w105 hw)) (mvT hZ (own_selp (y := ({ cls := "com/example/errantry/errantry/staff/CompletionBounds", name := "addGroup", desc := "([J[JII)V" } : Jvm.MethodName)) (own_w12 hw) (own_w105 hw) (own_w106 hw) (by decide))) (Cond.privateMethod_at (mvP hZ (own_w106 hw) (args := #[]))) (mvT hZ (own_w107 hw)) (by decide) (backOf (W := 0) (rmAG l Z a0 hw [] a1 cA kC mA kM ct0 ct1 ct2 mb0 mb1 mb2 fb27 fk27 fb96 fk96 (ft6 + (1 : Int32)) B0 (List.replicate (ft6 + (1 : Int32)).toNatClampNeg (0 : Int64)) y0 ft6 h98 n0 O_98 f111 f112 f113 f114 f115 f116 gb96 ne_fb27_fb96 ne_cA_fb96 ne_mA_fb96 ne_a1_fb96 gy1 ⟨hm0, hm1⟩ tz (List.length_replicate ..) ⟨by omega, gm1.2⟩) hZ (own_w107 hw) (own_w13 hw) (by decide) (by decide)) (g := (mkF m 149 #[.val (.ref a1), .val (.ref pgA), .val (.int 2), .val (.long rm), .second, .val (.int 1)] [(.int ft6), (.int y0), (.ref fb96), (.ref fb27), (.ref a1)])) rfl (by rw [hml]; rfl) (Steps.refl _) (a := a1) (by rw [e109]; exact qq110) qr110 (argsL := [(.ref fb27), (.ref fb96), (.int y0), (.int ft6)]) (rest := []) (lenOf pd_6 rfl) rfl (by show 2 * 0 + _ ≤ _; exact Nat.le_of_eq rfl) (hb hby d5_149) (fun _ _ => ⟨rfl, e109, (by decide : 2 + 0 ≤ _), (by decide : 26 + 0 ≤ _)⟩)
      dsimp only [Pt.U, Pt.locs, Pt.cells, Pt.slots] at X110 l110 y110 z110 st110 hQ110
      subst l110 y110 z110
      obtain ⟨M110, ea110, cn110, q110, rfl, Nq110, Kp110, hea110, hcn110, Vn110, hch110, hnx110⟩ := hQ110
      have O_110 := O_98.keep Kp110 (allS gb96 all0)
      have K_110 := K_98.trans Kp110 (allS (P := fun x => x ∈ _ ∨ _) (Or.inr sz_fb96) all0)
      have N110 := Fr.app N98 Nq110
      refine Goes.via (B := T110.setTop (mkF m 152 #[.val (.ref a1), .val (.ref pgA), .val (.int 2), .val (.long rm), .second, .val (.int 1)] [])) st110 ?_
      have ck1 : 0 ≤ ea110.toInt ∧ ea110.toInt < 1099511627776 := by rw [hea110]; exact own_ctb hC0 hC1 hC2 gy1
      have cm1 : 1 ≤ cn110.toInt ∧ cn110.toInt ≤ 4 := by rw [hcn110]; exact gm1
      have nn1 := own_nat (j := cn110) (by omega)
      obtain ⟨P1, D1, R1⟩ := own_add R0 D0 (by omega) (by omega) ck1.1 ck1.2 hch110 hnx110
      obtain ⟨t1, ht1⟩ : ∃ z, z = 0 + cn110.toNatClampNeg := ⟨_, rfl⟩
      obtain ⟨el1, hel1⟩ : ∃ z, z = own_insF (fun _ => 0) q110 ea110.toInt cn110.toNatClampNeg := ⟨_, rfl⟩
      rw [← ht1, ← hel1] at D1 R1
      have C1 : own_chain ft6.toNatClampNeg [((([ct0, ct1, ct2] : List Int64).getD y0.toNatClampNeg 0).toInt, (([mb0, mb1, mb2] : List Int32).getD y0.toNatClampNeg 0).toNatClampNeg)] el1 t1 := own_consI C0 (by rw [← hea110]; exact P1) (by rw [← hea110, ← hcn110]; exact hel1) (by rw [← hcn110]; exact ht1)
      have bt1 : t1 ≤ 4 := by omega
      refine Goes.step (fun _ k => pw_iinc X110.here hx (l' := #[.val (.ref a1), .val (.ref pgA), .val (.int 2), .val (.long rm), .second, .val (.int 2)]) (hb hby d5_152) rfl rfl _ (pw_goto X110.here hx (pc' := 92) (hb hby d5_155) (by decide) (by decide) _ (pw_iload X110.here hx (hb hby d5_92) rfl _ (pw_iloadN X110.here hx (hb hby d5_94) rfl _ (pw_icmpNo X110.here hx (hb hby d5_95) (flt (by decide)).2.2.1 _ (pw_aloadN X110.here hx (hb hby d5_98) rfl rfl _ k)))))) ?_
      have f118 := (f99.keep Kp110 (ninS ne_a1_fb96 nin0))
      obtain ⟨T119, X119, e119, st119⟩ := getF X110 hx hZ hown (host := "") (Or.inl (own_w36 hw)) Via.refl rfl f118 (g := (mkF m 99 #[.val (.ref a1), .val (.ref pgA), .val (.int 2), .val (.long rm), .second, .val (.int 2)] [(.ref a1)])) rfl rfl (hb hby d5_99)
      refine Goes.step (B := T119.setTop (mkF m 102 #[.val (.ref a1), .val (.ref pgA), .val (.int 2), .val (.long rm), .second, .val (.int 2)] [(.ref chA)])) st119 ?_
      refine Goes.step (fun _ k => pw_iload X119.here hx (hb hby d5_102) rfl _ (pw_aloadN X119.here hx (hb hby d5_104) rfl rfl _ k)) ?_
      obtain ⟨T120, X120, e120, st120⟩ := getF X119 hx hZ hown (host := "") (Or.inl (own_w36 hw)) Via.refl e119 f118 (g := (mkF m 105 #[.val (.ref a1), .val (.ref pgA), .val (.int 2), .val (.long rm), .second, .val (.int 2)] [(.ref a1), (.int 2), (.ref chA)])) rfl rfl (hb hby d5_105)
      refine Goes.step (B := T120.setTop (mkF m 108 #[.val (.ref a1), .val (.ref pgA), .val (.int 2), .val (.long rm), .second, .val (.int 2)] [(.ref chA), (.int 2), (.ref chA)])) st120 ?_
      refine Goes.step (fun _ k => pw_iload X120.here hx (hb hby d5_108) rfl _ k) ?_
      have f121 := (V98.keep Kp110 (ninS ne_chA_fb96 nin0))
      obtain ⟨c122, Ar122, -, Sz122, Nn122, Hs122, -⟩ := id f121
      have hin122 : ¬ ((2 : Int32) < 0 ∨ c122.slots.size ≤ ((2 : Int32)).toNatClampNeg) := inb_of Sz122 ⟨by decide, by decide⟩
      refine Goes.step (B := T120.setTop (mkF m 111 #[.val (.ref a1), .val (.ref pgA), .val (.int 2), .val (.long rm), .second, .val (.int 2)] [.null, (.int 2), (.ref chA)])) (X120.aaload hx (j := (2 : Int32)) (v := .null) (by rw [e120]; exact Ar122.1) (State.isArrayOf_alike hZ.alike Ar122.2.1) rfl Ar122.2.2 hin122 (Has.at Hs122 hin122 rfl) (g := (mkF m 110 #[.val (.ref a1), .val (.ref pgA), .val (.int 2), .val (.long rm), .second, .val (.int 2)] [(.int 2), (.ref chA), (.int 2), (.ref chA)])) rfl rfl (hb hby d5_110)) ?_
      refine Goes.step (fun _ k => pw_aloadN X120.here hx (hb hby d5_111) rfl rfl _ k) ?_
      have f123 := (f108.keep Kp110 (ninS ne_a1_fb96 nin0))
      obtain ⟨T124, X124, e124, st124⟩ := getF X120 hx hZ hown (host := "") (Or.inl (own_w61 hw)) Via.refl e120 f123 (g := (mkF m 112 #[.val (.ref a1), .val (.ref pgA), .val (.int 2), .val (.long rm), .second, .val (.int 2)] [(.ref a1), .null, (.int 2), (.ref chA)])) rfl rfl (hb hby d5_112)
      refine Goes.step (B := T124.setTop (mkF m 115 #[.val (.ref a1), .val (.ref pgA), .val (.int 2), .val (.long rm), .second, .val (.int 2)] [(.int ft6), .null, (.int 2), (.ref chA)])) st124 ?_
      have f126 := (f117.keep Kp110)
      have lt_a1_125 := f126.lt
      have f127 := (f106.keep Kp110 (ninS ne_plA_fb96 nin0))
      have lt_plA_125 := f127.lt
      have f128 := (((fj41_13.keep Kp96 nin0).other W98 ne_qA_chA).keep Kp110 (ninS ne_qA_fb96 nin0))
      have lt_qA_125 := f128.lt
      have f129 := (f113.keep Kp110 (ninS ne_cA_fb96 nin0))
      have lt_cA_125 := f129.lt
      have f130 := (f114.keep Kp110 (ninS ne_mA_fb96 nin0))
      have lt_mA_125 := f130.lt
      have lt_chA_125 := f121.lt
      have f131 := (((fj41_17.keep Kp96 nin0).other W98 (Ne.symm ne_chA_ffA)).keep Kp110 (ninS ne_ffA_fb96 nin0))
      have lt_ffA_125 := f131.lt
      have f132 := (f115.keep Kp110 (ninS ne_fb27_fb96 nin0))
      have lt_fb27_125 := f132.lt
      have lt_fb96_125 := Vn110.lt
      obtain ⟨_, _, ⟨T125, L125, k125, n125⟩, -, X125, ⟨Lc125, hQ125, l125, y125, z125⟩, st125⟩ := Jvm.LawKit.callS X124 hx (y := (⟨"com/example/errantry/errantry/staff/CompletionBounds", "row", "([JI)[J"⟩ : MethodName)) hown (mvT hZ (own_w63 hw)) (mvT hZ (own_w64 hw)) (mvT hZ (own_w13 hw)) (mvT hZ (own_w65 hw)) (by decide) (backOf (W := 2) (rmROW l Z a0 hw [] ft6 T110.heap n0 O_110 hm0 hm1) hZ (own_w65 hw) (own_w13 hw) (by decide) (by decide)) (g := (mkF m 115 #[.val (.ref a1), .val (.ref pgA), .val (.int 2), .val (.long rm), .second, .val (.int 2)] [(.int ft6), .null, (.int 2), (.ref chA)])) rfl (by rw [hml]; rfl) (argsL := [.null, (.int ft6)]) (rest := [(.int 2), (.ref chA)]) (lenOf pd_4 rfl) rfl (by show 2 * 0 + _ ≤ _; exact Nat.le_of_eq rfl) (hb hby d5_115) (fun _ _ => ⟨rfl, e124, (by decide : 2 + 1 ≤ _), (by decide : 26 + 13 ≤ _)⟩)
      dsimp only [Pt.U, Pt.locs, Pt.cells, Pt.slots] at X125 l125 y125 z125 st125 hQ125
      subst l125 y125 z125
      obtain ⟨fb125, fk125, rfl, Nq125, Kp125, gb125, szc_fb125, Eb125, Vb125⟩ := hQ125
      have ne_a1_fb125 : a1 ≠ fb125 := Nat.ne_of_lt (Nat.lt_of_lt_of_le lt_a1_125 szc_fb125)
      have ne_plA_fb125 : plA ≠ fb125 := Nat.ne_of_lt (Nat.lt_of_lt_of_le lt_plA_125 szc_fb125)
      have ne_qA_fb125 : qA ≠ fb125 := Nat.ne_of_lt (Nat.lt_of_lt_of_le lt_qA_125 szc_fb125)
      have ne_cA_fb125 : cA ≠ fb125 := Nat.ne_of_lt (Nat.lt_of_lt_of_le lt_cA_125 szc_fb125)
      have ne_mA_fb125 : mA ≠ fb125 := Nat.ne_of_lt (Nat.lt_of_lt_of_le lt_mA_125 szc_fb125)
      have ne_chA_fb125 : chA ≠ fb125 := Nat.ne_of_lt (Nat.lt_of_lt_of_le lt_chA_125 szc_fb125)
      have ne_ffA_fb125 : ffA ≠ fb125 := Nat.ne_of_lt (Nat.lt_of_lt_of_le lt_ffA_125 szc_fb125)
      have ne_fb27_fb125 : fb27 ≠ fb125 := Nat.ne_of_lt (Nat.lt_of_lt_of_le lt_fb27_125 szc_fb125)
      have ne_fb96_fb125 : fb96 ≠ fb125 := Nat.ne_of_lt (Nat.lt_of_lt_of_le lt_fb96_125 szc_fb125)
      have sz_fb125 : h0.size ≤ fb125 := Nat.le_trans K_110.1 szc_fb125
      have O_125 := O_110.keep Kp125 all0
      have K_125 := K_110.trans Kp125 all0
      have N125 := Fr.app N110 Nq125
      refine Goes.step (B := T125.setTop (mkF m 118 #[.val (.ref a1), .val (.ref pgA), .val (.int 2), .val (.long rm), .second, .val (.int 2)] [(.ref fb125), (.int 2), (.ref chA)])) st125 ?_
      have f133 := (f121.keep Kp125 nin0)
      obtain ⟨c134, Ar134, q134, Sz134, Nn134, Hs134, Gs134⟩ := id f133
      have hin134 : ¬ ((2 : Int32) < 0 ∨ c134.slots.size ≤ ((2 : Int32)).toNatClampNeg) := inb_of Sz134 ⟨by decide, by decide⟩
      obtain ⟨T134, h134, X134, e134, W134, st134⟩ := stR X125 hx hZ rfl Ar134 (j := (2 : Int32)) hin134 rfl (Sto.ofVA Ar134 q134 Ov (Ins.self Eb125)) (g := (mkF m 118 #[.val (.ref a1), .val (.ref pgA), .val (.int 2), .val (.long rm), .second, .val (.int 2)] [(.ref fb125), (.int 2), (.ref chA)])) rfl rfl (hb hby d5_118)
      have V134 : Arv Z h134 chA kc (.array .long) (4 : Int32) [(.ref fb27), (.ref fb96), (.ref fb125), .null] .null := Arv.set Ar134 q134 Sz134 Nn134 Hs134 Gs134 rfl W134 2 rfl (Nat.le_of_ble_eq_true rfl)
      have N134 := Fr.snoc X134 N125 g_chA
      have O_134 := O_125.wr W134 g_chA
      have K_134 := K_125.wr W134 (Or.inl (List.mem_of_getElem? (i := 3) rfl))
      refine Goes.step (B := T134.setTop (mkF m 119 #[.val (.ref a1), .val (.ref pgA), .val (.int 2), .val (.long rm), .second, .val (.int 2)] [])) st134 ?_
      have gy2 := hq1 (by decide)
      have gm2 := own_mb hM0 hM1 hM2 gy2
      refine Goes.step (fun _ k => pw_aloadN X134.here hx (hb hby d5_119) rfl rfl _ (pw_aloadN X134.here hx (hb hby d5_120) rfl rfl _ k)) ?_
      have f135 := ((f118.keep Kp125 nin0).other W134 (Or.inl ne_a1_chA))
      obtain ⟨T136, X136, e136, st136⟩ := getF X134 hx hZ hown (host := "") (Or.inl (own_w36 hw)) Via.refl e134 f135 (g := (mkF m 121 #[.val (.ref a1), .val (.ref pgA), .val (.int 2), .val (.long rm), .second, .val (.int 2)] [(.ref a1), (.ref a1)])) rfl rfl (hb hby d5_121)
      refine Goes.step (B := T136.setTop (mkF m 124 #[.val (.ref a1), .val (.ref pgA), .val (.int 2), .val (.long rm), .second, .val (.int 2)] [(.ref chA), (.ref a1)])) st136 ?_
      refine Goes.step (fun _ k => pw_iload X136.here hx (hb hby d5_124) rfl _ (pw_iconst X136.here hx (v := (1 : Int32)) (hb hby d5_126) rfl _ k)) ?_
      refine Goes.step (B := T136.setTop (mkF m 128 #[.val (.ref a1), .val (.ref pgA), .val (.int 2), .val (.long rm), .second, .val (.int 2)] [(.int 1), (.ref chA), (.ref a1)])) (fun _ k => XS.isub X136.here hx rfl (hb hby d5_127) rfl k) ?_
      obtain ⟨c137, Ar137, -, Sz137, Nn137, Hs137, -⟩ := id V134
      have hin137 : ¬ ((1 : Int32) < 0 ∨ c137.slots.size ≤ ((1 : Int32)).toNatClampNeg) := inb_of Sz137 ⟨by decide, by decide⟩
      refine Goes.step (B := T136.setTop (mkF m 129 #[.val (.ref a1), .val (.ref pgA), .val (.int 2), .val (.long rm), .second, .val (.int 2)] [(.ref fb96), (.ref a1)])) (X136.aaload hx (j := (1 : Int32)) (v := (.ref fb96)) (by rw [e136]; exact Ar137.1) (State.isArrayOf_alike hZ.alike Ar137.2.1) rfl Ar137.2.2 hin137 (Has.at Hs137 hin137 rfl) (g := (mkF m 128 #[.val (.ref a1), .val (.ref pgA), .val (.int 2), .val (.long rm), .second, .val (.int 2)] [(.int 1), (.ref chA), (.ref a1)])) rfl rfl (hb hby d5_128)) ?_
      refine Goes.step (fun _ k => pw_aloadN X136.here hx (hb hby d5_129) rfl rfl _ k) ?_
      obtain ⟨T138, X138, e138, st138⟩ := getF X136 hx hZ hown (host := "") (Or.inl (own_w36 hw)) Via.refl e136 f135 (g := (mkF m 130 #[.val (.ref a1), .val (.ref pgA), .val (.int 2), .val (.long rm), .second, .val (.int 2)] [(.ref a1), (.ref fb96), (.ref a1)])) rfl rfl (hb hby d5_130)
      refine Goes.step (B := T138.setTop (mkF m 133 #[.val (.ref a1), .val (.ref pgA), .val (.int 2), .val (.long rm), .second, .val (.int 2)] [(.ref chA), (.ref fb96), (.ref a1)])) st138 ?_
      refine Goes.step (fun _ k => pw_iload X138.here hx (hb hby d5_133) rfl _ k) ?_
      obtain ⟨c139, Ar139, -, Sz139, Nn139, Hs139, -⟩ := id V134
      have hin139 : ¬ ((2 : Int32) < 0 ∨ c139.slots.size ≤ ((2 : Int32)).toNatClampNeg) := inb_of Sz139 ⟨by decide, by decide⟩
      refine Goes.step (B := T138.setTop (mkF m 136 #[.val (.ref a1), .val (.ref pgA), .val (.int 2), .val (.long rm), .second, .val (.int 2)] [(.ref fb125), (.ref fb96), (.ref a1)])) (X138.aaload hx (j := (2 : Int32)) (v := (.ref fb125)) (by rw [e138]; exact Ar139.1) (State.isArrayOf_alike hZ.alike Ar139.2.1) rfl Ar139.2.2 hin139 (Has.at Hs139 hin139 rfl) (g := (mkF m 135 #[.val (.ref a1), .val (.ref pgA), .val (.int 2), .val (.long rm), .second, .val (.int 2)] [(.int 2), (.ref chA), (.ref fb96), (.ref a1)])) rfl rfl (hb hby d5_135)) ?_
      refine Goes.step (fun _ k => pw_aloadN X138.here hx (hb hby d5_136) rfl rfl _ k) ?_
      have f140 := (((f104.keep Kp110 (ninS ne_a1_fb96 nin0)).keep Kp125 nin0).other W134 (Or.inl ne_a1_chA))
      obtain ⟨T141, X141, e141, st141⟩ := getF X138 hx hZ hown (host := "") (Or.inl (own_w32 hw)) Via.refl e138 f140 (g := (mkF m 137 #[.val (.ref a1), .val (.ref pgA), .val (.int 2), .val (.long rm), .second, .val (.int 2)] [(.ref a1), (.ref fb125), (.ref fb96), (.ref a1)])) rfl rfl (hb hby d5_137)
      refine Goes.step (B := T141.setTop (mkF m 140 #[.val (.ref a1), .val (.ref pgA), .val (.int 2), .val (.long rm), .second, .val (.int 2)] [(.ref plA), (.ref fb125), (.ref fb96), (.ref a1)])) st141 ?_
      refine Goes.step (fun _ k => pw_iload X141.here hx (hb hby d5_140) rfl _ (pw_iconst X141.here hx (v := (1 : Int32)) (hb hby d5_142) rfl _ k)) ?_
      refine Goes.step (B := T141.setTop (mkF m 144 #[.val (.ref a1), .val (.ref pgA), .val (.int 2), .val (.long rm), .second, .val (.int 2)] [(.int 1), (.ref plA), (.ref fb125), (.ref fb96), (.ref a1)])) (fun _ k => XS.isub X141.here hx rfl (hb hby d5_143) rfl k) ?_
      have f142 := ((f127.keep Kp125 nin0).other W134 ne_plA_chA)
      obtain ⟨c143, Ar143, -, Sz143, Nn143, Hs143, -⟩ := id f142
      have hin143 : ¬ ((1 : Int32) < 0 ∨ c143.slots.size ≤ ((1 : Int32)).toNatClampNeg) := inb_of Sz143 ⟨by decide, by decide⟩
      refine Goes.step (B := T141.setTop (mkF m 145 #[.val (.ref a1), .val (.ref pgA), .val (.int 2), .val (.long rm), .second, .val (.int 2)] [(.int y1), (.ref fb125), (.ref fb96), (.ref a1)])) (X141.iaload hx (j := (1 : Int32)) (v := (.int y1)) (by rw [e141]; exact Ar143.1) (State.isArrayOf_alike hZ.alike Ar143.2.1) Ar143.2.2 hin143 (Has.at Hs143 hin143 rfl) (g := (mkF m 144 #[.val (.ref a1), .val (.ref pgA), .val (.int 2), .val (.long rm), .second, .val (.int 2)] [(.int 1), (.ref plA), (.ref fb125), (.ref fb96), (.ref a1)])) rfl rfl (hb hby d5_144)) ?_
      refine Goes.step (fun _ k => pw_aloadN X141.here hx (hb hby d5_145) rfl rfl _ k) ?_
      have f144 := ((f123.keep Kp125 nin0).other W134 (Or.inl ne_a1_chA))
      obtain ⟨T145, X145, e145, st145⟩ := getF X141 hx hZ hown (host := "") (Or.inl (own_w61 hw)) Via.refl e141 f144 (g := (mkF m 146 #[.val (.ref a1), .val (.ref pgA), .val (.int 2), .val (.long rm), .second, .val (.int 2)] [(.ref a1), (.int y1), (.ref fb125), (.ref fb96), (.ref a1)])) rfl rfl (hb hby d5_146)
      refine Goes.step (B := T145.setTop (mkF m 149 #[.val (.ref a1), .val (.ref pgA), .val (.int 2), .val (.long rm), .second, .val (.int 2)] [(.int ft6), (.int y1), (.ref fb125), (.ref fb96), (.ref a1)])) st145 ?_
      have f147 := (((f111.keep Kp110 (ninS ne_a1_fb96 nin0)).keep Kp125 nin0).other W134 (Or.inl ne_a1_chA))
      have f148 := (((f112.keep Kp110 (ninS ne_a1_fb96 nin0)).keep Kp125 nin0).other W134 (Or.inl ne_a1_chA))
      have f149 := ((f129.keep Kp125 nin0).other W134 ne_cA_chA)
      have f150 := ((f130.keep Kp125 nin0).other W134 ne_mA_chA)
      have f151 := ((Vn110.keep Kp125 nin0).other W134 (Ne.symm ne_chA_fb96))
      have f152 := (Vb125.other W134 (Ne.symm ne_chA_fb125))
      have f153 := ((f126.keep Kp125).wr W134)
      obtain ⟨cq146, qq146, qr146⟩ := f153.cell
      obtain ⟨_, _, ⟨T146, L146, k146, n146⟩, -, X146, ⟨Lc146, hQ146, l146, y146, z146⟩, st146⟩ := X145.privateBack hx (y := (⟨"com/example/errantry/errantry/staff/CompletionBounds", "addGroup", "([J[JII)V"⟩ : MethodName)) hown (mvT hZ (own_w104 hw)) (mvT hZ (own_w105 hw)) (mvT hZ (own_selp (y := ({ cls := "com/example/errantry/errantry/staff/CompletionBounds", name := "addGroup", desc := "([J[JII)V" } : Jvm.MethodName)) (own_w12 hw) (own_w105 hw) (own_w106 hw) (by decide))) (Cond.privateMethod_at (mvP hZ (own_w106 hw) (args := #[]))) (mvT hZ (own_w107 hw)) (by decide) (backOf (W := 0) (rmAG l Z a0 hw [] a1 cA kC mA kM ct0 ct1 ct2 mb0 mb1 mb2 fb96 fk96 fb125 fk125 (ft6 + (1 : Int32)) M110 (List.replicate (ft6 + (1 : Int32)).toNatClampNeg (0 : Int64)) y1 ft6 h134 n0 O_134 f147 f148 f149 f150 f151 f152 gb125 ne_fb96_fb125 ne_cA_fb125 ne_mA_fb125 ne_a1_fb125 gy2 ⟨hm0, hm1⟩ tz (List.length_replicate ..) ⟨by omega, gm2.2⟩) hZ (own_w107 hw) (own_w13 hw) (by decide) (by decide)) (g := (mkF m 149 #[.val (.ref a1), .val (.ref pgA), .val (.int 2), .val (.long rm), .second, .val (.int 2)] [(.int ft6), (.int y1), (.ref fb125), (.ref fb96), (.ref a1)])) rfl (by rw [hml]; rfl) (Steps.refl _) (a := a1) (by rw [e145]; exact qq146) qr146 (argsL := [(.ref fb96), (.ref fb125), (.int y1), (.int ft6)]) (rest := []) (lenOf pd_6 rfl) rfl (by show 2 * 0 + _ ≤ _; exact Nat.le_of_eq rfl) (hb hby d5_149) (fun _ _ => ⟨rfl, e145, (by decide : 3 + 0 ≤ _), (by decide : 39 + 0 ≤ _)⟩)
      dsimp only [Pt.U, Pt.locs, Pt.cells, Pt.slots] at X146 l146 y146 z146 st146 hQ146
      subst l146 y146 z146
      obtain ⟨M146, ea146, cn146, q146, rfl, Nq146, Kp146, hea146, hcn146, Vn146, hch146, hnx146⟩ := hQ146
      have O_146 := O_134.keep Kp146 (allS gb125 all0)
      have K_146 := K_134.trans Kp146 (allS (P := fun x => x ∈ _ ∨ _) (Or.inr sz_fb125) all0)
      have N146 := Fr.app N134 Nq146
      refine Goes.via (B := T146.setTop (mkF m 152 #[.val (.ref a1), .val (.ref pgA), .val (.int 2), .val (.long rm), .second, .val (.int 2)] [])) st146 ?_
      have ck2 : 0 ≤ ea146.toInt ∧ ea146.toInt < 1099511627776 := by rw [hea146]; exact own_ctb hC0 hC1 hC2 gy2
      have cm2 : 1 ≤ cn146.toInt ∧ cn146.toInt ≤ 4 := by rw [hcn146]; exact gm2
      have nn2 := own_nat (j := cn146) (by omega)
      obtain ⟨P2, D2, R2⟩ := own_add R1 D1 (by omega) (by omega) ck2.1 ck2.2 hch146 hnx146
      obtain ⟨t2, ht2⟩ : ∃ z, z = t1 + cn146.toNatClampNeg := ⟨_, rfl⟩
      obtain ⟨el2, hel2⟩ : ∃ z, z = own_insF el1 q146 ea146.toInt cn146.toNatClampNeg := ⟨_, rfl⟩
      rw [← ht2, ← hel2] at D2 R2
      have C2 : own_chain ft6.toNatClampNeg [((([ct0, ct1, ct2] : List Int64).getD y1.toNatClampNeg 0).toInt, (([mb0, mb1, mb2] : List Int32).getD y1.toNatClampNeg 0).toNatClampNeg), ((([ct0, ct1, ct2] : List Int64).getD y0.toNatClampNeg 0).toInt, (([mb0, mb1, mb2] : List Int32).getD y0.toNatClampNeg 0).toNatClampNeg)] el2 t2 := own_consI C1 (by rw [← hea146]; exact P2) (by rw [← hea146, ← hcn146]; exact hel2) (by rw [← hcn146]; exact ht2)
      have bt2 : t2 ≤ 8 := by omega
      refine Goes.step (fun _ k => pw_iinc X146.here hx (l' := #[.val (.ref a1), .val (.ref pgA), .val (.int 2), .val (.long rm), .second, .val (.int 3)]) (hb hby d5_152) rfl rfl _ (pw_goto X146.here hx (pc' := 92) (hb hby d5_155) (by decide) (by decide) _ (pw_iload X146.here hx (hb hby d5_92) rfl _ (pw_iloadN X146.here hx (hb hby d5_94) rfl _ (pw_icmpYes X146.here hx (pc' := 158) (hb hby d5_95) (tlt (by decide)).2.2.1 (by decide) (by decide) _ (pw_aloadN X146.here hx (hb hby d5_158) rfl rfl _ k)))))) ?_
      refine Goes.step (fun _ k => pw_iconst X146.here hx (v := (0 : Int32)) (hb hby d5_159) rfl _ k) ?_
      have f154 := (f153.keep Kp146)
      have f155 := ((((((fj41_11.keep Kp96 nin0).other W98 (Or.inl ne_a1_chA)).keep Kp110 (ninS ne_a1_fb96 nin0)).keep Kp125 nin0).other W134 (Or.inl ne_a1_chA)).keep Kp146 (ninS ne_a1_fb125 nin0))
      obtain ⟨T156, h156, X156, e156, W156, st156⟩ := putF X146 hx hZ hown (host := "") (Or.inl (own_w67 hw)) Via.refl rfl f155 f154 (Or.inl (own_w68 hw)) (own_w12 hw) (ty := .int) (by decide) rfl rfl (g := (mkF m 160 #[.val (.ref a1), .val (.ref pgA), .val (.int 2), .val (.long rm), .second, .val (.int 3)] [(.int 0), (.ref a1)])) rfl rfl (hb hby d5_160)
      have Fw156 := f155.same W156
      have N156 := Fr.snoc X156 N146 g_a1
      have O_156 := O_146.wr W156 g_a1
      have K_156 := K_146.wr W156 (Or.inl (List.mem_of_getElem? (i := 0) rfl))
      refine Goes.step (B := T156.setTop (mkF m 163 #[.val (.ref a1), .val (.ref pgA), .val (.int 2), .val (.long rm), .second, .val (.int 3)] [])) st156 ?_
      refine Goes.step (fun _ k => pw_aloadN X156.here hx (hb hby d5_163) rfl rfl _ k) ?_
      have f157 := (((((((fj41_7.keep Kp96 nin0).other W98 (Or.inl ne_a1_chA)).keep Kp110 (ninS ne_a1_fb96 nin0)).keep Kp125 nin0).other W134 (Or.inl ne_a1_chA)).keep Kp146 (ninS ne_a1_fb125 nin0)).other W156 (Or.inr (slot_ne (Or.inr (own_w43 hw)) (Or.inl (own_w68 hw)) (by decide) (t := (.array .int)) (t' := .int) (by decide) (by decide))))
      obtain ⟨T158, X158, e158, st158⟩ := getF X156 hx hZ hown (host := "") (Or.inl (own_w42 hw)) Via.refl e156 f157 (g := (mkF m 164 #[.val (.ref a1), .val (.ref pgA), .val (.int 2), .val (.long rm), .second, .val (.int 3)] [(.ref a1)])) rfl rfl (hb hby d5_164)
      refine Goes.step (B := T158.setTop (mkF m 167 #[.val (.ref a1), .val (.ref pgA), .val (.int 2), .val (.long rm), .second, .val (.int 3)] [(.ref ffA)])) st158 ?_
      refine Goes.step (fun _ k => pw_iconst X158.here hx (v := (1 : Int32)) (hb hby d5_167) rfl _ k) ?_
      have f160 := ((((f131.keep Kp125 nin0).other W134 (Ne.symm ne_chA_ffA)).keep Kp146 (ninS ne_ffA_fb125 nin0)).other W156 (Ne.symm ne_a1_ffA))
      obtain ⟨_, _, ⟨T159, L159, k159, n159⟩, -, X159, ⟨Lc159, hQ159, l159, y159, z159⟩, st159⟩ := Jvm.LawKit.callS X158 hx (y := (⟨"java/util/Arrays", "fill", "([II)V"⟩ : MethodName)) hown (mvT hZ (own_w69 hw)) (mvT hZ (own_w70 hw)) (mvT hZ (own_w71 hw)) (mvT hZ (own_w72 hw)) (by decide) (backOf (W := 0) (rmFILL l Z a0 hw [] ffA kf zf (List.replicate zf.toNatClampNeg (.int 0)) (1 : Int32) h156 n0 O_156 f160 g_ffA (List.length_replicate ..) hzf.2) hZ (own_w72 hw) (own_w71 hw) (by decide) (by decide)) (g := (mkF m 168 #[.val (.ref a1), .val (.ref pgA), .val (.int 2), .val (.long rm), .second, .val (.int 3)] [(.int 1), (.ref ffA)])) rfl (by rw [hml]; rfl) (argsL := [(.ref ffA), (.int 1)]) (rest := []) (lenOf pd_5 rfl) rfl (by show 2 * 0 + _ ≤ _; exact Nat.le_of_eq rfl) (hb hby d5_168) (fun _ _ => ⟨rfl, e158, (by decide : 3 + 0 ≤ _), (by decide : 39 + 0 ≤ _)⟩)
      dsimp only [Pt.U, Pt.locs, Pt.cells, Pt.slots] at X159 l159 y159 z159 st159 hQ159
      subst l159 y159 z159
      obtain ⟨rfl, Nq159, Kp159⟩ := hQ159
      have O_159 := O_156.keep Kp159 (allS g_ffA all0)
      have K_159 := K_156.trans Kp159 (allS (P := fun x => x ∈ _ ∨ _) (Or.inl (List.mem_of_getElem? (i := 4) rfl)) all0)
      have N159 := Fr.app N156 Nq159
      refine Goes.step (B := T159.setTop (mkF m 171 #[.val (.ref a1), .val (.ref pgA), .val (.int 2), .val (.long rm), .second, .val (.int 3)] [])) st159 ?_
      have f161 := ((f154.wr W156).keep Kp159)
      have f162 := (((f135.keep Kp146 (ninS ne_a1_fb125 nin0)).other W156 (Or.inr (slot_ne (Or.inr (own_w37 hw)) (Or.inl (own_w68 hw)) (by decide) (t := (.array (.array .long))) (t' := .int) (by decide) (by decide)))).keep Kp159 (ninS ne_a1_ffA nin0))
      have f163 := ((((((((fj41_8.keep Kp96 nin0).other W98 (Or.inl ne_a1_chA)).keep Kp110 (ninS ne_a1_fb96 nin0)).keep Kp125 nin0).other W134 (Or.inl ne_a1_chA)).keep Kp146 (ninS ne_a1_fb125 nin0)).other W156 (Or.inr (slot_ne (Or.inl (own_w54 hw)) (Or.inl (own_w68 hw)) (by decide) (t := .int) (t' := .int) (by decide) (by decide)))).keep Kp159 (ninS ne_a1_ffA nin0))
      have f164 := (((f144.keep Kp146 (ninS ne_a1_fb125 nin0)).other W156 (Or.inr (slot_ne (Or.inl (own_w62 hw)) (Or.inl (own_w68 hw)) (by decide) (t := .int) (t' := .int) (by decide) (by decide)))).keep Kp159 (ninS ne_a1_ffA nin0))
      have f165 := (((V134.keep Kp146 (ninS ne_chA_fb125 nin0)).other W156 (Ne.symm ne_a1_chA)).keep Kp159 (ninS ne_chA_ffA nin0))
      have f166 := ((Vn146.other W156 (Ne.symm ne_a1_fb125)).keep Kp159 (ninS (Ne.symm ne_ffA_fb125) nin0))
      exact Goes.retV X159 hx rfl Bd.returns hlk (hb hby d5_171) (by decide) (by decide) (⟨rfl, N159, K_159, ft6, [(.ref fb27), (.ref fb96), (.ref fb125), .null], fb125, fk125, M146, el2, t2, hm0, hm1, hms, f161, f162, f163, f164, f165, rfl, f166, R2, (by have q := C2; rw [hy.1 (by decide), hy.2.1 (by decide)] at q; unfold own_gl; rw [show (2 : Int32).toNatClampNeg = 2 from by decide]; exact q)⟩)
    · refine Goes.step (fun _ k => pw_iload Xj41.here hx (hb hby d5_92) rfl _ (pw_iloadN Xj41.here hx (hb hby d5_94) rfl _ (pw_icmpNo Xj41.here hx (hb hby d5_95) (flt (by decide)).2.2.1 _ (pw_aloadN Xj41.here hx (hb hby d5_98) rfl rfl _ k)))) ?_
      obtain ⟨T167, X167, e167, st167⟩ := getF Xj41 hx hZ hown (host := "") (Or.inl (own_w36 hw)) Via.refl ej41 fj41_6 (g := (mkF m 99 #[.val (.ref a1), .val (.ref pgA), .val (.int 3), .val (.long rm), .second, .val (.int 1)] [(.ref a1)])) rfl rfl (hb hby d5_99)
      refine Goes.step (B := T167.setTop (mkF m 102 #[.val (.ref a1), .val (.ref pgA), .val (.int 3), .val (.long rm), .second, .val (.int 1)] [(.ref chA)])) st167 ?_
      refine Goes.step (fun _ k => pw_iload X167.here hx (hb hby d5_102) rfl _ (pw_aloadN X167.here hx (hb hby d5_104) rfl rfl _ k)) ?_
      obtain ⟨T168, X168, e168, st168⟩ := getF X167 hx hZ hown (host := "") (Or.inl (own_w36 hw)) Via.refl e167 fj41_6 (g := (mkF m 105 #[.val (.ref a1), .val (.ref pgA), .val (.int 3), .val (.long rm), .second, .val (.int 1)] [(.ref a1), (.int 1), (.ref chA)])) rfl rfl (hb hby d5_105)
      refine Goes.step (B := T168.setTop (mkF m 108 #[.val (.ref a1), .val (.ref pgA), .val (.int 3), .val (.long rm), .second, .val (.int 1)] [(.ref chA), (.int 1), (.ref chA)])) st168 ?_
      refine Goes.step (fun _ k => pw_iload X168.here hx (hb hby d5_108) rfl _ k) ?_
      obtain ⟨c169, Ar169, -, Sz169, Nn169, Hs169, -⟩ := id fj41_16
      have hin169 : ¬ ((1 : Int32) < 0 ∨ c169.slots.size ≤ ((1 : Int32)).toNatClampNeg) := inb_of Sz169 ⟨by decide, by decide⟩
      refine Goes.step (B := T168.setTop (mkF m 111 #[.val (.ref a1), .val (.ref pgA), .val (.int 3), .val (.long rm), .second, .val (.int 1)] [.null, (.int 1), (.ref chA)])) (X168.aaload hx (j := (1 : Int32)) (v := .null) (by rw [e168]; exact Ar169.1) (State.isArrayOf_alike hZ.alike Ar169.2.1) rfl Ar169.2.2 hin169 (Has.at Hs169 hin169 rfl) (g := (mkF m 110 #[.val (.ref a1), .val (.ref pgA), .val (.int 3), .val (.long rm), .second, .val (.int 1)] [(.int 1), (.ref chA), (.int 1), (.ref chA)])) rfl rfl (hb hby d5_110)) ?_
      refine Goes.step (fun _ k => pw_aloadN X168.here hx (hb hby d5_111) rfl rfl _ k) ?_
      obtain ⟨T170, X170, e170, st170⟩ := getF X168 hx hZ hown (host := "") (Or.inl (own_w61 hw)) Via.refl e168 fj41_10 (g := (mkF m 112 #[.val (.ref a1), .val (.ref pgA), .val (.int 3), .val (.long rm), .second, .val (.int 1)] [(.ref a1), .null, (.int 1), (.ref chA)])) rfl rfl (hb hby d5_112)
      refine Goes.step (B := T170.setTop (mkF m 115 #[.val (.ref a1), .val (.ref pgA), .val (.int 3), .val (.long rm), .second, .val (.int 1)] [(.int ft6), .null, (.int 1), (.ref chA)])) st170 ?_
      have lt_a1_171 := fj41_0.lt
      have lt_plA_171 := fj41_12.lt
      have lt_qA_171 := fj41_13.lt
      have lt_cA_171 := fj41_14.lt
      have lt_mA_171 := fj41_15.lt
      have lt_chA_171 := fj41_16.lt
      have lt_ffA_171 := fj41_17.lt
      have lt_fb27_171 := fj41_18.lt
      obtain ⟨_, _, ⟨T171, L171, k171, n171⟩, -, X171, ⟨Lc171, hQ171, l171, y171, z171⟩, st171⟩ := Jvm.LawKit.callS X170 hx (y := (⟨"com/example/errantry/errantry/staff/CompletionBounds", "row", "([JI)[J"⟩ : MethodName)) hown (mvT hZ (own_w63 hw)) (mvT hZ (own_w64 hw)) (mvT hZ (own_w13 hw)) (mvT hZ (own_w65 hw)) (by decide) (backOf (W := 2) (rmROW l Z a0 hw [] ft6 Hj41 n0 Oj41 hm0 hm1) hZ (own_w65 hw) (own_w13 hw) (by decide) (by decide)) (g := (mkF m 115 #[.val (.ref a1), .val (.ref pgA), .val (.int 3), .val (.long rm), .second, .val (.int 1)] [(.int ft6), .null, (.int 1), (.ref chA)])) rfl (by rw [hml]; rfl) (argsL := [.null, (.int ft6)]) (rest := [(.int 1), (.ref chA)]) (lenOf pd_4 rfl) rfl (by show 2 * 0 + _ ≤ _; exact Nat.le_of_eq rfl) (hb hby d5_115) (fun _ _ => ⟨rfl, e170, (by decide : 1 + 1 ≤ _), (by decide : 13 + 13 ≤ _)⟩)
      dsimp only [Pt.U, Pt.locs, Pt.cells, Pt.slots] at X171 l171 y171 z171 st171 hQ171
      subst l171 y171 z171
      obtain ⟨fb171, fk171, rfl, Nq171, Kp171, gb171, szc_fb171, Eb171, Vb171⟩ := hQ171
      have ne_a1_fb171 : a1 ≠ fb171 := Nat.ne_of_lt (Nat.lt_of_lt_of_le lt_a1_171 szc_fb171)
      have ne_plA_fb171 : plA ≠ fb171 := Nat.ne_of_lt (Nat.lt_of_lt_of_le lt_plA_171 szc_fb171)
      have ne_qA_fb171 : qA ≠ fb171 := Nat.ne_of_lt (Nat.lt_of_lt_of_le lt_qA_171 szc_fb171)
      have ne_cA_fb171 : cA ≠ fb171 := Nat.ne_of_lt (Nat.lt_of_lt_of_le lt_cA_171 szc_fb171)
      have ne_mA_fb171 : mA ≠ fb171 := Nat.ne_of_lt (Nat.lt_of_lt_of_le lt_mA_171 szc_fb171)
      have ne_chA_fb171 : chA ≠ fb171 := Nat.ne_of_lt (Nat.lt_of_lt_of_le lt_chA_171 szc_fb171)
      have ne_ffA_fb171 : ffA ≠ fb171 := Nat.ne_of_lt (Nat.lt_of_lt_of_le lt_ffA_171 szc_fb171)
      have ne_fb27_fb171 : fb27 ≠ fb171 := Nat.ne_of_lt (Nat.lt_of_lt_of_le lt_fb27_171 szc_fb171)
      have sz_fb171 : h0.size ≤ fb171 := Nat.le_trans Kj41.1 szc_fb171
      have O_171 := Oj41.keep Kp171 all0
      have K_171 := Kj41.trans Kp171 all0
      have N171 := Fr.app Nj41 Nq171
      refine Goes.step (B := T171.setTop (mkF m 118 #[.val (.ref a1), .val (.ref pgA), .val (.int 3), .val (.long rm), .second, .val (.int 1)] [(.ref fb171), (.int 1), (.ref chA)])) st171 ?_
      have f172 := (fj41_16.keep Kp171 nin0)
      obtain ⟨c173, Ar173, q173, Sz173, Nn173, Hs173, Gs173⟩ := id f172
      have hin173 : ¬ ((1 : Int32) < 0 ∨ c173.slots.size ≤ ((1 : Int32)).toNatClampNeg) := inb_of Sz173 ⟨by decide, by decide⟩
      obtain ⟨T173, h173, X173, e173, W173, st173⟩ := stR X171 hx hZ rfl Ar173 (j := (1 : Int32)) hin173 rfl (Sto.ofVA Ar173 q173 Ov (Ins.self Eb171)) (g := (mkF m 118 #[.val (.ref a1), .val (.ref pgA), .val (.int 3), .val (.long rm), .second, .val (.int 1)] [(.ref fb171), (.int 1), (.ref chA)])) rfl rfl (hb hby d5_118)
      have V173 : Arv Z h173 chA kc (.array .long) (4 : Int32) [(.ref fb27), (.ref fb171), .null, .null] .null := Arv.set Ar173 q173 Sz173 Nn173 Hs173 Gs173 rfl W173 1 rfl (Nat.le_of_ble_eq_true rfl)
      have N173 := Fr.snoc X173 N171 g_chA
      have O_173 := O_171.wr W173 g_chA
      have K_173 := K_171.wr W173 (Or.inl (List.mem_of_getElem? (i := 3) rfl))
      refine Goes.step (B := T173.setTop (mkF m 119 #[.val (.ref a1), .val (.ref pgA), .val (.int 3), .val (.long rm), .second, .val (.int 1)] [])) st173 ?_
      have gy1 := hq0 (by decide)
      have gm1 := own_mb hM0 hM1 hM2 gy1
      refine Goes.step (fun _ k => pw_aloadN X173.here hx (hb hby d5_119) rfl rfl _ (pw_aloadN X173.here hx (hb hby d5_120) rfl rfl _ k)) ?_
      have f174 := ((fj41_6.keep Kp171 nin0).other W173 (Or.inl ne_a1_chA))
      obtain ⟨T175, X175, e175, st175⟩ := getF X173 hx hZ hown (host := "") (Or.inl (own_w36 hw)) Via.refl e173 f174 (g := (mkF m 121 #[.val (.ref a1), .val (.ref pgA), .val (.int 3), .val (.long rm), .second, .val (.int 1)] [(.ref a1), (.ref a1)])) rfl rfl (hb hby d5_121)
      refine Goes.step (B := T175.setTop (mkF m 124 #[.val (.ref a1), .val (.ref pgA), .val (.int 3), .val (.long rm), .second, .val (.int 1)] [(.ref chA), (.ref a1)])) st175 ?_
      refine Goes.step (fun _ k => pw_iload X175.here hx (hb hby d5_124) rfl _ (pw_iconst X175.here hx (v := (1 : Int32)) (hb hby d5_126) rfl _ k)) ?_
      refine Goes.step (B := T175.setTop (mkF m 128 #[.val (.ref a1), .val (.ref pgA), .val (.int 3), .val (.long rm), .second, .val (.int 1)] [(.int 0), (.ref chA), (.ref a1)])) (fun _ k => XS.isub X175.here hx rfl (hb hby d5_127) rfl k) ?_
      obtain ⟨c176, Ar176, -, Sz176, Nn176, Hs176, -⟩ := id V173
      have hin176 : ¬ ((0 : Int32) < 0 ∨ c176.slots.size ≤ ((0 : Int32)).toNatClampNeg) := inb_of Sz176 ⟨by decide, by decide⟩
      refine Goes.step (B := T175.setTop (mkF m 129 #[.val (.ref a1), .val (.ref pgA), .val (.int 3), .val (.long rm), .second, .val (.int 1)] [(.ref fb27), (.ref a1)])) (X175.aaload hx (j := (0 : Int32)) (v := (.ref fb27)) (by rw [e175]; exact Ar176.1) (State.isArrayOf_alike hZ.alike Ar176.2.1) rfl Ar176.2.2 hin176 (Has.at Hs176 hin176 rfl) (g := (mkF m 128 #[.val (.ref a1), .val (.ref pgA), .val (.int 3), .val (.long rm), .second, .val (.int 1)] [(.int 0), (.ref chA), (.ref a1)])) rfl rfl (hb hby d5_128)) ?_
      refine Goes.step (fun _ k => pw_aloadN X175.here hx (hb hby d5_129) rfl rfl _ k) ?_
      obtain ⟨T177, X177, e177, st177⟩ := getF X175 hx hZ hown (host := "") (Or.inl (own_w36 hw)) Via.refl e175 f174 (g := (mkF m 130 #[.val (.ref a1), .val (.ref pgA), .val (.int 3), .val (.long rm), .second, .val (.int 1)] [(.ref a1), (.ref fb27), (.ref a1)])) rfl rfl (hb hby d5_130)
      refine Goes.step (B := T177.setTop (mkF m 133 #[.val (.ref a1), .val (.ref pgA), .val (.int 3), .val (.long rm), .second, .val (.int 1)] [(.ref chA), (.ref fb27), (.ref a1)])) st177 ?_
      refine Goes.step (fun _ k => pw_iload X177.here hx (hb hby d5_133) rfl _ k) ?_
      obtain ⟨c178, Ar178, -, Sz178, Nn178, Hs178, -⟩ := id V173
      have hin178 : ¬ ((1 : Int32) < 0 ∨ c178.slots.size ≤ ((1 : Int32)).toNatClampNeg) := inb_of Sz178 ⟨by decide, by decide⟩
      refine Goes.step (B := T177.setTop (mkF m 136 #[.val (.ref a1), .val (.ref pgA), .val (.int 3), .val (.long rm), .second, .val (.int 1)] [(.ref fb171), (.ref fb27), (.ref a1)])) (X177.aaload hx (j := (1 : Int32)) (v := (.ref fb171)) (by rw [e177]; exact Ar178.1) (State.isArrayOf_alike hZ.alike Ar178.2.1) rfl Ar178.2.2 hin178 (Has.at Hs178 hin178 rfl) (g := (mkF m 135 #[.val (.ref a1), .val (.ref pgA), .val (.int 3), .val (.long rm), .second, .val (.int 1)] [(.int 1), (.ref chA), (.ref fb27), (.ref a1)])) rfl rfl (hb hby d5_135)) ?_
      refine Goes.step (fun _ k => pw_aloadN X177.here hx (hb hby d5_136) rfl rfl _ k) ?_
      have f179 := ((fj41_2.keep Kp171 nin0).other W173 (Or.inl ne_a1_chA))
      obtain ⟨T180, X180, e180, st180⟩ := getF X177 hx hZ hown (host := "") (Or.inl (own_w32 hw)) Via.refl e177 f179 (g := (mkF m 137 #[.val (.ref a1), .val (.ref pgA), .val (.int 3), .val (.long rm), .second, .val (.int 1)] [(.ref a1), (.ref fb171), (.ref fb27), (.ref a1)])) rfl rfl (hb hby d5_137)
      refine Goes.step (B := T180.setTop (mkF m 140 #[.val (.ref a1), .val (.ref pgA), .val (.int 3), .val (.long rm), .second, .val (.int 1)] [(.ref plA), (.ref fb171), (.ref fb27), (.ref a1)])) st180 ?_
      refine Goes.step (fun _ k => pw_iload X180.here hx (hb hby d5_140) rfl _ (pw_iconst X180.here hx (v := (1 : Int32)) (hb hby d5_142) rfl _ k)) ?_
      refine Goes.step (B := T180.setTop (mkF m 144 #[.val (.ref a1), .val (.ref pgA), .val (.int 3), .val (.long rm), .second, .val (.int 1)] [(.int 0), (.ref plA), (.ref fb171), (.ref fb27), (.ref a1)])) (fun _ k => XS.isub X180.here hx rfl (hb hby d5_143) rfl k) ?_
      have f181 := ((fj41_12.keep Kp171 nin0).other W173 ne_plA_chA)
      obtain ⟨c182, Ar182, -, Sz182, Nn182, Hs182, -⟩ := id f181
      have hin182 : ¬ ((0 : Int32) < 0 ∨ c182.slots.size ≤ ((0 : Int32)).toNatClampNeg) := inb_of Sz182 ⟨by decide, by decide⟩
      refine Goes.step (B := T180.setTop (mkF m 145 #[.val (.ref a1), .val (.ref pgA), .val (.int 3), .val (.long rm), .second, .val (.int 1)] [(.int y0), (.ref fb171), (.ref fb27), (.ref a1)])) (X180.iaload hx (j := (0 : Int32)) (v := (.int y0)) (by rw [e180]; exact Ar182.1) (State.isArrayOf_alike hZ.alike Ar182.2.1) Ar182.2.2 hin182 (Has.at Hs182 hin182 rfl) (g := (mkF m 144 #[.val (.ref a1), .val (.ref pgA), .val (.int 3), .val (.long rm), .second, .val (.int 1)] [(.int 0), (.ref plA), (.ref fb171), (.ref fb27), (.ref a1)])) rfl rfl (hb hby d5_144)) ?_
      refine Goes.step (fun _ k => pw_aloadN X180.here hx (hb hby d5_145) rfl rfl _ k) ?_
      have f183 := ((fj41_10.keep Kp171 nin0).other W173 (Or.inl ne_a1_chA))
      obtain ⟨T184, X184, e184, st184⟩ := getF X180 hx hZ hown (host := "") (Or.inl (own_w61 hw)) Via.refl e180 f183 (g := (mkF m 146 #[.val (.ref a1), .val (.ref pgA), .val (.int 3), .val (.long rm), .second, .val (.int 1)] [(.ref a1), (.int y0), (.ref fb171), (.ref fb27), (.ref a1)])) rfl rfl (hb hby d5_146)
      refine Goes.step (B := T184.setTop (mkF m 149 #[.val (.ref a1), .val (.ref pgA), .val (.int 3), .val (.long rm), .second, .val (.int 1)] [(.int ft6), (.int y0), (.ref fb171), (.ref fb27), (.ref a1)])) st184 ?_
      have f186 := ((fj41_4.keep Kp171 nin0).other W173 (Or.inl ne_a1_chA))
      have f187 := ((fj41_5.keep Kp171 nin0).other W173 (Or.inl ne_a1_chA))
      have f188 := ((fj41_14.keep Kp171 nin0).other W173 ne_cA_chA)
      have f189 := ((fj41_15.keep Kp171 nin0).other W173 ne_mA_chA)
      have f190 := ((fj41_18.keep Kp171 nin0).other W173 (Ne.symm ne_chA_fb27))
      have f191 := (Vb171.other W173 (Ne.symm ne_chA_fb171))
      have f192 := ((fj41_0.keep Kp171).wr W173)
      obtain ⟨cq185, qq185, qr185⟩ := f192.cell
      obtain ⟨_, _, ⟨T185, L185, k185, n185⟩, -, X185, ⟨Lc185, hQ185, l185, y185, z185⟩, st185⟩ := X184.privateBack hx (y := (⟨"com/example/errantry/errantry/staff/CompletionBounds", "addGroup", "([J[JII)V"⟩ : MethodName)) hown (mvT hZ (own_w104 hw)) (mvT hZ (own_w105 hw)) (mvT hZ (own_selp (y := ({ cls := "com/example/errantry/errantry/staff/CompletionBounds", name := "addGroup", desc := "([J[JII)V" } : Jvm.MethodName)) (own_w12 hw) (own_w105 hw) (own_w106 hw) (by decide))) (Cond.privateMethod_at (mvP hZ (own_w106 hw) (args := #[]))) (mvT hZ (own_w107 hw)) (by decide) (backOf (W := 0) (rmAG l Z a0 hw [] a1 cA kC mA kM ct0 ct1 ct2 mb0 mb1 mb2 fb27 fk27 fb171 fk171 (ft6 + (1 : Int32)) B0 (List.replicate (ft6 + (1 : Int32)).toNatClampNeg (0 : Int64)) y0 ft6 h173 n0 O_173 f186 f187 f188 f189 f190 f191 gb171 ne_fb27_fb171 ne_cA_fb171 ne_mA_fb171 ne_a1_fb171 gy1 ⟨hm0, hm1⟩ tz (List.length_replicate ..) ⟨by omega, gm1.2⟩) hZ (own_w107 hw) (own_w13 hw) (by decide) (by decide)) (g := (mkF m 149 #[.val (.ref a1), .val (.ref pgA), .val (.int 3), .val (.long rm), .second, .val (.int 1)] [(.int ft6), (.int y0), (.ref fb171), (.ref fb27), (.ref a1)])) rfl (by rw [hml]; rfl) (Steps.refl _) (a := a1) (by rw [e184]; exact qq185) qr185 (argsL := [(.ref fb27), (.ref fb171), (.int y0), (.int ft6)]) (rest := []) (lenOf pd_6 rfl) rfl (by show 2 * 0 + _ ≤ _; exact Nat.le_of_eq rfl) (hb hby d5_149) (fun _ _ => ⟨rfl, e184, (by decide : 2 + 0 ≤ _), (by decide : 26 + 0 ≤ _)⟩)
      dsimp only [Pt.U, Pt.locs, Pt.cells, Pt.slots] at X185 l185 y185 z185 st185 hQ185
      subst l185 y185 z185
      obtain ⟨M185, ea185, cn185, q185, rfl, Nq185, Kp185, hea185, hcn185, Vn185, hch185, hnx185⟩ := hQ185
      have O_185 := O_173.keep Kp185 (allS gb171 all0)
      have K_185 := K_173.trans Kp185 (allS (P := fun x => x ∈ _ ∨ _) (Or.inr sz_fb171) all0)
      have N185 := Fr.app N173 Nq185
      refine Goes.via (B := T185.setTop (mkF m 152 #[.val (.ref a1), .val (.ref pgA), .val (.int 3), .val (.long rm), .second, .val (.int 1)] [])) st185 ?_
      have ck1 : 0 ≤ ea185.toInt ∧ ea185.toInt < 1099511627776 := by rw [hea185]; exact own_ctb hC0 hC1 hC2 gy1
      have cm1 : 1 ≤ cn185.toInt ∧ cn185.toInt ≤ 4 := by rw [hcn185]; exact gm1
      have nn1 := own_nat (j := cn185) (by omega)
      obtain ⟨P1, D1, R1⟩ := own_add R0 D0 (by omega) (by omega) ck1.1 ck1.2 hch185 hnx185
      obtain ⟨t1, ht1⟩ : ∃ z, z = 0 + cn185.toNatClampNeg := ⟨_, rfl⟩
      obtain ⟨el1, hel1⟩ : ∃ z, z = own_insF (fun _ => 0) q185 ea185.toInt cn185.toNatClampNeg := ⟨_, rfl⟩
      rw [← ht1, ← hel1] at D1 R1
      have C1 : own_chain ft6.toNatClampNeg [((([ct0, ct1, ct2] : List Int64).getD y0.toNatClampNeg 0).toInt, (([mb0, mb1, mb2] : List Int32).getD y0.toNatClampNeg 0).toNatClampNeg)] el1 t1 := own_consI C0 (by rw [← hea185]; exact P1) (by rw [← hea185, ← hcn185]; exact hel1) (by rw [← hcn185]; exact ht1)
      have bt1 : t1 ≤ 4 := by omega
      refine Goes.step (fun _ k => pw_iinc X185.here hx (l' := #[.val (.ref a1), .val (.ref pgA), .val (.int 3), .val (.long rm), .second, .val (.int 2)]) (hb hby d5_152) rfl rfl _ (pw_goto X185.here hx (pc' := 92) (hb hby d5_155) (by decide) (by decide) _ (pw_iload X185.here hx (hb hby d5_92) rfl _ (pw_iloadN X185.here hx (hb hby d5_94) rfl _ (pw_icmpNo X185.here hx (hb hby d5_95) (flt (by decide)).2.2.1 _ (pw_aloadN X185.here hx (hb hby d5_98) rfl rfl _ k)))))) ?_
      have f193 := (f174.keep Kp185 (ninS ne_a1_fb171 nin0))
      obtain ⟨T194, X194, e194, st194⟩ := getF X185 hx hZ hown (host := "") (Or.inl (own_w36 hw)) Via.refl rfl f193 (g := (mkF m 99 #[.val (.ref a1), .val (.ref pgA), .val (.int 3), .val (.long rm), .second, .val (.int 2)] [(.ref a1)])) rfl rfl (hb hby d5_99)
      refine Goes.step (B := T194.setTop (mkF m 102 #[.val (.ref a1), .val (.ref pgA), .val (.int 3), .val (.long rm), .second, .val (.int 2)] [(.ref chA)])) st194 ?_
      refine Goes.step (fun _ k => pw_iload X194.here hx (hb hby d5_102) rfl _ (pw_aloadN X194.here hx (hb hby d5_104) rfl rfl _ k)) ?_
      obtain ⟨T195, X195, e195, st195⟩ := getF X194 hx hZ hown (host := "") (Or.inl (own_w36 hw)) Via.refl e194 f193 (g := (mkF m 105 #[.val (.ref a1), .val (.ref pgA), .val (.int 3), .val (.long rm), .second, .val (.int 2)] [(.ref a1), (.int 2), (.ref chA)])) rfl rfl (hb hby d5_105)
      refine Goes.step (B := T195.setTop (mkF m 108 #[.val (.ref a1), .val (.ref pgA), .val (.int 3), .val (.long rm), .second, .val (.int 2)] [(.ref chA), (.int 2), (.ref chA)])) st195 ?_
      refine Goes.step (fun _ k => pw_iload X195.here hx (hb hby d5_108) rfl _ k) ?_
      have f196 := (V173.keep Kp185 (ninS ne_chA_fb171 nin0))
      obtain ⟨c197, Ar197, -, Sz197, Nn197, Hs197, -⟩ := id f196
      have hin197 : ¬ ((2 : Int32) < 0 ∨ c197.slots.size ≤ ((2 : Int32)).toNatClampNeg) := inb_of Sz197 ⟨by decide, by decide⟩
      refine Goes.step (B := T195.setTop (mkF m 111 #[.val (.ref a1), .val (.ref pgA), .val (.int 3), .val (.long rm), .second, .val (.int 2)] [.null, (.int 2), (.ref chA)])) (X195.aaload hx (j := (2 : Int32)) (v := .null) (by rw [e195]; exact Ar197.1) (State.isArrayOf_alike hZ.alike Ar197.2.1) rfl Ar197.2.2 hin197 (Has.at Hs197 hin197 rfl) (g := (mkF m 110 #[.val (.ref a1), .val (.ref pgA), .val (.int 3), .val (.long rm), .second, .val (.int 2)] [(.int 2), (.ref chA), (.int 2), (.ref chA)])) rfl rfl (hb hby d5_110)) ?_
      refine Goes.step (fun _ k => pw_aloadN X195.here hx (hb hby d5_111) rfl rfl _ k) ?_
      have f198 := (f183.keep Kp185 (ninS ne_a1_fb171 nin0))
      obtain ⟨T199, X199, e199, st199⟩ := getF X195 hx hZ hown (host := "") (Or.inl (own_w61 hw)) Via.refl e195 f198 (g := (mkF m 112 #[.val (.ref a1), .val (.ref pgA), .val (.int 3), .val (.long rm), .second, .val (.int 2)] [(.ref a1), .null, (.int 2), (.ref chA)])) rfl rfl (hb hby d5_112)
      refine Goes.step (B := T199.setTop (mkF m 115 #[.val (.ref a1), .val (.ref pgA), .val (.int 3), .val (.long rm), .second, .val (.int 2)] [(.int ft6), .null, (.int 2), (.ref chA)])) st199 ?_
      have f201 := (f192.keep Kp185)
      have lt_a1_200 := f201.lt
      have f202 := (f181.keep Kp185 (ninS ne_plA_fb171 nin0))
      have lt_plA_200 := f202.lt
      have f203 := (((fj41_13.keep Kp171 nin0).other W173 ne_qA_chA).keep Kp185 (ninS ne_qA_fb171 nin0))
      have lt_qA_200 := f203.lt
      have f204 := (f188.keep Kp185 (ninS ne_cA_fb171 nin0))
      have lt_cA_200 := f204.lt
      have f205 := (f189.keep Kp185 (ninS ne_mA_fb171 nin0))
      have lt_mA_200 := f205.lt
      have lt_chA_200 := f196.lt
      have f206 := (((fj41_17.keep Kp171 nin0).other W173 (Ne.symm ne_chA_ffA)).keep Kp185 (ninS ne_ffA_fb171 nin0))
      have lt_ffA_200 := f206.lt
      have f207 := (f190.keep Kp185 (ninS ne_fb27_fb171 nin0))
      have lt_fb27_200 := f207.lt
      have lt_fb171_200 := Vn185.lt
      obtain ⟨_, _, ⟨T200, L200, k200, n200⟩, -, X200, ⟨Lc200, hQ200, l200, y200, z200⟩, st200⟩ := Jvm.LawKit.callS X199 hx (y := (⟨"com/example/errantry/errantry/staff/CompletionBounds", "row", "([JI)[J"⟩ : MethodName)) hown (mvT hZ (own_w63 hw)) (mvT hZ (own_w64 hw)) (mvT hZ (own_w13 hw)) (mvT hZ (own_w65 hw)) (by decide) (backOf (W := 2) (rmROW l Z a0 hw [] ft6 T185.heap n0 O_185 hm0 hm1) hZ (own_w65 hw) (own_w13 hw) (by decide) (by decide)) (g := (mkF m 115 #[.val (.ref a1), .val (.ref pgA), .val (.int 3), .val (.long rm), .second, .val (.int 2)] [(.int ft6), .null, (.int 2), (.ref chA)])) rfl (by rw [hml]; rfl) (argsL := [.null, (.int ft6)]) (rest := [(.int 2), (.ref chA)]) (lenOf pd_4 rfl) rfl (by show 2 * 0 + _ ≤ _; exact Nat.le_of_eq rfl) (hb hby d5_115) (fun _ _ => ⟨rfl, e199, (by decide : 2 + 1 ≤ _), (by decide : 26 + 13 ≤ _)⟩)
      dsimp only [Pt.U, Pt.locs, Pt.cells, Pt.slots] at X200 l200 y200 z200 st200 hQ200
      subst l200 y200 z200
      obtain ⟨fb200, fk200, rfl, Nq200, Kp200, gb200, szc_fb200, Eb200, Vb200⟩ := hQ200
      have ne_a1_fb200 : a1 ≠ fb200 := Nat.ne_of_lt (Nat.lt_of_lt_of_le lt_a1_200 szc_fb200)
      have ne_plA_fb200 : plA ≠ fb200 := Nat.ne_of_lt (Nat.lt_of_lt_of_le lt_plA_200 szc_fb200)
      have ne_qA_fb200 : qA ≠ fb200 := Nat.ne_of_lt (Nat.lt_of_lt_of_le lt_qA_200 szc_fb200)
      have ne_cA_fb200 : cA ≠ fb200 := Nat.ne_of_lt (Nat.lt_of_lt_of_le lt_cA_200 szc_fb200)
      have ne_mA_fb200 : mA ≠ fb200 := Nat.ne_of_lt (Nat.lt_of_lt_of_le lt_mA_200 szc_fb200)
      have ne_chA_fb200 : chA ≠ fb200 := Nat.ne_of_lt (Nat.lt_of_lt_of_le lt_chA_200 szc_fb200)
      have ne_ffA_fb200 : ffA ≠ fb200 := Nat.ne_of_lt (Nat.lt_of_lt_of_le lt_ffA_200 szc_fb200)
      have ne_fb27_fb200 : fb27 ≠ fb200 := Nat.ne_of_lt (Nat.lt_of_lt_of_le lt_fb27_200 szc_fb200)
      have ne_fb171_fb200 : fb171 ≠ fb200 := Nat.ne_of_lt (Nat.lt_of_lt_of_le lt_fb171_200 szc_fb200)
      have sz_fb200 : h0.size ≤ fb200 := Nat.le_trans K_185.1 szc_fb200
      have O_200 := O_185.keep Kp200 all0
      have K_200 := K_185.trans Kp200 all0
      have N200 := Fr.app N185 Nq200
      refine Goes.step (B := T200.setTop (mkF m 118 #[.val (.ref a1), .val (.ref pgA), .val (.int 3), .val (.long rm), .second, .val (.int 2)] [(.ref fb200), (.int 2), (.ref chA)])) st200 ?_
      have f208 := (f196.keep Kp200 nin0)
      obtain ⟨c209, Ar209, q209, Sz209, Nn209, Hs209, Gs209⟩ := id f208
      have hin209 : ¬ ((2 : Int32) < 0 ∨ c209.slots.size ≤ ((2 : Int32)).toNatClampNeg) := inb_of Sz209 ⟨by decide, by decide⟩
      obtain ⟨T209, h209, X209, e209, W209, st209⟩ := stR X200 hx hZ rfl Ar209 (j := (2 : Int32)) hin209 rfl (Sto.ofVA Ar209 q209 Ov (Ins.self Eb200)) (g := (mkF m 118 #[.val (.ref a1), .val (.ref pgA), .val (.int 3), .val (.long rm), .second, .val (.int 2)] [(.ref fb200), (.int 2), (.ref chA)])) rfl rfl (hb hby d5_118)
      have V209 : Arv Z h209 chA kc (.array .long) (4 : Int32) [(.ref fb27), (.ref fb171), (.ref fb200), .null] .null := Arv.set Ar209 q209 Sz209 Nn209 Hs209 Gs209 rfl W209 2 rfl (Nat.le_of_ble_eq_true rfl)
      have N209 := Fr.snoc X209 N200 g_chA
      have O_209 := O_200.wr W209 g_chA
      have K_209 := K_200.wr W209 (Or.inl (List.mem_of_getElem? (i := 3) rfl))
      refine Goes.step (B := T209.setTop (mkF m 119 #[.val (.ref a1), .val (.ref pgA), .val (.int 3), .val (.long rm), .second, .val (.int 2)] [])) st209 ?_
      have gy2 := hq1 (by decide)
      have gm2 := own_mb hM0 hM1 hM2 gy2
      refine Goes.step (fun _ k => pw_aloadN X209.here hx (hb hby d5_119) rfl rfl _ (pw_aloadN X209.here hx (hb hby d5_120) rfl rfl _ k)) ?_
      have f210 := ((f193.keep Kp200 nin0).other W209 (Or.inl ne_a1_chA))
      obtain ⟨T211, X211, e211, st211⟩ := getF X209 hx hZ hown (host := "") (Or.inl (own_w36 hw)) Via.refl e209 f210 (g := (mkF m 121 #[.val (.ref a1), .val (.ref pgA), .val (.int 3), .val (.long rm), .second, .val (.int 2)] [(.ref a1), (.ref a1)])) rfl rfl (hb hby d5_121)
      refine Goes.step (B := T211.setTop (mkF m 124 #[.val (.ref a1), .val (.ref pgA), .val (.int 3), .val (.long rm), .second, .val (.int 2)] [(.ref chA), (.ref a1)])) st211 ?_
      refine Goes.step (fun _ k => pw_iload X211.here hx (hb hby d5_124) rfl _ (pw_iconst X211.here hx (v := (1 : Int32)) (hb hby d5_126) rfl _ k)) ?_
      refine Goes.step (B := T211.setTop (mkF m 128 #[.val (.ref a1), .val (.ref pgA), .val (.int 3), .val (.long rm), .second, .val (.int 2)] [(.int 1), (.ref chA), (.ref a1)])) (fun _ k => XS.isub X211.here hx rfl (hb hby d5_127) rfl k) ?_
      obtain ⟨c212, Ar212, -, Sz212, Nn212, Hs212, -⟩ := id V209
      have hin212 : ¬ ((1 : Int32) < 0 ∨ c212.slots.size ≤ ((1 : Int32)).toNatClampNeg) := inb_of Sz212 ⟨by decide, by decide⟩
      refine Goes.step (B := T211.setTop (mkF m 129 #[.val (.ref a1), .val (.ref pgA), .val (.int 3), .val (.long rm), .second, .val (.int 2)] [(.ref fb171), (.ref a1)])) (X211.aaload hx (j := (1 : Int32)) (v := (.ref fb171)) (by rw [e211]; exact Ar212.1) (State.isArrayOf_alike hZ.alike Ar212.2.1) rfl Ar212.2.2 hin212 (Has.at Hs212 hin212 rfl) (g := (mkF m 128 #[.val (.ref a1), .val (.ref pgA), .val (.int 3), .val (.long rm), .second, .val (.int 2)] [(.int 1), (.ref chA), (.ref a1)])) rfl rfl (hb hby d5_128)) ?_
      refine Goes.step (fun _ k => pw_aloadN X211.here hx (hb hby d5_129) rfl rfl _ k) ?_
      obtain ⟨T213, X213, e213, st213⟩ := getF X211 hx hZ hown (host := "") (Or.inl (own_w36 hw)) Via.refl e211 f210 (g := (mkF m 130 #[.val (.ref a1), .val (.ref pgA), .val (.int 3), .val (.long rm), .second, .val (.int 2)] [(.ref a1), (.ref fb171), (.ref a1)])) rfl rfl (hb hby d5_130)
      refine Goes.step (B := T213.setTop (mkF m 133 #[.val (.ref a1), .val (.ref pgA), .val (.int 3), .val (.long rm), .second, .val (.int 2)] [(.ref chA), (.ref fb171), (.ref a1)])) st213 ?_
      refine Goes.step (fun _ k => pw_iload X213.here hx (hb hby d5_133) rfl _ k) ?_
      obtain ⟨c214, Ar214, -, Sz214, Nn214, Hs214, -⟩ := id V209
      have hin214 : ¬ ((2 : Int32) < 0 ∨ c214.slots.size ≤ ((2 : Int32)).toNatClampNeg) := inb_of Sz214 ⟨by decide, by decide⟩
      refine Goes.step (B := T213.setTop (mkF m 136 #[.val (.ref a1), .val (.ref pgA), .val (.int 3), .val (.long rm), .second, .val (.int 2)] [(.ref fb200), (.ref fb171), (.ref a1)])) (X213.aaload hx (j := (2 : Int32)) (v := (.ref fb200)) (by rw [e213]; exact Ar214.1) (State.isArrayOf_alike hZ.alike Ar214.2.1) rfl Ar214.2.2 hin214 (Has.at Hs214 hin214 rfl) (g := (mkF m 135 #[.val (.ref a1), .val (.ref pgA), .val (.int 3), .val (.long rm), .second, .val (.int 2)] [(.int 2), (.ref chA), (.ref fb171), (.ref a1)])) rfl rfl (hb hby d5_135)) ?_
      refine Goes.step (fun _ k => pw_aloadN X213.here hx (hb hby d5_136) rfl rfl _ k) ?_
      have f215 := (((f179.keep Kp185 (ninS ne_a1_fb171 nin0)).keep Kp200 nin0).other W209 (Or.inl ne_a1_chA))
      obtain ⟨T216, X216, e216, st216⟩ := getF X213 hx hZ hown (host := "") (Or.inl (own_w32 hw)) Via.refl e213 f215 (g := (mkF m 137 #[.val (.ref a1), .val (.ref pgA), .val (.int 3), .val (.long rm), .second, .val (.int 2)] [(.ref a1), (.ref fb200), (.ref fb171), (.ref a1)])) rfl rfl (hb hby d5_137)
      refine Goes.step (B := T216.setTop (mkF m 140 #[.val (.ref a1), .val (.ref pgA), .val (.int 3), .val (.long rm), .second, .val (.int 2)] [(.ref plA), (.ref fb200), (.ref fb171), (.ref a1)])) st216 ?_
      refine Goes.step (fun _ k => pw_iload X216.here hx (hb hby d5_140) rfl _ (pw_iconst X216.here hx (v := (1 : Int32)) (hb hby d5_142) rfl _ k)) ?_
      refine Goes.step (B := T216.setTop (mkF m 144 #[.val (.ref a1), .val (.ref pgA), .val (.int 3), .val (.long rm), .second, .val (.int 2)] [(.int 1), (.ref plA), (.ref fb200), (.ref fb171), (.ref a1)])) (fun _ k => XS.isub X216.here hx rfl (hb hby d5_143) rfl k) ?_
      have f217 := ((f202.keep Kp200 nin0).other W209 ne_plA_chA)
      obtain ⟨c218, Ar218, -, Sz218, Nn218, Hs218, -⟩ := id f217
      have hin218 : ¬ ((1 : Int32) < 0 ∨ c218.slots.size ≤ ((1 : Int32)).toNatClampNeg) := inb_of Sz218 ⟨by decide, by decide⟩
      refine Goes.step (B := T216.setTop (mkF m 145 #[.val (.ref a1), .val (.ref pgA), .val (.int 3), .val (.long rm), .second, .val (.int 2)] [(.int y1), (.ref fb200), (.ref fb171), (.ref a1)])) (X216.iaload hx (j := (1 : Int32)) (v := (.int y1)) (by rw [e216]; exact Ar218.1) (State.isArrayOf_alike hZ.alike Ar218.2.1) Ar218.2.2 hin218 (Has.at Hs218 hin218 rfl) (g := (mkF m 144 #[.val (.ref a1), .val (.ref pgA), .val (.int 3), .val (.long rm), .second, .val (.int 2)] [(.int 1), (.ref plA), (.ref fb200), (.ref fb171), (.ref a1)])) rfl rfl (hb hby d5_144)) ?_
      refine Goes.step (fun _ k => pw_aloadN X216.here hx (hb hby d5_145) rfl rfl _ k) ?_
      have f219 := ((f198.keep Kp200 nin0).other W209 (Or.inl ne_a1_chA))
      obtain ⟨T220, X220, e220, st220⟩ := getF X216 hx hZ hown (host := "") (Or.inl (own_w61 hw)) Via.refl e216 f219 (g := (mkF m 146 #[.val (.ref a1), .val (.ref pgA), .val (.int 3), .val (.long rm), .second, .val (.int 2)] [(.ref a1), (.int y1), (.ref fb200), (.ref fb171), (.ref a1)])) rfl rfl (hb hby d5_146)
      refine Goes.step (B := T220.setTop (mkF m 149 #[.val (.ref a1), .val (.ref pgA), .val (.int 3), .val (.long rm), .second, .val (.int 2)] [(.int ft6), (.int y1), (.ref fb200), (.ref fb171), (.ref a1)])) st220 ?_
      have f222 := (((f186.keep Kp185 (ninS ne_a1_fb171 nin0)).keep Kp200 nin0).other W209 (Or.inl ne_a1_chA))
      have f223 := (((f187.keep Kp185 (ninS ne_a1_fb171 nin0)).keep Kp200 nin0).other W209 (Or.inl ne_a1_chA))
      have f224 := ((f204.keep Kp200 nin0).other W209 ne_cA_chA)
      have f225 := ((f205.keep Kp200 nin0).other W209 ne_mA_chA)
      have f226 := ((Vn185.keep Kp200 nin0).other W209 (Ne.symm ne_chA_fb171))
      have f227 := (Vb200.other W209 (Ne.symm ne_chA_fb200))
      have f228 := ((f201.keep Kp200).wr W209)
      obtain ⟨cq221, qq221, qr221⟩ := f228.cell
      obtain ⟨_, _, ⟨T221, L221, k221, n221⟩, -, X221, ⟨Lc221, hQ221, l221, y221, z221⟩, st221⟩ := X220.privateBack hx (y := (⟨"com/example/errantry/errantry/staff/CompletionBounds", "addGroup", "([J[JII)V"⟩ : MethodName)) hown (mvT hZ (own_w104 hw)) (mvT hZ (own_w105 hw)) (mvT hZ (own_selp (y := ({ cls := "com/example/errantry/errantry/staff/CompletionBounds", name := "addGroup", desc := "([J[JII)V" } : Jvm.MethodName)) (own_w12 hw) (own_w105 hw) (own_w106 hw) (by decide))) (Cond.privateMethod_at (mvP hZ (own_w106 hw) (args := #[]))) (mvT hZ (own_w107 hw)) (by decide) (backOf (W := 0) (rmAG l Z a0 hw [] a1 cA kC mA kM ct0 ct1 ct2 mb0 mb1 mb2 fb171 fk171 fb200 fk200 (ft6 + (1 : Int32)) M185 (List.replicate (ft6 + (1 : Int32)).toNatClampNeg (0 : Int64)) y1 ft6 h209 n0 O_209 f222 f223 f224 f225 f226 f227 gb200 ne_fb171_fb200 ne_cA_fb200 ne_mA_fb200 ne_a1_fb200 gy2 ⟨hm0, hm1⟩ tz (List.length_replicate ..) ⟨by omega, gm2.2⟩) hZ (own_w107 hw) (own_w13 hw) (by decide) (by decide)) (g := (mkF m 149 #[.val (.ref a1), .val (.ref pgA), .val (.int 3), .val (.long rm), .second, .val (.int 2)] [(.int ft6), (.int y1), (.ref fb200), (.ref fb171), (.ref a1)])) rfl (by rw [hml]; rfl) (Steps.refl _) (a := a1) (by rw [e220]; exact qq221) qr221 (argsL := [(.ref fb171), (.ref fb200), (.int y1), (.int ft6)]) (rest := []) (lenOf pd_6 rfl) rfl (by show 2 * 0 + _ ≤ _; exact Nat.le_of_eq rfl) (hb hby d5_149) (fun _ _ => ⟨rfl, e220, (by decide : 3 + 0 ≤ _), (by decide : 39 + 0 ≤ _)⟩)
      dsimp only [Pt.U, Pt.locs, Pt.cells, Pt.slots] at X221 l221 y221 z221 st221 hQ221
      subst l221 y221 z221
      obtain ⟨M221, ea221, cn221, q221, rfl, Nq221, Kp221, hea221, hcn221, Vn221, hch221, hnx221⟩ := hQ221
      have O_221 := O_209.keep Kp221 (allS gb200 all0)
      have K_221 := K_209.trans Kp221 (allS (P := fun x => x ∈ _ ∨ _) (Or.inr sz_fb200) all0)
      have N221 := Fr.app N209 Nq221
      refine Goes.via (B := T221.setTop (mkF m 152 #[.val (.ref a1), .val (.ref pgA), .val (.int 3), .val (.long rm), .second, .val (.int 2)] [])) st221 ?_
      have ck2 : 0 ≤ ea221.toInt ∧ ea221.toInt < 1099511627776 := by rw [hea221]; exact own_ctb hC0 hC1 hC2 gy2
      have cm2 : 1 ≤ cn221.toInt ∧ cn221.toInt ≤ 4 := by rw [hcn221]; exact gm2
      have nn2 := own_nat (j := cn221) (by omega)
      obtain ⟨P2, D2, R2⟩ := own_add R1 D1 (by omega) (by omega) ck2.1 ck2.2 hch221 hnx221
      obtain ⟨t2, ht2⟩ : ∃ z, z = t1 + cn221.toNatClampNeg := ⟨_, rfl⟩
      obtain ⟨el2, hel2⟩ : ∃ z, z = own_insF el1 q221 ea221.toInt cn221.toNatClampNeg := ⟨_, rfl⟩
      rw [← ht2, ← hel2] at D2 R2
      have C2 : own_chain ft6.toNatClampNeg [((([ct0, ct1, ct2] : List Int64).getD y1.toNatClampNeg 0).toInt, (([mb0, mb1, mb2] : List Int32).getD y1.toNatClampNeg 0).toNatClampNeg), ((([ct0, ct1, ct2] : List Int64).getD y0.toNatClampNeg 0).toInt, (([mb0, mb1, mb2] : List Int32).getD y0.toNatClampNeg 0).toNatClampNeg)] el2 t2 := own_consI C1 (by rw [← hea221]; exact P2) (by rw [← hea221, ← hcn221]; exact hel2) (by rw [← hcn221]; exact ht2)
      have bt2 : t2 ≤ 8 := by omega
      refine Goes.step (fun _ k => pw_iinc X221.here hx (l' := #[.val (.ref a1), .val (.ref pgA), .val (.int 3), .val (.long rm), .second, .val (.int 3)]) (hb hby d5_152) rfl rfl _ (pw_goto X221.here hx (pc' := 92) (hb hby d5_155) (by decide) (by decide) _ (pw_iload X221.here hx (hb hby d5_92) rfl _ (pw_iloadN X221.here hx (hb hby d5_94) rfl _ (pw_icmpNo X221.here hx (hb hby d5_95) (flt (by decide)).2.2.1 _ (pw_aloadN X221.here hx (hb hby d5_98) rfl rfl _ k)))))) ?_
      have f229 := (f210.keep Kp221 (ninS ne_a1_fb200 nin0))
      obtain ⟨T230, X230, e230, st230⟩ := getF X221 hx hZ hown (host := "") (Or.inl (own_w36 hw)) Via.refl rfl f229 (g := (mkF m 99 #[.val (.ref a1), .val (.ref pgA), .val (.int 3), .val (.long rm), .second, .val (.int 3)] [(.ref a1)])) rfl rfl (hb hby d5_99)
      refine Goes.step (B := T230.setTop (mkF m 102 #[.val (.ref a1), .val (.ref pgA), .val (.int 3), .val (.long rm), .second, .val (.int 3)] [(.ref chA)])) st230 ?_
      refine Goes.step (fun _ k => pw_iload X230.here hx (hb hby d5_102) rfl _ (pw_aloadN X230.here hx (hb hby d5_104) rfl rfl _ k)) ?_
      obtain ⟨T231, X231, e231, st231⟩ := getF X230 hx hZ hown (host := "") (Or.inl (own_w36 hw)) Via.refl e230 f229 (g := (mkF m 105 #[.val (.ref a1), .val (.ref pgA), .val (.int 3), .val (.long rm), .second, .val (.int 3)] [(.ref a1), (.int 3), (.ref chA)])) rfl rfl (hb hby d5_105)
      refine Goes.step (B := T231.setTop (mkF m 108 #[.val (.ref a1), .val (.ref pgA), .val (.int 3), .val (.long rm), .second, .val (.int 3)] [(.ref chA), (.int 3), (.ref chA)])) st231 ?_
      refine Goes.step (fun _ k => pw_iload X231.here hx (hb hby d5_108) rfl _ k) ?_
      have f232 := (V209.keep Kp221 (ninS ne_chA_fb200 nin0))
      obtain ⟨c233, Ar233, -, Sz233, Nn233, Hs233, -⟩ := id f232
      have hin233 : ¬ ((3 : Int32) < 0 ∨ c233.slots.size ≤ ((3 : Int32)).toNatClampNeg) := inb_of Sz233 ⟨by decide, by decide⟩
      refine Goes.step (B := T231.setTop (mkF m 111 #[.val (.ref a1), .val (.ref pgA), .val (.int 3), .val (.long rm), .second, .val (.int 3)] [.null, (.int 3), (.ref chA)])) (X231.aaload hx (j := (3 : Int32)) (v := .null) (by rw [e231]; exact Ar233.1) (State.isArrayOf_alike hZ.alike Ar233.2.1) rfl Ar233.2.2 hin233 (Has.at Hs233 hin233 rfl) (g := (mkF m 110 #[.val (.ref a1), .val (.ref pgA), .val (.int 3), .val (.long rm), .second, .val (.int 3)] [(.int 3), (.ref chA), (.int 3), (.ref chA)])) rfl rfl (hb hby d5_110)) ?_
      refine Goes.step (fun _ k => pw_aloadN X231.here hx (hb hby d5_111) rfl rfl _ k) ?_
      have f234 := (f219.keep Kp221 (ninS ne_a1_fb200 nin0))
      obtain ⟨T235, X235, e235, st235⟩ := getF X231 hx hZ hown (host := "") (Or.inl (own_w61 hw)) Via.refl e231 f234 (g := (mkF m 112 #[.val (.ref a1), .val (.ref pgA), .val (.int 3), .val (.long rm), .second, .val (.int 3)] [(.ref a1), .null, (.int 3), (.ref chA)])) rfl rfl (hb hby d5_112)
      refine Goes.step (B := T235.setTop (mkF m 115 #[.val (.ref a1), .val (.ref pgA), .val (.int 3), .val (.long rm), .second, .val (.int 3)] [(.int ft6), .null, (.int 3), (.ref chA)])) st235 ?_
      have f237 := (f228.keep Kp221)
      have lt_a1_236 := f237.lt
      have f238 := (f217.keep Kp221 (ninS ne_plA_fb200 nin0))
      have lt_plA_236 := f238.lt
      have f239 := (((f203.keep Kp200 nin0).other W209 ne_qA_chA).keep Kp221 (ninS ne_qA_fb200 nin0))
      have lt_qA_236 := f239.lt
      have f240 := (f224.keep Kp221 (ninS ne_cA_fb200 nin0))
      have lt_cA_236 := f240.lt
      have f241 := (f225.keep Kp221 (ninS ne_mA_fb200 nin0))
      have lt_mA_236 := f241.lt
      have lt_chA_236 := f232.lt
      have f242 := (((f206.keep Kp200 nin0).other W209 (Ne.symm ne_chA_ffA)).keep Kp221 (ninS ne_ffA_fb200 nin0))
      have lt_ffA_236 := f242.lt
      have f243 := (((f207.keep Kp200 nin0).other W209 (Ne.symm ne_chA_fb27)).keep Kp221 (ninS ne_fb27_fb200 nin0))
      have lt_fb27_236 := f243.lt
      have f244 := (f226.keep Kp221 (ninS ne_fb171_fb200 nin0))
      have lt_fb171_236 := f244.lt
      have lt_fb200_236 := Vn221.lt
      obtain ⟨_, _, ⟨T236, L236, k236, n236⟩, -, X236, ⟨Lc236, hQ236, l236, y236, z236⟩, st236⟩ := Jvm.LawKit.callS X235 hx (y := (⟨"com/example/errantry/errantry/staff/CompletionBounds", "row", "([JI)[J"⟩ : MethodName)) hown (mvT hZ (own_w63 hw)) (mvT hZ (own_w64 hw)) (mvT hZ (own_w13 hw)) (mvT hZ (own_w65 hw)) (by decide) (backOf (W := 2) (rmROW l Z a0 hw [] ft6 T221.heap n0 O_221 hm0 hm1) hZ (own_w65 hw) (own_w13 hw) (by decide) (by decide)) (g := (mkF m 115 #[.val (.ref a1), .val (.ref pgA), .val (.int 3), .val (.long rm), .second, .val (.int 3)] [(.int ft6), .null, (.int 3), (.ref chA)])) rfl (by rw [hml]; rfl) (argsL := [.null, (.int ft6)]) (rest := [(.int 3), (.ref chA)]) (lenOf pd_4 rfl) rfl (by show 2 * 0 + _ ≤ _; exact Nat.le_of_eq rfl) (hb hby d5_115) (fun _ _ => ⟨rfl, e235, (by decide : 3 + 1 ≤ _), (by decide : 39 + 13 ≤ _)⟩)
      dsimp only [Pt.U, Pt.locs, Pt.cells, Pt.slots] at X236 l236 y236 z236 st236 hQ236
      subst l236 y236 z236
      obtain ⟨fb236, fk236, rfl, Nq236, Kp236, gb236, szc_fb236, Eb236, Vb236⟩ := hQ236
      have ne_a1_fb236 : a1 ≠ fb236 := Nat.ne_of_lt (Nat.lt_of_lt_of_le lt_a1_236 szc_fb236)
      have ne_plA_fb236 : plA ≠ fb236 := Nat.ne_of_lt (Nat.lt_of_lt_of_le lt_plA_236 szc_fb236)
      have ne_qA_fb236 : qA ≠ fb236 := Nat.ne_of_lt (Nat.lt_of_lt_of_le lt_qA_236 szc_fb236)
      have ne_cA_fb236 : cA ≠ fb236 := Nat.ne_of_lt (Nat.lt_of_lt_of_le lt_cA_236 szc_fb236)
      have ne_mA_fb236 : mA ≠ fb236 := Nat.ne_of_lt (Nat.lt_of_lt_of_le lt_mA_236 szc_fb236)
      have ne_chA_fb236 : chA ≠ fb236 := Nat.ne_of_lt (Nat.lt_of_lt_of_le lt_chA_236 szc_fb236)
      have ne_ffA_fb236 : ffA ≠ fb236 := Nat.ne_of_lt (Nat.lt_of_lt_of_le lt_ffA_236 szc_fb236)
      have ne_fb27_fb236 : fb27 ≠ fb236 := Nat.ne_of_lt (Nat.lt_of_lt_of_le lt_fb27_236 szc_fb236)
      have ne_fb171_fb236 : fb171 ≠ fb236 := Nat.ne_of_lt (Nat.lt_of_lt_of_le lt_fb171_236 szc_fb236)
      have ne_fb200_fb236 : fb200 ≠ fb236 := Nat.ne_of_lt (Nat.lt_of_lt_of_le lt_fb200_236 szc_fb236)
      have sz_fb236 : h0.size ≤ fb236 := Nat.le_trans K_221.1 szc_fb236
      have O_236 := O_221.keep Kp236 all0
      have K_236 := K_221.trans Kp236 all0
      have N236 := Fr.app N221 Nq236
      refine Goes.step (B := T236.setTop (mkF m 118 #[.val (.ref a1), .val (.ref pgA), .val (.int 3), .val (.long rm), .second, .val (.int 3)] [(.ref fb236), (.int 3), (.ref chA)])) st236 ?_
      have f245 := (f232.keep Kp236 nin0)
      obtain ⟨c246, Ar246, q246, Sz246, Nn246, Hs246, Gs246⟩ := id f245
      have hin246 : ¬ ((3 : Int32) < 0 ∨ c246.slots.size ≤ ((3 : Int32)).toNatClampNeg) := inb_of Sz246 ⟨by decide, by decide⟩
      obtain ⟨T246, h246, X246, e246, W246, st246⟩ := stR X236 hx hZ rfl Ar246 (j := (3 : Int32)) hin246 rfl (Sto.ofVA Ar246 q246 Ov (Ins.self Eb236)) (g := (mkF m 118 #[.val (.ref a1), .val (.ref pgA), .val (.int 3), .val (.long rm), .second, .val (.int 3)] [(.ref fb236), (.int 3), (.ref chA)])) rfl rfl (hb hby d5_118)
      have V246 : Arv Z h246 chA kc (.array .long) (4 : Int32) [(.ref fb27), (.ref fb171), (.ref fb200), (.ref fb236)] .null := Arv.set Ar246 q246 Sz246 Nn246 Hs246 Gs246 rfl W246 3 rfl (Nat.le_of_ble_eq_true rfl)
      have N246 := Fr.snoc X246 N236 g_chA
      have O_246 := O_236.wr W246 g_chA
      have K_246 := K_236.wr W246 (Or.inl (List.mem_of_getElem? (i := 3) rfl))
      refine Goes.step (B := T246.setTop (mkF m 119 #[.val (.ref a1), .val (.ref pgA), .val (.int 3), .val (.long rm), .second, .val (.int 3)] [])) st246 ?_
      have gy3 := hq2 (by decide)
      have gm3 := own_mb hM0 hM1 hM2 gy3
      refine Goes.step (fun _ k => pw_aloadN X246.here hx (hb hby d5_119) rfl rfl _ (pw_aloadN X246.here hx (hb hby d5_120) rfl rfl _ k)) ?_
      have f247 := ((f229.keep Kp236 nin0).other W246 (Or.inl ne_a1_chA))
      obtain ⟨T248, X248, e248, st248⟩ := getF X246 hx hZ hown (host := "") (Or.inl (own_w36 hw)) Via.refl e246 f247 (g := (mkF m 121 #[.val (.ref a1), .val (.ref pgA), .val (.int 3), .val (.long rm), .second, .val (.int 3)] [(.ref a1), (.ref a1)])) rfl rfl (hb hby d5_121)
      refine Goes.step (B := T248.setTop (mkF m 124 #[.val (.ref a1), .val (.ref pgA), .val (.int 3), .val (.long rm), .second, .val (.int 3)] [(.ref chA), (.ref a1)])) st248 ?_
      refine Goes.step (fun _ k => pw_iload X248.here hx (hb hby d5_124) rfl _ (pw_iconst X248.here hx (v := (1 : Int32)) (hb hby d5_126) rfl _ k)) ?_
      refine Goes.step (B := T248.setTop (mkF m 128 #[.val (.ref a1), .val (.ref pgA), .val (.int 3), .val (.long rm), .second, .val (.int 3)] [(.int 2), (.ref chA), (.ref a1)])) (fun _ k => XS.isub X248.here hx rfl (hb hby d5_127) rfl k) ?_
      obtain ⟨c249, Ar249, -, Sz249, Nn249, Hs249, -⟩ := id V246
      have hin249 : ¬ ((2 : Int32) < 0 ∨ c249.slots.size ≤ ((2 : Int32)).toNatClampNeg) := inb_of Sz249 ⟨by decide, by decide⟩
      refine Goes.step (B := T248.setTop (mkF m 129 #[.val (.ref a1), .val (.ref pgA), .val (.int 3), .val (.long rm), .second, .val (.int 3)] [(.ref fb200), (.ref a1)])) (X248.aaload hx (j := (2 : Int32)) (v := (.ref fb200)) (by rw [e248]; exact Ar249.1) (State.isArrayOf_alike hZ.alike Ar249.2.1) rfl Ar249.2.2 hin249 (Has.at Hs249 hin249 rfl) (g := (mkF m 128 #[.val (.ref a1), .val (.ref pgA), .val (.int 3), .val (.long rm), .second, .val (.int 3)] [(.int 2), (.ref chA), (.ref a1)])) rfl rfl (hb hby d5_128)) ?_
      refine Goes.step (fun _ k => pw_aloadN X248.here hx (hb hby d5_129) rfl rfl _ k) ?_
      obtain ⟨T250, X250, e250, st250⟩ := getF X248 hx hZ hown (host := "") (Or.inl (own_w36 hw)) Via.refl e248 f247 (g := (mkF m 130 #[.val (.ref a1), .val (.ref pgA), .val (.int 3), .val (.long rm), .second, .val (.int 3)] [(.ref a1), (.ref fb200), (.ref a1)])) rfl rfl (hb hby d5_130)
      refine Goes.step (B := T250.setTop (mkF m 133 #[.val (.ref a1), .val (.ref pgA), .val (.int 3), .val (.long rm), .second, .val (.int 3)] [(.ref chA), (.ref fb200), (.ref a1)])) st250 ?_
      refine Goes.step (fun _ k => pw_iload X250.here hx (hb hby d5_133) rfl _ k) ?_
      obtain ⟨c251, Ar251, -, Sz251, Nn251, Hs251, -⟩ := id V246
      have hin251 : ¬ ((3 : Int32) < 0 ∨ c251.slots.size ≤ ((3 : Int32)).toNatClampNeg) := inb_of Sz251 ⟨by decide, by decide⟩
      refine Goes.step (B := T250.setTop (mkF m 136 #[.val (.ref a1), .val (.ref pgA), .val (.int 3), .val (.long rm), .second, .val (.int 3)] [(.ref fb236), (.ref fb200), (.ref a1)])) (X250.aaload hx (j := (3 : Int32)) (v := (.ref fb236)) (by rw [e250]; exact Ar251.1) (State.isArrayOf_alike hZ.alike Ar251.2.1) rfl Ar251.2.2 hin251 (Has.at Hs251 hin251 rfl) (g := (mkF m 135 #[.val (.ref a1), .val (.ref pgA), .val (.int 3), .val (.long rm), .second, .val (.int 3)] [(.int 3), (.ref chA), (.ref fb200), (.ref a1)])) rfl rfl (hb hby d5_135)) ?_
      refine Goes.step (fun _ k => pw_aloadN X250.here hx (hb hby d5_136) rfl rfl _ k) ?_
      have f252 := (((f215.keep Kp221 (ninS ne_a1_fb200 nin0)).keep Kp236 nin0).other W246 (Or.inl ne_a1_chA))
      obtain ⟨T253, X253, e253, st253⟩ := getF X250 hx hZ hown (host := "") (Or.inl (own_w32 hw)) Via.refl e250 f252 (g := (mkF m 137 #[.val (.ref a1), .val (.ref pgA), .val (.int 3), .val (.long rm), .second, .val (.int 3)] [(.ref a1), (.ref fb236), (.ref fb200), (.ref a1)])) rfl rfl (hb hby d5_137)
      refine Goes.step (B := T253.setTop (mkF m 140 #[.val (.ref a1), .val (.ref pgA), .val (.int 3), .val (.long rm), .second, .val (.int 3)] [(.ref plA), (.ref fb236), (.ref fb200), (.ref a1)])) st253 ?_
      refine Goes.step (fun _ k => pw_iload X253.here hx (hb hby d5_140) rfl _ (pw_iconst X253.here hx (v := (1 : Int32)) (hb hby d5_142) rfl _ k)) ?_
      refine Goes.step (B := T253.setTop (mkF m 144 #[.val (.ref a1), .val (.ref pgA), .val (.int 3), .val (.long rm), .second, .val (.int 3)] [(.int 2), (.ref plA), (.ref fb236), (.ref fb200), (.ref a1)])) (fun _ k => XS.isub X253.here hx rfl (hb hby d5_143) rfl k) ?_
      have f254 := ((f238.keep Kp236 nin0).other W246 ne_plA_chA)
      obtain ⟨c255, Ar255, -, Sz255, Nn255, Hs255, -⟩ := id f254
      have hin255 : ¬ ((2 : Int32) < 0 ∨ c255.slots.size ≤ ((2 : Int32)).toNatClampNeg) := inb_of Sz255 ⟨by decide, by decide⟩
      refine Goes.step (B := T253.setTop (mkF m 145 #[.val (.ref a1), .val (.ref pgA), .val (.int 3), .val (.long rm), .second, .val (.int 3)] [(.int y2), (.ref fb236), (.ref fb200), (.ref a1)])) (X253.iaload hx (j := (2 : Int32)) (v := (.int y2)) (by rw [e253]; exact Ar255.1) (State.isArrayOf_alike hZ.alike Ar255.2.1) Ar255.2.2 hin255 (Has.at Hs255 hin255 rfl) (g := (mkF m 144 #[.val (.ref a1), .val (.ref pgA), .val (.int 3), .val (.long rm), .second, .val (.int 3)] [(.int 2), (.ref plA), (.ref fb236), (.ref fb200), (.ref a1)])) rfl rfl (hb hby d5_144)) ?_
      refine Goes.step (fun _ k => pw_aloadN X253.here hx (hb hby d5_145) rfl rfl _ k) ?_
      have f256 := ((f234.keep Kp236 nin0).other W246 (Or.inl ne_a1_chA))
      obtain ⟨T257, X257, e257, st257⟩ := getF X253 hx hZ hown (host := "") (Or.inl (own_w61 hw)) Via.refl e253 f256 (g := (mkF m 146 #[.val (.ref a1), .val (.ref pgA), .val (.int 3), .val (.long rm), .second, .val (.int 3)] [(.ref a1), (.int y2), (.ref fb236), (.ref fb200), (.ref a1)])) rfl rfl (hb hby d5_146)
      refine Goes.step (B := T257.setTop (mkF m 149 #[.val (.ref a1), .val (.ref pgA), .val (.int 3), .val (.long rm), .second, .val (.int 3)] [(.int ft6), (.int y2), (.ref fb236), (.ref fb200), (.ref a1)])) st257 ?_
      have f259 := (((f222.keep Kp221 (ninS ne_a1_fb200 nin0)).keep Kp236 nin0).other W246 (Or.inl ne_a1_chA))
      have f260 := (((f223.keep Kp221 (ninS ne_a1_fb200 nin0)).keep Kp236 nin0).other W246 (Or.inl ne_a1_chA))
      have f261 := ((f240.keep Kp236 nin0).other W246 ne_cA_chA)
      have f262 := ((f241.keep Kp236 nin0).other W246 ne_mA_chA)
      have f263 := ((Vn221.keep Kp236 nin0).other W246 (Ne.symm ne_chA_fb200))
      have f264 := (Vb236.other W246 (Ne.symm ne_chA_fb236))
      have f265 := ((f237.keep Kp236).wr W246)
      obtain ⟨cq258, qq258, qr258⟩ := f265.cell
      obtain ⟨_, _, ⟨T258, L258, k258, n258⟩, -, X258, ⟨Lc258, hQ258, l258, y258, z258⟩, st258⟩ := X257.privateBack hx (y := (⟨"com/example/errantry/errantry/staff/CompletionBounds", "addGroup", "([J[JII)V"⟩ : MethodName)) hown (mvT hZ (own_w104 hw)) (mvT hZ (own_w105 hw)) (mvT hZ (own_selp (y := ({ cls := "com/example/errantry/errantry/staff/CompletionBounds", name := "addGroup", desc := "([J[JII)V" } : Jvm.MethodName)) (own_w12 hw) (own_w105 hw) (own_w106 hw) (by decide))) (Cond.privateMethod_at (mvP hZ (own_w106 hw) (args := #[]))) (mvT hZ (own_w107 hw)) (by decide) (backOf (W := 0) (rmAG l Z a0 hw [] a1 cA kC mA kM ct0 ct1 ct2 mb0 mb1 mb2 fb200 fk200 fb236 fk236 (ft6 + (1 : Int32)) M221 (List.replicate (ft6 + (1 : Int32)).toNatClampNeg (0 : Int64)) y2 ft6 h246 n0 O_246 f259 f260 f261 f262 f263 f264 gb236 ne_fb200_fb236 ne_cA_fb236 ne_mA_fb236 ne_a1_fb236 gy3 ⟨hm0, hm1⟩ tz (List.length_replicate ..) ⟨by omega, gm3.2⟩) hZ (own_w107 hw) (own_w13 hw) (by decide) (by decide)) (g := (mkF m 149 #[.val (.ref a1), .val (.ref pgA), .val (.int 3), .val (.long rm), .second, .val (.int 3)] [(.int ft6), (.int y2), (.ref fb236), (.ref fb200), (.ref a1)])) rfl (by rw [hml]; rfl) (Steps.refl _) (a := a1) (by rw [e257]; exact qq258) qr258 (argsL := [(.ref fb200), (.ref fb236), (.int y2), (.int ft6)]) (rest := []) (lenOf pd_6 rfl) rfl (by show 2 * 0 + _ ≤ _; exact Nat.le_of_eq rfl) (hb hby d5_149) (fun _ _ => ⟨rfl, e257, (by decide : 4 + 0 ≤ _), (by decide : 52 + 0 ≤ _)⟩)
      dsimp only [Pt.U, Pt.locs, Pt.cells, Pt.slots] at X258 l258 y258 z258 st258 hQ258
      subst l258 y258 z258
      obtain ⟨M258, ea258, cn258, q258, rfl, Nq258, Kp258, hea258, hcn258, Vn258, hch258, hnx258⟩ := hQ258
      have O_258 := O_246.keep Kp258 (allS gb236 all0)
      have K_258 := K_246.trans Kp258 (allS (P := fun x => x ∈ _ ∨ _) (Or.inr sz_fb236) all0)
      have N258 := Fr.app N246 Nq258
      refine Goes.via (B := T258.setTop (mkF m 152 #[.val (.ref a1), .val (.ref pgA), .val (.int 3), .val (.long rm), .second, .val (.int 3)] [])) st258 ?_
      have ck3 : 0 ≤ ea258.toInt ∧ ea258.toInt < 1099511627776 := by rw [hea258]; exact own_ctb hC0 hC1 hC2 gy3
      have cm3 : 1 ≤ cn258.toInt ∧ cn258.toInt ≤ 4 := by rw [hcn258]; exact gm3
      have nn3 := own_nat (j := cn258) (by omega)
      obtain ⟨P3, D3, R3⟩ := own_add R2 D2 (by omega) (by omega) ck3.1 ck3.2 hch258 hnx258
      obtain ⟨t3, ht3⟩ : ∃ z, z = t2 + cn258.toNatClampNeg := ⟨_, rfl⟩
      obtain ⟨el3, hel3⟩ : ∃ z, z = own_insF el2 q258 ea258.toInt cn258.toNatClampNeg := ⟨_, rfl⟩
      rw [← ht3, ← hel3] at D3 R3
      have C3 : own_chain ft6.toNatClampNeg [((([ct0, ct1, ct2] : List Int64).getD y2.toNatClampNeg 0).toInt, (([mb0, mb1, mb2] : List Int32).getD y2.toNatClampNeg 0).toNatClampNeg), ((([ct0, ct1, ct2] : List Int64).getD y1.toNatClampNeg 0).toInt, (([mb0, mb1, mb2] : List Int32).getD y1.toNatClampNeg 0).toNatClampNeg), ((([ct0, ct1, ct2] : List Int64).getD y0.toNatClampNeg 0).toInt, (([mb0, mb1, mb2] : List Int32).getD y0.toNatClampNeg 0).toNatClampNeg)] el3 t3 := own_consI C2 (by rw [← hea258]; exact P3) (by rw [← hea258, ← hcn258]; exact hel3) (by rw [← hcn258]; exact ht3)
      have bt3 : t3 ≤ 12 := by omega
      refine Goes.step (fun _ k => pw_iinc X258.here hx (l' := #[.val (.ref a1), .val (.ref pgA), .val (.int 3), .val (.long rm), .second, .val (.int 4)]) (hb hby d5_152) rfl rfl _ (pw_goto X258.here hx (pc' := 92) (hb hby d5_155) (by decide) (by decide) _ (pw_iload X258.here hx (hb hby d5_92) rfl _ (pw_iloadN X258.here hx (hb hby d5_94) rfl _ (pw_icmpYes X258.here hx (pc' := 158) (hb hby d5_95) (tlt (by decide)).2.2.1 (by decide) (by decide) _ (pw_aloadN X258.here hx (hb hby d5_158) rfl rfl _ k)))))) ?_
      refine Goes.step (fun _ k => pw_iconst X258.here hx (v := (0 : Int32)) (hb hby d5_159) rfl _ k) ?_
      have f266 := (f265.keep Kp258)
      have f267 := (((((((((fj41_11.keep Kp171 nin0).other W173 (Or.inl ne_a1_chA)).keep Kp185 (ninS ne_a1_fb171 nin0)).keep Kp200 nin0).other W209 (Or.inl ne_a1_chA)).keep Kp221 (ninS ne_a1_fb200 nin0)).keep Kp236 nin0).other W246 (Or.inl ne_a1_chA)).keep Kp258 (ninS ne_a1_fb236 nin0))
      obtain ⟨T268, h268, X268, e268, W268, st268⟩ := putF X258 hx hZ hown (host := "") (Or.inl (own_w67 hw)) Via.refl rfl f267 f266 (Or.inl (own_w68 hw)) (own_w12 hw) (ty := .int) (by decide) rfl rfl (g := (mkF m 160 #[.val (.ref a1), .val (.ref pgA), .val (.int 3), .val (.long rm), .second, .val (.int 4)] [(.int 0), (.ref a1)])) rfl rfl (hb hby d5_160)
      have Fw268 := f267.same W268
      have N268 := Fr.snoc X268 N258 g_a1
      have O_268 := O_258.wr W268 g_a1
      have K_268 := K_258.wr W268 (Or.inl (List.mem_of_getElem? (i := 0) rfl))
      refine Goes.step (B := T268.setTop (mkF m 163 #[.val (.ref a1), .val (.ref pgA), .val (.int 3), .val (.long rm), .second, .val (.int 4)] [])) st268 ?_
      refine Goes.step (fun _ k => pw_aloadN X268.here hx (hb hby d5_163) rfl rfl _ k) ?_
      have f269 := ((((((((((fj41_7.keep Kp171 nin0).other W173 (Or.inl ne_a1_chA)).keep Kp185 (ninS ne_a1_fb171 nin0)).keep Kp200 nin0).other W209 (Or.inl ne_a1_chA)).keep Kp221 (ninS ne_a1_fb200 nin0)).keep Kp236 nin0).other W246 (Or.inl ne_a1_chA)).keep Kp258 (ninS ne_a1_fb236 nin0)).other W268 (Or.inr (slot_ne (Or.inr (own_w43 hw)) (Or.inl (own_w68 hw)) (by decide) (t := (.array .int)) (t' := .int) (by decide) (by decide))))
      obtain ⟨T270, X270, e270, st270⟩ := getF X268 hx hZ hown (host := "") (Or.inl (own_w42 hw)) Via.refl e268 f269 (g := (mkF m 164 #[.val (.ref a1), .val (.ref pgA), .val (.int 3), .val (.long rm), .second, .val (.int 4)] [(.ref a1)])) rfl rfl (hb hby d5_164)
      refine Goes.step (B := T270.setTop (mkF m 167 #[.val (.ref a1), .val (.ref pgA), .val (.int 3), .val (.long rm), .second, .val (.int 4)] [(.ref ffA)])) st270 ?_
      refine Goes.step (fun _ k => pw_iconst X270.here hx (v := (1 : Int32)) (hb hby d5_167) rfl _ k) ?_
      have f272 := ((((f242.keep Kp236 nin0).other W246 (Ne.symm ne_chA_ffA)).keep Kp258 (ninS ne_ffA_fb236 nin0)).other W268 (Ne.symm ne_a1_ffA))
      obtain ⟨_, _, ⟨T271, L271, k271, n271⟩, -, X271, ⟨Lc271, hQ271, l271, y271, z271⟩, st271⟩ := Jvm.LawKit.callS X270 hx (y := (⟨"java/util/Arrays", "fill", "([II)V"⟩ : MethodName)) hown (mvT hZ (own_w69 hw)) (mvT hZ (own_w70 hw)) (mvT hZ (own_w71 hw)) (mvT hZ (own_w72 hw)) (by decide) (backOf (W := 0) (rmFILL l Z a0 hw [] ffA kf zf (List.replicate zf.toNatClampNeg (.int 0)) (1 : Int32) h268 n0 O_268 f272 g_ffA (List.length_replicate ..) hzf.2) hZ (own_w72 hw) (own_w71 hw) (by decide) (by decide)) (g := (mkF m 168 #[.val (.ref a1), .val (.ref pgA), .val (.int 3), .val (.long rm), .second, .val (.int 4)] [(.int 1), (.ref ffA)])) rfl (by rw [hml]; rfl) (argsL := [(.ref ffA), (.int 1)]) (rest := []) (lenOf pd_5 rfl) rfl (by show 2 * 0 + _ ≤ _; exact Nat.le_of_eq rfl) (hb hby d5_168) (fun _ _ => ⟨rfl, e270, (by decide : 4 + 0 ≤ _), (by decide : 52 + 0 ≤ _)⟩)
      dsimp only [Pt.U, Pt.locs, Pt.cells, Pt.slots] at X271 l271 y271 z271 st271 hQ271
      subst l271 y271 z271
      obtain ⟨rfl, Nq271, Kp271⟩ := hQ271
      have O_271 := O_268.keep Kp271 (allS g_ffA all0)
      have K_271 := K_268.trans Kp271 (allS (P := fun x => x ∈ _ ∨ _) (Or.inl (List.mem_of_getElem? (i := 4) rfl)) all0)
      have N271 := Fr.app N268 Nq271
      refine Goes.step (B := T271.setTop (mkF m 171 #[.val (.ref a1), .val (.ref pgA), .val (.int 3), .val (.long rm), .second, .val (.int 4)] [])) st271 ?_
      have f273 := ((f266.wr W268).keep Kp271)
      have f274 := (((f247.keep Kp258 (ninS ne_a1_fb236 nin0)).other W268 (Or.inr (slot_ne (Or.inr (own_w37 hw)) (Or.inl (own_w68 hw)) (by decide) (t := (.array (.array .long))) (t' := .int) (by decide) (by decide)))).keep Kp271 (ninS ne_a1_ffA nin0))
      have f275 := (((((((((((fj41_8.keep Kp171 nin0).other W173 (Or.inl ne_a1_chA)).keep Kp185 (ninS ne_a1_fb171 nin0)).keep Kp200 nin0).other W209 (Or.inl ne_a1_chA)).keep Kp221 (ninS ne_a1_fb200 nin0)).keep Kp236 nin0).other W246 (Or.inl ne_a1_chA)).keep Kp258 (ninS ne_a1_fb236 nin0)).other W268 (Or.inr (slot_ne (Or.inl (own_w54 hw)) (Or.inl (own_w68 hw)) (by decide) (t := .int) (t' := .int) (by decide) (by decide)))).keep Kp271 (ninS ne_a1_ffA nin0))
      have f276 := (((f256.keep Kp258 (ninS ne_a1_fb236 nin0)).other W268 (Or.inr (slot_ne (Or.inl (own_w62 hw)) (Or.inl (own_w68 hw)) (by decide) (t := .int) (t' := .int) (by decide) (by decide)))).keep Kp271 (ninS ne_a1_ffA nin0))
      have f277 := (((V246.keep Kp258 (ninS ne_chA_fb236 nin0)).other W268 (Ne.symm ne_a1_chA)).keep Kp271 (ninS ne_chA_ffA nin0))
      have f278 := ((Vn258.other W268 (Ne.symm ne_a1_fb236)).keep Kp271 (ninS (Ne.symm ne_ffA_fb236) nin0))
      exact Goes.retV X271 hx rfl Bd.returns hlk (hb hby d5_171) (by decide) (by decide) (⟨rfl, N271, K_271, ft6, [(.ref fb27), (.ref fb171), (.ref fb200), (.ref fb236)], fb236, fk236, M258, el3, t3, hm0, hm1, hms, f273, f274, f275, f276, f277, rfl, f278, R3, (by have q := C3; rw [hy.1 (by decide), hy.2.1 (by decide), hy.2.2 (by decide)] at q; unfold own_gl; rw [show (3 : Int32).toNatClampNeg = 3 from by decide]; exact q)⟩)
   refine Goes.step (fun _ k => pw_iconst X40.here hx (v := (1 : Int32)) (hb hby d5_59) rfl _ (pw_istore X40.here hx (l' := #[.val (.ref a1), .val (.ref pgA), .val (.int n), .val (.long rm), .second, .val (.int 1)]) (hb hby d5_60) rfl _ k)) ?_
   have J279 : ∀ (d : Nat), ∀ (Tj279 : State) (Hj279 : Heap) (lj279 : List Loc) (ri : Int32) (B0 : List Int64), Stand p l e ({ frames := 2, cells := 4, slots := 52, locals := 38 } : Room) s m #[(.ref a1), (.ref pgA), (.int n), (.long rm)] below meth c Tj279 lj279 1 13 → Tj279.heap = Hj279 → Old Z n0 Hj279 → Fr n0 lj279 → Keep h0 Hj279 [a1, plA, pbA, chA, ffA] → Exa Z Hj279 a1 "com/example/errantry/errantry/staff/CompletionBounds" → Fld Z Hj279 a1 "com/example/errantry/errantry/staff/CompletionBounds" "pooled" "[Z" (.ref pbA) → Fld Z Hj279 a1 "com/example/errantry/errantry/staff/CompletionBounds" "pool" "[I" (.ref plA) → Fld Z Hj279 a1 "com/example/errantry/errantry/staff/CompletionBounds" "byCost" "[I" (.ref qA) → Fld Z Hj279 a1 "com/example/errantry/errantry/staff/CompletionBounds" "cost" "[J" (.ref cA) → Fld Z Hj279 a1 "com/example/errantry/errantry/staff/CompletionBounds" "members" "[I" (.ref mA) → Fld Z Hj279 a1 "com/example/errantry/errantry/staff/CompletionBounds" "cheapest" "[[J" (.ref chA) → Fld Z Hj279 a1 "com/example/errantry/errantry/staff/CompletionBounds" "firstFitting" "[I" (.ref ffA) → Fld Z Hj279 a1 "com/example/errantry/errantry/staff/CompletionBounds" "poolSize" "I" (.int n) → Fld Z Hj279 a1 "com/example/errantry/errantry/staff/CompletionBounds" "room" "J" (.long rm) → Fld Z Hj279 a1 "com/example/errantry/errantry/staff/CompletionBounds" "most" "I" (.int ft6) → Fld Z Hj279 a1 "com/example/errantry/errantry/staff/CompletionBounds" "rowsFilled" "I" (.int 0) → Arv Z Hj279 plA kp .int (3 : Int32) [(.int y0), (.int y1), (.int y2)] (.int 0) → Arv Z Hj279 qA kq .int (3 : Int32) [(.int bc0), (.int bc1), (.int bc2)] (.int 0) → Arv Z Hj279 cA kC .long (3 : Int32) [(.long ct0), (.long ct1), (.long ct2)] (.long 0) → Arv Z Hj279 mA kM .int (3 : Int32) [(.int mb0), (.int mb1), (.int mb2)] (.int 0) → Arv Z Hj279 chA kc (.array .long) (4 : Int32) [(.ref fb27), .null, .null, .null] .null → Arv Z Hj279 ffA kf .int zf (List.replicate zf.toNatClampNeg (.int 0)) (.int 0) → Arv Z Hj279 fb27 fk27 .long (ft6 + (1 : Int32)) (B0.map Value.long) (.long 0) → Exa Z Hj279 fb27 "[J" → ((d : Int) + ri.toInt = ft6.toInt + 1 ∧ 1 ≤ ri.toInt ∧ B0.length = (ft6 + (1 : Int32)).toNatClampNeg ∧ B0.getD 0 0 = 0 ∧ ∀ j, 1 ≤ j → j < ri.toNatClampNeg → B0.getD j 0 = (9223372036854775807 : Int64)) → Goes p e below s (QRS Z a1 pgA kg plA kp pbA kb qA kq cA kC mA kM chA kc ffA kf zf ct0 ct1 ct2 mb0 mb1 mb2 bc0 bc1 bc2 x0 x1 x2 n rm h0 n0) ({ frames := 2, cells := 4, slots := 52, locals := 38 } : Room).cells ({ frames := 2, cells := 4, slots := 52, locals := 38 } : Room).slots (Tj279.setTop (mkF m 62 #[.val (.ref a1), .val (.ref pgA), .val (.int n), .val (.long rm), .second, .val (.int ri)] [])) := by
    intro d
    induction d with
    | zero =>
      intro Tj279 Hj279 lj279 ri B0 Xj279 ej279 Oj279 Nj279 Kj279 fj279_0 fj279_1 fj279_2 fj279_3 fj279_4 fj279_5 fj279_6 fj279_7 fj279_8 fj279_9 fj279_10 fj279_11 fj279_12 fj279_13 fj279_14 fj279_15 fj279_16 fj279_17 fj279_18 fj279_19 hJ279
      obtain ⟨hd, hi0, hl, hz, hn1⟩ := hJ279
      have ni := own_nat (j := ri) (by omega)
      refine Goes.step (fun _ k => pw_iload Xj279.here hx (hb hby d5_62) rfl _ (pw_aloadN Xj279.here hx (hb hby d5_64) rfl rfl _ k)) ?_
      obtain ⟨T280, X280, e280, st280⟩ := getF Xj279 hx hZ hown (host := "") (Or.inl (own_w61 hw)) Via.refl ej279 fj279_10 (g := (mkF m 65 #[.val (.ref a1), .val (.ref pgA), .val (.int n), .val (.long rm), .second, .val (.int ri)] [(.ref a1), (.int ri)])) rfl rfl (hb hby d5_65)
      refine Goes.step (B := T280.setTop (mkF m 68 #[.val (.ref a1), .val (.ref pgA), .val (.int n), .val (.long rm), .second, .val (.int ri)] [(.int ft6), (.int ri)])) st280 ?_
      refine Goes.step (fun _ k => pw_icmpYes X280.here hx (pc' := 89) (hb hby d5_68) (tlt (own_lt (by omega))).2.2.1 (by decide) (by decide) _ k) ?_
      exact J41 _ _ _ ri B0 X280 e280 Oj279 Nj279 Kj279 fj279_0 fj279_1 fj279_2 fj279_3 fj279_4 fj279_5 fj279_6 fj279_7 fj279_8 fj279_9 fj279_10 fj279_11 fj279_12 fj279_13 fj279_14 fj279_15 fj279_16 fj279_17 fj279_18 fj279_19 ⟨hl, hz, fun j h1 h2 => hn1 j h1 (by omega)⟩
    | succ d ih279 =>
      intro Tj279 Hj279 lj279 ri B0 Xj279 ej279 Oj279 Nj279 Kj279 fj279_0 fj279_1 fj279_2 fj279_3 fj279_4 fj279_5 fj279_6 fj279_7 fj279_8 fj279_9 fj279_10 fj279_11 fj279_12 fj279_13 fj279_14 fj279_15 fj279_16 fj279_17 fj279_18 fj279_19 hJ279
      obtain ⟨hd, hi0, hl, hz, hn1⟩ := hJ279
      have ni := own_nat (j := ri) (by omega)
      have hle : ¬ ft6 < ri := own_nlt (by omega)
      refine Goes.step (fun _ k => pw_iload Xj279.here hx (hb hby d5_62) rfl _ (pw_aloadN Xj279.here hx (hb hby d5_64) rfl rfl _ k)) ?_
      obtain ⟨T281, X281, e281, st281⟩ := getF Xj279 hx hZ hown (host := "") (Or.inl (own_w61 hw)) Via.refl ej279 fj279_10 (g := (mkF m 65 #[.val (.ref a1), .val (.ref pgA), .val (.int n), .val (.long rm), .second, .val (.int ri)] [(.ref a1), (.int ri)])) rfl rfl (hb hby d5_65)
      refine Goes.step (B := T281.setTop (mkF m 68 #[.val (.ref a1), .val (.ref pgA), .val (.int n), .val (.long rm), .second, .val (.int ri)] [(.int ft6), (.int ri)])) st281 ?_
      refine Goes.step (fun _ k => pw_icmpNo X281.here hx (hb hby d5_68) (flt hle).2.2.1 _ (pw_aloadN X281.here hx (hb hby d5_71) rfl rfl _ k)) ?_
      obtain ⟨T282, X282, e282, st282⟩ := getF X281 hx hZ hown (host := "") (Or.inl (own_w36 hw)) Via.refl e281 fj279_6 (g := (mkF m 72 #[.val (.ref a1), .val (.ref pgA), .val (.int n), .val (.long rm), .second, .val (.int ri)] [(.ref a1)])) rfl rfl (hb hby d5_72)
      refine Goes.step (B := T282.setTop (mkF m 75 #[.val (.ref a1), .val (.ref pgA), .val (.int n), .val (.long rm), .second, .val (.int ri)] [(.ref chA)])) st282 ?_
      refine Goes.step (fun _ k => pw_iconst X282.here hx (v := (0 : Int32)) (hb hby d5_75) rfl _ k) ?_
      obtain ⟨c283, Ar283, -, Sz283, Nn283, Hs283, -⟩ := id fj279_16
      have hin283 : ¬ ((0 : Int32) < 0 ∨ c283.slots.size ≤ ((0 : Int32)).toNatClampNeg) := inb_of Sz283 ⟨by decide, by decide⟩
      refine Goes.step (B := T282.setTop (mkF m 77 #[.val (.ref a1), .val (.ref pgA), .val (.int n), .val (.long rm), .second, .val (.int ri)] [(.ref fb27)])) (X282.aaload hx (j := (0 : Int32)) (v := (.ref fb27)) (by rw [e282]; exact Ar283.1) (State.isArrayOf_alike hZ.alike Ar283.2.1) rfl Ar283.2.2 hin283 (Has.at Hs283 hin283 rfl) (g := (mkF m 76 #[.val (.ref a1), .val (.ref pgA), .val (.int n), .val (.long rm), .second, .val (.int ri)] [(.int 0), (.ref chA)])) rfl rfl (hb hby d5_76)) ?_
      refine Goes.step (fun _ k => pw_iload X282.here hx (hb hby d5_77) rfl _ k) ?_
      refine Goes.step (B := T282.setTop (mkF m 82 #[.val (.ref a1), .val (.ref pgA), .val (.int n), .val (.long rm), .second, .val (.int ri)] [(.long 9223372036854775807), (.int ri), (.ref fb27)])) (X282.ldc2Long hx hown (mvT hZ (own_w103 hw)) (g := (mkF m 79 #[.val (.ref a1), .val (.ref pgA), .val (.int n), .val (.long rm), .second, .val (.int ri)] [(.int ri), (.ref fb27)])) rfl (hb hby d5_79)) ?_
      obtain ⟨c284, Ar284, q284, Sz284, Nn284, Hs284, Gs284⟩ := id fj279_18
      have hin284 : ¬ (ri < 0 ∨ c284.slots.size ≤ (ri).toNatClampNeg) := inb_of Sz284 ⟨own_nlt (by rw [own_i0]; omega), own_lt (by omega)⟩
      obtain ⟨T284, h284, X284, e284, W284, st284⟩ := stJ X282 hx hZ e282 Ar284 (j := ri) hin284 (g := (mkF m 82 #[.val (.ref a1), .val (.ref pgA), .val (.int n), .val (.long rm), .second, .val (.int ri)] [(.long 9223372036854775807), (.int ri), (.ref fb27)])) rfl rfl (hb hby d5_82)
      have V284 : Arv Z h284 fb27 fk27 .long (ft6 + (1 : Int32)) ((B0.map Value.long).set (ri).toNatClampNeg (.long 9223372036854775807)) (.long 0) := Arv.set Ar284 q284 Sz284 Nn284 Hs284 Gs284 rfl W284 _ rfl (by rw [List.length_map, hl]; omega)
      rw [own_setL] at V284
      have N284 := Fr.snoc X284 Nj279 gb27
      have O_284 := Oj279.wr W284 gb27
      have K_284 := Kj279.wr W284 (Or.inr sz_fb27)
      refine Goes.step (B := T284.setTop (mkF m 83 #[.val (.ref a1), .val (.ref pgA), .val (.int n), .val (.long rm), .second, .val (.int ri)] [])) st284 ?_
      refine Goes.step (fun _ k => pw_iinc X284.here hx (l' := #[.val (.ref a1), .val (.ref pgA), .val (.int n), .val (.long rm), .second, .val (.int (ri + (1 : Int32)))]) (hb hby d5_83) rfl rfl _ (pw_goto X284.here hx (pc' := 62) (hb hby d5_86) (by decide) (by decide) _ k)) ?_
      have f285 := (fj279_0.wr W284)
      have f286 := (fj279_1.other W284 (Or.inl ne_a1_fb27))
      have f287 := (fj279_2.other W284 (Or.inl ne_a1_fb27))
      have f288 := (fj279_3.other W284 (Or.inl ne_a1_fb27))
      have f289 := (fj279_4.other W284 (Or.inl ne_a1_fb27))
      have f290 := (fj279_5.other W284 (Or.inl ne_a1_fb27))
      have f291 := (fj279_6.other W284 (Or.inl ne_a1_fb27))
      have f292 := (fj279_7.other W284 (Or.inl ne_a1_fb27))
      have f293 := (fj279_8.other W284 (Or.inl ne_a1_fb27))
      have f294 := (fj279_9.other W284 (Or.inl ne_a1_fb27))
      have f295 := (fj279_10.other W284 (Or.inl ne_a1_fb27))
      have f296 := (fj279_11.other W284 (Or.inl ne_a1_fb27))
      have f297 := (fj279_12.other W284 ne_plA_fb27)
      have f298 := (fj279_13.other W284 ne_qA_fb27)
      have f299 := (fj279_14.other W284 ne_cA_fb27)
      have f300 := (fj279_15.other W284 ne_mA_fb27)
      have f301 := (fj279_16.other W284 ne_chA_fb27)
      have f302 := (fj279_17.other W284 ne_ffA_fb27)
      have f303 := (fj279_19.wr W284)
      exact ih279 _ _ _ (ri + (1 : Int32)) (B0.set ri.toNatClampNeg (9223372036854775807 : Int64)) X284 e284 O_284 N284 K_284 f285 f286 f287 f288 f289 f290 f291 f292 f293 f294 f295 f296 f297 f298 f299 f300 f301 f302 V284 f303 ⟨by rw [own_p1 (by omega)]; omega, by rw [own_p1 (by omega)]; omega, by rw [List.length_set]; exact hl, by rw [own_setg _ _ _ _ (by rw [hl]; omega), if_neg (by omega)]; exact hz, own_mstep hi0 (by omega) (by rw [hl]; omega) hn1⟩
   have f304 := (((f28.keep Kp27).wr W35).wr W40)
   have f305 := (((((f7.keep Kp6 (ninS ne_a1_pbA nin0)).other W20 (Or.inr (slot_ne (Or.inr (own_w31 hw)) (Or.inl (own_w62 hw)) (by decide) (t := (.array .boolean)) (t' := .int) (by decide) (by decide)))).keep Kp27 nin0).other W35 (Or.inl ne_a1_chA)).other W40 (Or.inl ne_a1_fb27))
   have f306 := (((((f8.keep Kp6 (ninS ne_a1_pbA nin0)).other W20 (Or.inr (slot_ne (Or.inr (own_w33 hw)) (Or.inl (own_w62 hw)) (by decide) (t := (.array .int)) (t' := .int) (by decide) (by decide)))).keep Kp27 nin0).other W35 (Or.inl ne_a1_chA)).other W40 (Or.inl ne_a1_fb27))
   have f307 := (((((f9.keep Kp6 (ninS ne_a1_pbA nin0)).other W20 (Or.inr (slot_ne (Or.inr (own_w28 hw)) (Or.inl (own_w62 hw)) (by decide) (t := (.array .int)) (t' := .int) (by decide) (by decide)))).keep Kp27 nin0).other W35 (Or.inl ne_a1_chA)).other W40 (Or.inl ne_a1_fb27))
   have f308 := (((((f10.keep Kp6 (ninS ne_a1_pbA nin0)).other W20 (Or.inr (slot_ne (Or.inr (own_w24 hw)) (Or.inl (own_w62 hw)) (by decide) (t := (.array .long)) (t' := .int) (by decide) (by decide)))).keep Kp27 nin0).other W35 (Or.inl ne_a1_chA)).other W40 (Or.inl ne_a1_fb27))
   have f309 := (((((f11.keep Kp6 (ninS ne_a1_pbA nin0)).other W20 (Or.inr (slot_ne (Or.inr (own_w26 hw)) (Or.inl (own_w62 hw)) (by decide) (t := (.array .int)) (t' := .int) (by decide) (by decide)))).keep Kp27 nin0).other W35 (Or.inl ne_a1_chA)).other W40 (Or.inl ne_a1_fb27))
   have f310 := (f36.other W40 (Or.inl ne_a1_fb27))
   have f311 := (((((((fj1_7.other W2 (Or.inr (slot_ne (Or.inr (own_w43 hw)) (Or.inl (own_w54 hw)) (by decide) (t := (.array .int)) (t' := .int) (by decide) (by decide)))).other W5 (Or.inr (slot_ne (Or.inr (own_w43 hw)) (Or.inl (own_w56 hw)) (by decide) (t := (.array .int)) (t' := .long) (by decide) (by decide)))).keep Kp6 (ninS ne_a1_pbA nin0)).other W20 (Or.inr (slot_ne (Or.inr (own_w43 hw)) (Or.inl (own_w62 hw)) (by decide) (t := (.array .int)) (t' := .int) (by decide) (by decide)))).keep Kp27 nin0).other W35 (Or.inl ne_a1_chA)).other W40 (Or.inl ne_a1_fb27))
   have f312 := ((((((Fw2.other W5 (Or.inr (slot_ne (Or.inl (own_w54 hw)) (Or.inl (own_w56 hw)) (by decide) (t := .int) (t' := .long) (by decide) (by decide)))).keep Kp6 (ninS ne_a1_pbA nin0)).other W20 (Or.inr (slot_ne (Or.inl (own_w54 hw)) (Or.inl (own_w62 hw)) (by decide) (t := .int) (t' := .int) (by decide) (by decide)))).keep Kp27 nin0).other W35 (Or.inl ne_a1_chA)).other W40 (Or.inl ne_a1_fb27))
   have f313 := (((((Fw5.keep Kp6 (ninS ne_a1_pbA nin0)).other W20 (Or.inr (slot_ne (Or.inl (own_w56 hw)) (Or.inl (own_w62 hw)) (by decide) (t := .long) (t' := .int) (by decide) (by decide)))).keep Kp27 nin0).other W35 (Or.inl ne_a1_chA)).other W40 (Or.inl ne_a1_fb27))
   have f314 := (((Fw20.keep Kp27 nin0).other W35 (Or.inl ne_a1_chA)).other W40 (Or.inl ne_a1_fb27))
   have f315 := (((((((fj1_11.other W2 (Or.inr (slot_ne (Or.inl (own_w68 hw)) (Or.inl (own_w54 hw)) (by decide) (t := .int) (t' := .int) (by decide) (by decide)))).other W5 (Or.inr (slot_ne (Or.inl (own_w68 hw)) (Or.inl (own_w56 hw)) (by decide) (t := .int) (t' := .long) (by decide) (by decide)))).keep Kp6 (ninS ne_a1_pbA nin0)).other W20 (Or.inr (slot_ne (Or.inl (own_w68 hw)) (Or.inl (own_w62 hw)) (by decide) (t := .int) (t' := .int) (by decide) (by decide)))).keep Kp27 nin0).other W35 (Or.inl ne_a1_chA)).other W40 (Or.inl ne_a1_fb27))
   have f316 := (((f29.keep Kp27 nin0).other W35 ne_plA_chA).other W40 ne_plA_fb27)
   have f317 := (((f30.keep Kp27 nin0).other W35 ne_qA_chA).other W40 ne_qA_fb27)
   have f318 := (((f31.keep Kp27 nin0).other W35 ne_cA_chA).other W40 ne_cA_fb27)
   have f319 := (((f32.keep Kp27 nin0).other W35 ne_mA_chA).other W40 ne_mA_fb27)
   have f320 := (V35.other W40 ne_chA_fb27)
   have f321 := (((f33.keep Kp27 nin0).other W35 (Ne.symm ne_chA_ffA)).other W40 ne_ffA_fb27)
   have f322 := ((Eb27.wr W35).wr W40)
   exact J279 ft6.toInt.toNat _ _ _ (1 : Int32) ((List.replicate (ft6 + (1 : Int32)).toNatClampNeg (0 : Int64)).set (0 : Int32).toNatClampNeg 0) X40 e40 O_40 N40 K_40 f304 f305 f306 f307 f308 f309 f310 f311 f312 f313 f314 f315 f316 f317 f318 f319 f320 f321 V40 f322 ⟨by rw [own_i1]; omega, by decide, by rw [List.length_set, List.length_replicate], by rw [own_setg _ _ _ _ (by rw [List.length_replicate]; omega)]; rfl, fun j h1 h2 => absurd h2 (by rw [show (1 : Int32).toNatClampNeg = 1 from by decide]; omega)⟩
  rcases own_n4c hn with rfl | rfl | rfl | rfl
  · refine Goes.step (fun _ k => pw_aloadN X0.here hx (hb hby d5_0) rfl rfl _ (pw_iconst X0.here hx (v := (0 : Int32)) (hb hby d5_1) rfl _ (pw_aloadN X0.here hx (hb hby d5_2) rfl rfl _ k))) ?_
    obtain ⟨T323, X323, e323, st323⟩ := getF X0 hx hZ hown (host := "") (Or.inl (own_w32 hw)) Via.refl e0 Fr_pool (g := (mkF m 3 #[.val (.ref a1), .val (.ref pgA), .val (.int 0), .val (.long rm), .second, .unset] [(.ref a1), (.int 0), (.ref pgA)])) rfl rfl (hb hby d5_3)
    refine Goes.step (B := T323.setTop (mkF m 6 #[.val (.ref a1), .val (.ref pgA), .val (.int 0), .val (.long rm), .second, .unset] [(.ref plA), (.int 0), (.ref pgA)])) st323 ?_
    refine Goes.step (fun _ k => pw_iconst X323.here hx (v := (0 : Int32)) (hb hby d5_6) rfl _ (pw_iloadN X323.here hx (hb hby d5_7) rfl _ k)) ?_
    obtain ⟨T324, h324, L324, X324, e324, Nc324, Kp324, Vc324, st324⟩ := cpA X323 hx hZ hown (own_w49 hw) (own_w52 hw) (own_w50 hw) (own_w51 hw) e323 Vpg Vpl (Or.inl ⟨rfl, rfl⟩) (by decide) (by decide) (by decide) (by decide) (by decide) rfl (by decide) N0 g_plA (g := (mkF m 8 #[.val (.ref a1), .val (.ref pgA), .val (.int 0), .val (.long rm), .second, .unset] [(.int 0), (.int 0), (.ref plA), (.int 0), (.ref pgA)])) rfl (by rw [hml]; rfl) (rest := []) rfl (hb hby d5_8) (by decide) (W := 0) (by show 2 * 0 + _ ≤ _; exact Nat.le_of_eq rfl) (by decide)
    have O_324 := O0.keep Kp324 (allS g_plA all0)
    have K_324 := (Keep.refl h0 [a1, plA, pbA, chA, ffA]).trans Kp324 (allS (P := fun x => x ∈ _ ∨ _) (Or.inl (List.mem_of_getElem? (i := 1) rfl)) all0)
    have Vd324 : Arv Z h324 plA kp .int (3 : Int32) [(.int 0), (.int 0), (.int 0)] (.int 0) := Vc324
    refine Goes.step (B := T324.setTop (mkF m 11 #[.val (.ref a1), .val (.ref pgA), .val (.int 0), .val (.long rm), .second, .unset] [])) st324 ?_
    have f325 := (Er.keep Kp324)
    have f326 := (Fr_pooled.keep Kp324 (ninS ne_a1_plA nin0))
    have f327 := (Fr_pool.keep Kp324 (ninS ne_a1_plA nin0))
    have f328 := (Fr_byCost.keep Kp324 (ninS ne_a1_plA nin0))
    have f329 := (Fr_cost.keep Kp324 (ninS ne_a1_plA nin0))
    have f330 := (Fr_members.keep Kp324 (ninS ne_a1_plA nin0))
    have f331 := (Fr_cheapest.keep Kp324 (ninS ne_a1_plA nin0))
    have f332 := (Fr_firstFitting.keep Kp324 (ninS ne_a1_plA nin0))
    have f333 := (Fr_poolSize.keep Kp324 (ninS ne_a1_plA nin0))
    have f334 := (Fr_room.keep Kp324 (ninS ne_a1_plA nin0))
    have f335 := (Fr_most.keep Kp324 (ninS ne_a1_plA nin0))
    have f336 := (Fr_rowsFilled.keep Kp324 (ninS ne_a1_plA nin0))
    have f337 := (Vpb.keep Kp324 (ninS (Ne.symm ne_plA_pbA) nin0))
    have f338 := (Vbc.keep Kp324 (ninS (Ne.symm ne_plA_qA) nin0))
    have f339 := (VC.keep Kp324 (ninS (Ne.symm ne_plA_cA) nin0))
    have f340 := (VM.keep Kp324 (ninS (Ne.symm ne_plA_mA) nin0))
    have f341 := (Vch.keep Kp324 (ninS (Ne.symm ne_plA_chA) nin0))
    have f342 := (Vff.keep Kp324 (ninS (Ne.symm ne_plA_ffA) nin0))
    exact J1 _ _ _ (0 : Int32) (0 : Int32) (0 : Int32) X324 e324 O_324 Nc324 K_324 f325 f326 f327 f328 f329 f330 f331 f332 f333 f334 f335 f336 Vd324 f337 f338 f339 f340 f341 f342 ⟨fun h => absurd h (by decide), fun h => absurd h (by decide), fun h => absurd h (by decide)⟩
  · refine Goes.step (fun _ k => pw_aloadN X0.here hx (hb hby d5_0) rfl rfl _ (pw_iconst X0.here hx (v := (0 : Int32)) (hb hby d5_1) rfl _ (pw_aloadN X0.here hx (hb hby d5_2) rfl rfl _ k))) ?_
    obtain ⟨T343, X343, e343, st343⟩ := getF X0 hx hZ hown (host := "") (Or.inl (own_w32 hw)) Via.refl e0 Fr_pool (g := (mkF m 3 #[.val (.ref a1), .val (.ref pgA), .val (.int 1), .val (.long rm), .second, .unset] [(.ref a1), (.int 0), (.ref pgA)])) rfl rfl (hb hby d5_3)
    refine Goes.step (B := T343.setTop (mkF m 6 #[.val (.ref a1), .val (.ref pgA), .val (.int 1), .val (.long rm), .second, .unset] [(.ref plA), (.int 0), (.ref pgA)])) st343 ?_
    refine Goes.step (fun _ k => pw_iconst X343.here hx (v := (0 : Int32)) (hb hby d5_6) rfl _ (pw_iloadN X343.here hx (hb hby d5_7) rfl _ k)) ?_
    obtain ⟨T344, h344, L344, X344, e344, Nc344, Kp344, Vc344, st344⟩ := cpA X343 hx hZ hown (own_w49 hw) (own_w52 hw) (own_w50 hw) (own_w51 hw) e343 Vpg Vpl (Or.inl ⟨rfl, rfl⟩) (by decide) (by decide) (by decide) (by decide) (by decide) rfl (by decide) N0 g_plA (g := (mkF m 8 #[.val (.ref a1), .val (.ref pgA), .val (.int 1), .val (.long rm), .second, .unset] [(.int 1), (.int 0), (.ref plA), (.int 0), (.ref pgA)])) rfl (by rw [hml]; rfl) (rest := []) rfl (hb hby d5_8) (by decide) (W := 0) (by show 2 * 0 + _ ≤ _; exact Nat.le_of_eq rfl) (by decide)
    have O_344 := O0.keep Kp344 (allS g_plA all0)
    have K_344 := (Keep.refl h0 [a1, plA, pbA, chA, ffA]).trans Kp344 (allS (P := fun x => x ∈ _ ∨ _) (Or.inl (List.mem_of_getElem? (i := 1) rfl)) all0)
    have Vd344 : Arv Z h344 plA kp .int (3 : Int32) [(.int x0), (.int 0), (.int 0)] (.int 0) := Vc344
    refine Goes.step (B := T344.setTop (mkF m 11 #[.val (.ref a1), .val (.ref pgA), .val (.int 1), .val (.long rm), .second, .unset] [])) st344 ?_
    have f345 := (Er.keep Kp344)
    have f346 := (Fr_pooled.keep Kp344 (ninS ne_a1_plA nin0))
    have f347 := (Fr_pool.keep Kp344 (ninS ne_a1_plA nin0))
    have f348 := (Fr_byCost.keep Kp344 (ninS ne_a1_plA nin0))
    have f349 := (Fr_cost.keep Kp344 (ninS ne_a1_plA nin0))
    have f350 := (Fr_members.keep Kp344 (ninS ne_a1_plA nin0))
    have f351 := (Fr_cheapest.keep Kp344 (ninS ne_a1_plA nin0))
    have f352 := (Fr_firstFitting.keep Kp344 (ninS ne_a1_plA nin0))
    have f353 := (Fr_poolSize.keep Kp344 (ninS ne_a1_plA nin0))
    have f354 := (Fr_room.keep Kp344 (ninS ne_a1_plA nin0))
    have f355 := (Fr_most.keep Kp344 (ninS ne_a1_plA nin0))
    have f356 := (Fr_rowsFilled.keep Kp344 (ninS ne_a1_plA nin0))
    have f357 := (Vpb.keep Kp344 (ninS (Ne.symm ne_plA_pbA) nin0))
    have f358 := (Vbc.keep Kp344 (ninS (Ne.symm ne_plA_qA) nin0))
    have f359 := (VC.keep Kp344 (ninS (Ne.symm ne_plA_cA) nin0))
    have f360 := (VM.keep Kp344 (ninS (Ne.symm ne_plA_mA) nin0))
    have f361 := (Vch.keep Kp344 (ninS (Ne.symm ne_plA_chA) nin0))
    have f362 := (Vff.keep Kp344 (ninS (Ne.symm ne_plA_ffA) nin0))
    exact J1 _ _ _ x0 (0 : Int32) (0 : Int32) X344 e344 O_344 Nc344 K_344 f345 f346 f347 f348 f349 f350 f351 f352 f353 f354 f355 f356 Vd344 f357 f358 f359 f360 f361 f362 ⟨fun _ => rfl, fun h => absurd h (by decide), fun h => absurd h (by decide)⟩
  · refine Goes.step (fun _ k => pw_aloadN X0.here hx (hb hby d5_0) rfl rfl _ (pw_iconst X0.here hx (v := (0 : Int32)) (hb hby d5_1) rfl _ (pw_aloadN X0.here hx (hb hby d5_2) rfl rfl _ k))) ?_
    obtain ⟨T363, X363, e363, st363⟩ := getF X0 hx hZ hown (host := "") (Or.inl (own_w32 hw)) Via.refl e0 Fr_pool (g := (mkF m 3 #[.val (.ref a1), .val (.ref pgA), .val (.int 2), .val (.long rm), .second, .unset] [(.ref a1), (.int 0), (.ref pgA)])) rfl rfl (hb hby d5_3)
    refine Goes.step (B := T363.setTop (mkF m 6 #[.val (.ref a1), .val (.ref pgA), .val (.int 2), .val (.long rm), .second, .unset] [(.ref plA), (.int 0), (.ref pgA)])) st363 ?_
    refine Goes.step (fun _ k => pw_iconst X363.here hx (v := (0 : Int32)) (hb hby d5_6) rfl _ (pw_iloadN X363.here hx (hb hby d5_7) rfl _ k)) ?_
    obtain ⟨T364, h364, L364, X364, e364, Nc364, Kp364, Vc364, st364⟩ := cpA X363 hx hZ hown (own_w49 hw) (own_w52 hw) (own_w50 hw) (own_w51 hw) e363 Vpg Vpl (Or.inl ⟨rfl, rfl⟩) (by decide) (by decide) (by decide) (by decide) (by decide) rfl (by decide) N0 g_plA (g := (mkF m 8 #[.val (.ref a1), .val (.ref pgA), .val (.int 2), .val (.long rm), .second, .unset] [(.int 2), (.int 0), (.ref plA), (.int 0), (.ref pgA)])) rfl (by rw [hml]; rfl) (rest := []) rfl (hb hby d5_8) (by decide) (W := 0) (by show 2 * 0 + _ ≤ _; exact Nat.le_of_eq rfl) (by decide)
    have O_364 := O0.keep Kp364 (allS g_plA all0)
    have K_364 := (Keep.refl h0 [a1, plA, pbA, chA, ffA]).trans Kp364 (allS (P := fun x => x ∈ _ ∨ _) (Or.inl (List.mem_of_getElem? (i := 1) rfl)) all0)
    have Vd364 : Arv Z h364 plA kp .int (3 : Int32) [(.int x0), (.int x1), (.int 0)] (.int 0) := Vc364
    refine Goes.step (B := T364.setTop (mkF m 11 #[.val (.ref a1), .val (.ref pgA), .val (.int 2), .val (.long rm), .second, .unset] [])) st364 ?_
    have f365 := (Er.keep Kp364)
    have f366 := (Fr_pooled.keep Kp364 (ninS ne_a1_plA nin0))
    have f367 := (Fr_pool.keep Kp364 (ninS ne_a1_plA nin0))
    have f368 := (Fr_byCost.keep Kp364 (ninS ne_a1_plA nin0))
    have f369 := (Fr_cost.keep Kp364 (ninS ne_a1_plA nin0))
    have f370 := (Fr_members.keep Kp364 (ninS ne_a1_plA nin0))
    have f371 := (Fr_cheapest.keep Kp364 (ninS ne_a1_plA nin0))
    have f372 := (Fr_firstFitting.keep Kp364 (ninS ne_a1_plA nin0))
    have f373 := (Fr_poolSize.keep Kp364 (ninS ne_a1_plA nin0))
    have f374 := (Fr_room.keep Kp364 (ninS ne_a1_plA nin0))
    have f375 := (Fr_most.keep Kp364 (ninS ne_a1_plA nin0))
    have f376 := (Fr_rowsFilled.keep Kp364 (ninS ne_a1_plA nin0))
    have f377 := (Vpb.keep Kp364 (ninS (Ne.symm ne_plA_pbA) nin0))
    have f378 := (Vbc.keep Kp364 (ninS (Ne.symm ne_plA_qA) nin0))
    have f379 := (VC.keep Kp364 (ninS (Ne.symm ne_plA_cA) nin0))
    have f380 := (VM.keep Kp364 (ninS (Ne.symm ne_plA_mA) nin0))
    have f381 := (Vch.keep Kp364 (ninS (Ne.symm ne_plA_chA) nin0))
    have f382 := (Vff.keep Kp364 (ninS (Ne.symm ne_plA_ffA) nin0))
    exact J1 _ _ _ x0 x1 (0 : Int32) X364 e364 O_364 Nc364 K_364 f365 f366 f367 f368 f369 f370 f371 f372 f373 f374 f375 f376 Vd364 f377 f378 f379 f380 f381 f382 ⟨fun _ => rfl, fun _ => rfl, fun h => absurd h (by decide)⟩
  · refine Goes.step (fun _ k => pw_aloadN X0.here hx (hb hby d5_0) rfl rfl _ (pw_iconst X0.here hx (v := (0 : Int32)) (hb hby d5_1) rfl _ (pw_aloadN X0.here hx (hb hby d5_2) rfl rfl _ k))) ?_
    obtain ⟨T383, X383, e383, st383⟩ := getF X0 hx hZ hown (host := "") (Or.inl (own_w32 hw)) Via.refl e0 Fr_pool (g := (mkF m 3 #[.val (.ref a1), .val (.ref pgA), .val (.int 3), .val (.long rm), .second, .unset] [(.ref a1), (.int 0), (.ref pgA)])) rfl rfl (hb hby d5_3)
    refine Goes.step (B := T383.setTop (mkF m 6 #[.val (.ref a1), .val (.ref pgA), .val (.int 3), .val (.long rm), .second, .unset] [(.ref plA), (.int 0), (.ref pgA)])) st383 ?_
    refine Goes.step (fun _ k => pw_iconst X383.here hx (v := (0 : Int32)) (hb hby d5_6) rfl _ (pw_iloadN X383.here hx (hb hby d5_7) rfl _ k)) ?_
    obtain ⟨T384, h384, L384, X384, e384, Nc384, Kp384, Vc384, st384⟩ := cpA X383 hx hZ hown (own_w49 hw) (own_w52 hw) (own_w50 hw) (own_w51 hw) e383 Vpg Vpl (Or.inl ⟨rfl, rfl⟩) (by decide) (by decide) (by decide) (by decide) (by decide) rfl (by decide) N0 g_plA (g := (mkF m 8 #[.val (.ref a1), .val (.ref pgA), .val (.int 3), .val (.long rm), .second, .unset] [(.int 3), (.int 0), (.ref plA), (.int 0), (.ref pgA)])) rfl (by rw [hml]; rfl) (rest := []) rfl (hb hby d5_8) (by decide) (W := 0) (by show 2 * 0 + _ ≤ _; exact Nat.le_of_eq rfl) (by decide)
    have O_384 := O0.keep Kp384 (allS g_plA all0)
    have K_384 := (Keep.refl h0 [a1, plA, pbA, chA, ffA]).trans Kp384 (allS (P := fun x => x ∈ _ ∨ _) (Or.inl (List.mem_of_getElem? (i := 1) rfl)) all0)
    have Vd384 : Arv Z h384 plA kp .int (3 : Int32) [(.int x0), (.int x1), (.int x2)] (.int 0) := Vc384
    refine Goes.step (B := T384.setTop (mkF m 11 #[.val (.ref a1), .val (.ref pgA), .val (.int 3), .val (.long rm), .second, .unset] [])) st384 ?_
    have f385 := (Er.keep Kp384)
    have f386 := (Fr_pooled.keep Kp384 (ninS ne_a1_plA nin0))
    have f387 := (Fr_pool.keep Kp384 (ninS ne_a1_plA nin0))
    have f388 := (Fr_byCost.keep Kp384 (ninS ne_a1_plA nin0))
    have f389 := (Fr_cost.keep Kp384 (ninS ne_a1_plA nin0))
    have f390 := (Fr_members.keep Kp384 (ninS ne_a1_plA nin0))
    have f391 := (Fr_cheapest.keep Kp384 (ninS ne_a1_plA nin0))
    have f392 := (Fr_firstFitting.keep Kp384 (ninS ne_a1_plA nin0))
    have f393 := (Fr_poolSize.keep Kp384 (ninS ne_a1_plA nin0))
    have f394 := (Fr_room.keep Kp384 (ninS ne_a1_plA nin0))
    have f395 := (Fr_most.keep Kp384 (ninS ne_a1_plA nin0))
    have f396 := (Fr_rowsFilled.keep Kp384 (ninS ne_a1_plA nin0))
    have f397 := (Vpb.keep Kp384 (ninS (Ne.symm ne_plA_pbA) nin0))
    have f398 := (Vbc.keep Kp384 (ninS (Ne.symm ne_plA_qA) nin0))
    have f399 := (VC.keep Kp384 (ninS (Ne.symm ne_plA_cA) nin0))
    have f400 := (VM.keep Kp384 (ninS (Ne.symm ne_plA_mA) nin0))
    have f401 := (Vch.keep Kp384 (ninS (Ne.symm ne_plA_chA) nin0))
    have f402 := (Vff.keep Kp384 (ninS (Ne.symm ne_plA_ffA) nin0))
    exact J1 _ _ _ x0 x1 x2 X384 e384 O_384 Nc384 K_384 f385 f386 f387 f388 f389 f390 f391 f392 f393 f394 f395 f396 Vd384 f397 f398 f399 f400 f401 f402 ⟨fun _ => rfl, fun _ => rfl, fun _ => rfl⟩
theorem own_w0 {Z : State} {a0 : Array Value} (hw : ∀ d ∈ tables_1, d.before a0 Z = true) : (Jvm.Cond.constantLong "com/example/errantry/errantry/staff/CompletionBoundsCheapestPinLaw" (7 : Nat) (1099511627775 : Int64)).before a0 Z = true := hw _ (List.mem_of_getElem? (i := 0) rfl)
theorem own_w2 {Z : State} {a0 : Array Value} (hw : ∀ d ∈ tables_1, d.before a0 Z = true) : (Jvm.Cond.constantLong "com/example/errantry/errantry/staff/CompletionBoundsCheapestPinLaw" (15 : Nat) (4398046511103 : Int64)).before a0 Z = true := hw _ (List.mem_of_getElem? (i := 2) rfl)
theorem own_w11 {Z : State} {a0 : Array Value} (hw : ∀ d ∈ tables_1, d.before a0 Z = true) : (Jvm.Cond.classLink "com/example/errantry/errantry/staff/CompletionBoundsCheapestPinLaw" (23 : Nat) "com/example/errantry/errantry/staff/CompletionBounds").before a0 Z = true := hw _ (List.mem_of_getElem? (i := 11) rfl)
theorem own_w14 {Z : State} {a0 : Array Value} (hw : ∀ d ∈ tables_1, d.before a0 Z = true) : (Jvm.Cond.arrayClass Jvm.ClassFile.FieldType.double).before a0 Z = true := hw _ (List.mem_of_getElem? (i := 14) rfl)
theorem own_w15 {Z : State} {a0 : Array Value} (hw : ∀ d ∈ tables_1, d.before a0 Z = true) : (Jvm.Cond.methodLink "com/example/errantry/errantry/staff/CompletionBoundsCheapestPinLaw" (25 : Nat) ({ cls := "com/example/errantry/errantry/staff/CompletionBounds", name := "<init>", desc := "([D[J[I[I)V" } : Jvm.MethodName)).before a0 Z = true := hw _ (List.mem_of_getElem? (i := 15) rfl)
theorem own_w17 {Z : State} {a0 : Array Value} (hw : ∀ d ∈ tables_1, d.before a0 Z = true) : (Jvm.Cond.code ({ cls := "com/example/errantry/errantry/staff/CompletionBounds", name := "<init>", desc := "([D[J[I[I)V" } : Jvm.MethodName) prog_38_method_1_code (10 : Nat) (Option.none : Option Jvm.ClassFile.FieldType)).before a0 Z = true := hw _ (List.mem_of_getElem? (i := 17) rfl)
theorem pd_7 : parseMethodDescriptor "([D[J[I[I)V" = some ⟨[(.array .double), (.array .long), (.array .int), (.array .int)], none⟩ := by decide +kernel
theorem own_w16 {Z : State} {a0 : Array Value} (hw : ∀ d ∈ tables_1, d.before a0 Z = true) : (Jvm.Cond.instanceMethod ({ cls := "com/example/errantry/errantry/staff/CompletionBounds", name := "<init>", desc := "([D[J[I[I)V" } : Jvm.MethodName)).before a0 Z = true := hw _ (List.mem_of_getElem? (i := 16) rfl)
theorem own_w44 {Z : State} {a0 : Array Value} (hw : ∀ d ∈ tables_1, d.before a0 Z = true) : (Jvm.Cond.methodLink "com/example/errantry/errantry/staff/CompletionBoundsCheapestPinLaw" (28 : Nat) ({ cls := "com/example/errantry/errantry/staff/CompletionBounds", name := "reset", desc := "([IIJ)V" } : Jvm.MethodName)).before a0 Z = true := hw _ (List.mem_of_getElem? (i := 44) rfl)
theorem own_w48 {Z : State} {a0 : Array Value} (hw : ∀ d ∈ tables_1, d.before a0 Z = true) : (Jvm.Cond.code ({ cls := "com/example/errantry/errantry/staff/CompletionBounds", name := "reset", desc := "([IIJ)V" } : Jvm.MethodName) prog_38_method_2_code (6 : Nat) (Option.none : Option Jvm.ClassFile.FieldType)).before a0 Z = true := hw _ (List.mem_of_getElem? (i := 48) rfl)
theorem pd_8 : parseMethodDescriptor "([IIJ)V" = some ⟨[(.array .int), .int, .long], none⟩ := by decide +kernel
theorem own_w47 {Z : State} {a0 : Array Value} (hw : ∀ d ∈ tables_1, d.before a0 Z = true) : (Jvm.Cond.selects "com/example/errantry/errantry/staff/CompletionBounds" ({ cls := "com/example/errantry/errantry/staff/CompletionBounds", name := "reset", desc := "([IIJ)V" } : Jvm.MethodName) ({ cls := "com/example/errantry/errantry/staff/CompletionBounds", name := "reset", desc := "([IIJ)V" } : Jvm.MethodName)).before a0 Z = true := hw _ (List.mem_of_getElem? (i := 47) rfl)
theorem own_w45 {Z : State} {a0 : Array Value} (hw : ∀ d ∈ tables_1, d.before a0 Z = true) : (Jvm.Cond.declares ({ cls := "com/example/errantry/errantry/staff/CompletionBounds", name := "reset", desc := "([IIJ)V" } : Jvm.MethodName)).before a0 Z = true := hw _ (List.mem_of_getElem? (i := 45) rfl)
theorem own_w46 {Z : State} {a0 : Array Value} (hw : ∀ d ∈ tables_1, d.before a0 Z = true) : (Jvm.Cond.instanceMethod ({ cls := "com/example/errantry/errantry/staff/CompletionBounds", name := "reset", desc := "([IIJ)V" } : Jvm.MethodName)).before a0 Z = true := hw _ (List.mem_of_getElem? (i := 46) rfl)
theorem own_w73 {Z : State} {a0 : Array Value} (hw : ∀ d ∈ tables_1, d.before a0 Z = true) : (Jvm.Cond.methodLink "com/example/errantry/errantry/staff/CompletionBoundsCheapestPinLaw" (32 : Nat) ({ cls := "com/example/errantry/errantry/staff/CompletionBounds", name := "most", desc := "()I" } : Jvm.MethodName)).before a0 Z = true := hw _ (List.mem_of_getElem? (i := 73) rfl)
theorem own_w77 {Z : State} {a0 : Array Value} (hw : ∀ d ∈ tables_1, d.before a0 Z = true) : (Jvm.Cond.code ({ cls := "com/example/errantry/errantry/staff/CompletionBounds", name := "most", desc := "()I" } : Jvm.MethodName) prog_38_method_6_code (1 : Nat) (Option.some Jvm.ClassFile.FieldType.int)).before a0 Z = true := hw _ (List.mem_of_getElem? (i := 77) rfl)
theorem pd_9 : parseMethodDescriptor "()I" = some ⟨[], some .int⟩ := by decide +kernel
theorem own_w76 {Z : State} {a0 : Array Value} (hw : ∀ d ∈ tables_1, d.before a0 Z = true) : (Jvm.Cond.selects "com/example/errantry/errantry/staff/CompletionBounds" ({ cls := "com/example/errantry/errantry/staff/CompletionBounds", name := "most", desc := "()I" } : Jvm.MethodName) ({ cls := "com/example/errantry/errantry/staff/CompletionBounds", name := "most", desc := "()I" } : Jvm.MethodName)).before a0 Z = true := hw _ (List.mem_of_getElem? (i := 76) rfl)
theorem own_w74 {Z : State} {a0 : Array Value} (hw : ∀ d ∈ tables_1, d.before a0 Z = true) : (Jvm.Cond.declares ({ cls := "com/example/errantry/errantry/staff/CompletionBounds", name := "most", desc := "()I" } : Jvm.MethodName)).before a0 Z = true := hw _ (List.mem_of_getElem? (i := 74) rfl)
theorem own_w75 {Z : State} {a0 : Array Value} (hw : ∀ d ∈ tables_1, d.before a0 Z = true) : (Jvm.Cond.instanceMethod ({ cls := "com/example/errantry/errantry/staff/CompletionBounds", name := "most", desc := "()I" } : Jvm.MethodName)).before a0 Z = true := hw _ (List.mem_of_getElem? (i := 75) rfl)
theorem own_w78 {Z : State} {a0 : Array Value} (hw : ∀ d ∈ tables_1, d.before a0 Z = true) : (Jvm.Cond.constant "com/example/errantry/errantry/staff/CompletionBoundsCheapestPinLaw" (36 : Nat) (2147483647 : Int32)).before a0 Z = true := hw _ (List.mem_of_getElem? (i := 78) rfl)
theorem own_w79 {Z : State} {a0 : Array Value} (hw : ∀ d ∈ tables_1, d.before a0 Z = true) : (Jvm.Cond.methodLink "com/example/errantry/errantry/staff/CompletionBoundsCheapestPinLaw" (37 : Nat) ({ cls := "com/example/errantry/errantry/staff/CompletionBounds", name := "cheapest", desc := "(I)J" } : Jvm.MethodName)).before a0 Z = true := hw _ (List.mem_of_getElem? (i := 79) rfl)
theorem own_w83 {Z : State} {a0 : Array Value} (hw : ∀ d ∈ tables_1, d.before a0 Z = true) : (Jvm.Cond.code ({ cls := "com/example/errantry/errantry/staff/CompletionBounds", name := "cheapest", desc := "(I)J" } : Jvm.MethodName) prog_38_method_7_code (2 : Nat) (Option.some Jvm.ClassFile.FieldType.long)).before a0 Z = true := hw _ (List.mem_of_getElem? (i := 83) rfl)
theorem pd_10 : parseMethodDescriptor "(I)J" = some ⟨[.int], some .long⟩ := by decide +kernel
theorem own_w82 {Z : State} {a0 : Array Value} (hw : ∀ d ∈ tables_1, d.before a0 Z = true) : (Jvm.Cond.selects "com/example/errantry/errantry/staff/CompletionBounds" ({ cls := "com/example/errantry/errantry/staff/CompletionBounds", name := "cheapest", desc := "(I)J" } : Jvm.MethodName) ({ cls := "com/example/errantry/errantry/staff/CompletionBounds", name := "cheapest", desc := "(I)J" } : Jvm.MethodName)).before a0 Z = true := hw _ (List.mem_of_getElem? (i := 82) rfl)
theorem own_w80 {Z : State} {a0 : Array Value} (hw : ∀ d ∈ tables_1, d.before a0 Z = true) : (Jvm.Cond.declares ({ cls := "com/example/errantry/errantry/staff/CompletionBounds", name := "cheapest", desc := "(I)J" } : Jvm.MethodName)).before a0 Z = true := hw _ (List.mem_of_getElem? (i := 80) rfl)
theorem own_w81 {Z : State} {a0 : Array Value} (hw : ∀ d ∈ tables_1, d.before a0 Z = true) : (Jvm.Cond.instanceMethod ({ cls := "com/example/errantry/errantry/staff/CompletionBounds", name := "cheapest", desc := "(I)J" } : Jvm.MethodName)).before a0 Z = true := hw _ (List.mem_of_getElem? (i := 81) rfl)
theorem own_w84 {Z : State} {a0 : Array Value} (hw : ∀ d ∈ tables_1, d.before a0 Z = true) : (Jvm.Cond.methodLink "com/example/errantry/errantry/staff/CompletionBoundsCheapestPinLaw" (41 : Nat) ({ cls := "com/example/errantry/errantry/staff/CompletionBoundsCheapestPinLaw", name := "ahead", desc := "(JIJIIJII)I" } : Jvm.MethodName)).before a0 Z = true := hw _ (List.mem_of_getElem? (i := 84) rfl)
theorem own_w86 {Z : State} {a0 : Array Value} (hw : ∀ d ∈ tables_1, d.before a0 Z = true) : (Jvm.Cond.code ({ cls := "com/example/errantry/errantry/staff/CompletionBoundsCheapestPinLaw", name := "ahead", desc := "(JIJIIJII)I" } : Jvm.MethodName) method_5_code (12 : Nat) (Option.some Jvm.ClassFile.FieldType.int)).before a0 Z = true := hw _ (List.mem_of_getElem? (i := 86) rfl)
theorem pd_11 : parseMethodDescriptor "(JIJIIJII)I" = some ⟨[.long, .int, .long, .int, .int, .long, .int, .int], some .int⟩ := by decide +kernel
theorem own_w85 {Z : State} {a0 : Array Value} (hw : ∀ d ∈ tables_1, d.before a0 Z = true) : (Jvm.Cond.static ({ cls := "com/example/errantry/errantry/staff/CompletionBoundsCheapestPinLaw", name := "ahead", desc := "(JIJIIJII)I" } : Jvm.MethodName)).before a0 Z = true := hw _ (List.mem_of_getElem? (i := 85) rfl)
theorem own_w87 {Z : State} {a0 : Array Value} (hw : ∀ d ∈ tables_1, d.before a0 Z = true) : (Jvm.Cond.methodLink "com/example/errantry/errantry/staff/CompletionBoundsCheapestPinLaw" (45 : Nat) ({ cls := "com/example/errantry/errantry/staff/CompletionBoundsCheapestPinLaw", name := "taken", desc := "(III)J" } : Jvm.MethodName)).before a0 Z = true := hw _ (List.mem_of_getElem? (i := 87) rfl)
theorem own_w89 {Z : State} {a0 : Array Value} (hw : ∀ d ∈ tables_1, d.before a0 Z = true) : (Jvm.Cond.code ({ cls := "com/example/errantry/errantry/staff/CompletionBoundsCheapestPinLaw", name := "taken", desc := "(III)J" } : Jvm.MethodName) method_6_code (3 : Nat) (Option.some Jvm.ClassFile.FieldType.long)).before a0 Z = true := hw _ (List.mem_of_getElem? (i := 89) rfl)
theorem pd_12 : parseMethodDescriptor "(III)J" = some ⟨[.int, .int, .int], some .long⟩ := by decide +kernel
theorem own_w88 {Z : State} {a0 : Array Value} (hw : ∀ d ∈ tables_1, d.before a0 Z = true) : (Jvm.Cond.static ({ cls := "com/example/errantry/errantry/staff/CompletionBoundsCheapestPinLaw", name := "taken", desc := "(III)J" } : Jvm.MethodName)).before a0 Z = true := hw _ (List.mem_of_getElem? (i := 88) rfl)
theorem own_w3 {Z : State} {a0 : Array Value} (hw : ∀ d ∈ tables_1, d.before a0 Z = true) : (Jvm.Cond.methodLink "com/example/errantry/errantry/staff/CompletionBoundsCheapestPinLaw" (17 : Nat) ({ cls := "com/example/errantry/errantry/staff/CompletionBoundsCheapestPinLaw", name := "position", desc := "(JIJIJI)I" } : Jvm.MethodName)).before a0 Z = true := hw _ (List.mem_of_getElem? (i := 3) rfl)
theorem own_w6 {Z : State} {a0 : Array Value} (hw : ∀ d ∈ tables_1, d.before a0 Z = true) : (Jvm.Cond.code ({ cls := "com/example/errantry/errantry/staff/CompletionBoundsCheapestPinLaw", name := "position", desc := "(JIJIJI)I" } : Jvm.MethodName) method_4_code (10 : Nat) (Option.some Jvm.ClassFile.FieldType.int)).before a0 Z = true := hw _ (List.mem_of_getElem? (i := 6) rfl)
theorem pd_13 : parseMethodDescriptor "(JIJIJI)I" = some ⟨[.long, .int, .long, .int, .long, .int], some .int⟩ := by decide +kernel
theorem own_w4 {Z : State} {a0 : Array Value} (hw : ∀ d ∈ tables_1, d.before a0 Z = true) : (Jvm.Cond.static ({ cls := "com/example/errantry/errantry/staff/CompletionBoundsCheapestPinLaw", name := "position", desc := "(JIJIJI)I" } : Jvm.MethodName)).before a0 Z = true := hw _ (List.mem_of_getElem? (i := 4) rfl)
theorem own_w97 {Z : State} {a0 : Array Value} (hw : ∀ d ∈ tables_1, d.before a0 Z = true) : (Jvm.Cond.methodLink "com/example/errantry/errantry/staff/CompletionBoundsCheapestPinLaw" (9 : Nat) ({ cls := "java/lang/Math", name := "max", desc := "(JJ)J" } : Jvm.MethodName)).before a0 Z = true := hw _ (List.mem_of_getElem? (i := 97) rfl)
theorem own_w99 {Z : State} {a0 : Array Value} (hw : ∀ d ∈ tables_1, d.before a0 Z = true) : (Jvm.Cond.code ({ cls := "java/lang/Math", name := "max", desc := "(JJ)J" } : Jvm.MethodName) jdk_29_method_66_code (4 : Nat) (Option.some Jvm.ClassFile.FieldType.long)).before a0 Z = true := hw _ (List.mem_of_getElem? (i := 99) rfl)
theorem own_w98 {Z : State} {a0 : Array Value} (hw : ∀ d ∈ tables_1, d.before a0 Z = true) : (Jvm.Cond.static ({ cls := "java/lang/Math", name := "max", desc := "(JJ)J" } : Jvm.MethodName)).before a0 Z = true := hw _ (List.mem_of_getElem? (i := 98) rfl)
theorem ef_rm0 (m : MethodId) (x0 : Int64) (x1 : Int64) (x2 : Int64) (x3 : Int32) (x4 : Int64) (x5 : Int32) : entryFrame m #[(.long x0), (.long x1), (.long x2), (.int x3), (.long x4), (.int x5)] maxLocals = mkF m 0 #[.val (.long x0), .second, .val (.long x1), .second, .val (.long x2), .second, .val (.int x3), .val (.long x4), .second, .val (.int x5), .unset, .unset, .unset, .unset, .unset, .unset, .unset, .unset, .unset, .unset, .unset, .unset, .unset, .unset, .unset, .unset, .unset, .unset, .unset, .unset, .unset, .unset, .unset, .unset, .unset, .unset, .unset, .unset, .unset, .unset, .unset, .unset, .unset, .unset] [] := by first | (simp [entryFrame, mkF, argsToLocals, Value.category, maxLocals]; done) | rfl
def Q0 (Z : State) (i0 : Int64) (i1 : Int64) (i2 : Int64) (i3 : Int32) (i4 : Int64) (i5 : Int32) (h0 : Heap) (n0 : Nat) (v : Option Value) (h : Heap) (L : List Loc) : Prop := v = some (.int 1) ∧ Fr n0 L
set_option maxRecDepth 65536 in
set_option maxHeartbeats 40000000 in
theorem rm0 (l : Launch) (Z : State) (a0 : Array Value) (hw : ∀ d ∈ tables_1, d.before a0 Z = true) (ws : List Jvm.Cond) (i0 : Int64) (i1 : Int64) (i2 : Int64) (i3 : Int32) (i4 : Int64) (i5 : Int32) (h0 : Heap) (n0 : Nat) (O0 : Old Z n0 h0) :
    MetFree l x (head1 (Jvm.Cond.code x code maxLocals ret :: ws) room_1) (fun a U => a = #[(.long i0), (.long i1), (.long i2), (.int i3), (.long i4), (.int i5)] ∧ Z.Warmed39 U.vm ∧ U.heap = h0) (fun _ _ _ _ _ => True) (fun _ U o U' => ∃ v L, o = .returned v ∧ Q0 Z i0 i1 i2 i3 i4 i5 h0 n0 v U'.heap L ∧ FrameEnd U o U' L room_1.cells room_1.slots) := by
  refine MetFree.of_bodySF (plainFor_of_name pn_CompletionBoundsCheapestPinLaw) hisR ?_
  intro p e s m args below meth c s₁ Bd hml0 hP hK
  obtain ⟨rfl, hZ, hh⟩ := hP
  have hx := Bd.exec
  have hby := Bd.bytes
  have hlk : meth.locks = false := BodyLoose.notSynchronized Bd
  have hml : c.maxLocals = 44 := hml0
  have hown : s.vm.findClass "com/example/errantry/errantry/staff/CompletionBoundsCheapestPinLaw" = some m.cls := findClass_of_methodNamed Bd.named
  have hnm := (name_of_methodNamed Bd.named Bd.method).1
  have X0 : Stand p l e room_1 s m #[(.long i0), (.long i1), (.long i2), (.int i3), (.long i4), (.int i5)] below meth c s₁ [] 0 0 := Stand.of_body Bd
  have e0 : s₁.heap = h0 := by rw [← hh, Bd.state]; rfl
  have N0 := Fr.nil n0
  show Goes p e below s (Q0 Z i0 i1 i2 i3 i4 i5 h0 n0) room_1.cells room_1.slots (s₁.setTop (entryFrame m #[(.long i0), (.long i1), (.long i2), (.int i3), (.long i4), (.int i5)] maxLocals))
  refine Goes.enter (g' := (mkF m 0 #[.val (.long i0), .second, .val (.long i1), .second, .val (.long i2), .second, .val (.int i3), .val (.long i4), .second, .val (.int i5), .unset, .unset, .unset, .unset, .unset, .unset, .unset, .unset, .unset, .unset, .unset, .unset, .unset, .unset, .unset, .unset, .unset, .unset, .unset, .unset, .unset, .unset, .unset, .unset, .unset, .unset, .unset, .unset, .unset, .unset, .unset, .unset, .unset, .unset] [])) (ef_rm0 m i0 i1 i2 i3 i4 i5) ?_
  refine Goes.step (fun _ k => pw_lloadN X0.here hx (hb hby at_0) rfl _ k) ?_
  refine Goes.step (B := s₁.setTop (mkF m 4 #[.val (.long i0), .second, .val (.long i1), .second, .val (.long i2), .second, .val (.int i3), .val (.long i4), .second, .val (.int i5), .unset, .unset, .unset, .unset, .unset, .unset, .unset, .unset, .unset, .unset, .unset, .unset, .unset, .unset, .unset, .unset, .unset, .unset, .unset, .unset, .unset, .unset, .unset, .unset, .unset, .unset, .unset, .unset, .unset, .unset, .unset, .unset, .unset, .unset] [(.long 1099511627775), (.long i0)])) (X0.ldc2Long hx hown (mvT hZ (own_w0 hw)) (g := (mkF m 1 #[.val (.long i0), .second, .val (.long i1), .second, .val (.long i2), .second, .val (.int i3), .val (.long i4), .second, .val (.int i5), .unset, .unset, .unset, .unset, .unset, .unset, .unset, .unset, .unset, .unset, .unset, .unset, .unset, .unset, .unset, .unset, .unset, .unset, .unset, .unset, .unset, .unset, .unset, .unset, .unset, .unset, .unset, .unset, .unset, .unset, .unset, .unset, .unset, .unset] [(.long i0)])) rfl (hb hby at_1)) ?_
  refine Goes.step (B := s₁.setTop (mkF m 5 #[.val (.long i0), .second, .val (.long i1), .second, .val (.long i2), .second, .val (.int i3), .val (.long i4), .second, .val (.int i5), .unset, .unset, .unset, .unset, .unset, .unset, .unset, .unset, .unset, .unset, .unset, .unset, .unset, .unset, .unset, .unset, .unset, .unset, .unset, .unset, .unset, .unset, .unset, .unset, .unset, .unset, .unset, .unset, .unset, .unset, .unset, .unset, .unset, .unset] [(.long (i0 &&& (1099511627775 : Int64)))])) (fun _ k => XS.land X0.here hx rfl (hb hby at_4) rfl k) ?_
  obtain ⟨ct0, hct0⟩ : ∃ z, z = (i0 &&& (1099511627775 : Int64)) := ⟨_, rfl⟩
  rw [← hct0]
  have hC0 := own_cb hct0
  refine Goes.step (fun _ k => pw_lstore X0.here hx (l' := #[.val (.long i0), .second, .val (.long i1), .second, .val (.long i2), .second, .val (.int i3), .val (.long i4), .second, .val (.int i5), .val (.long ct0), .second, .unset, .unset, .unset, .unset, .unset, .unset, .unset, .unset, .unset, .unset, .unset, .unset, .unset, .unset, .unset, .unset, .unset, .unset, .unset, .unset, .unset, .unset, .unset, .unset, .unset, .unset, .unset, .unset, .unset, .unset, .unset, .unset]) (hb hby at_5) rfl _ (pw_lloadN X0.here hx (hb hby at_7) rfl _ k)) ?_
  refine Goes.step (B := s₁.setTop (mkF m 11 #[.val (.long i0), .second, .val (.long i1), .second, .val (.long i2), .second, .val (.int i3), .val (.long i4), .second, .val (.int i5), .val (.long ct0), .second, .unset, .unset, .unset, .unset, .unset, .unset, .unset, .unset, .unset, .unset, .unset, .unset, .unset, .unset, .unset, .unset, .unset, .unset, .unset, .unset, .unset, .unset, .unset, .unset, .unset, .unset, .unset, .unset, .unset, .unset, .unset, .unset] [(.long 1099511627775), (.long i1)])) (X0.ldc2Long hx hown (mvT hZ (own_w0 hw)) (g := (mkF m 8 #[.val (.long i0), .second, .val (.long i1), .second, .val (.long i2), .second, .val (.int i3), .val (.long i4), .second, .val (.int i5), .val (.long ct0), .second, .unset, .unset, .unset, .unset, .unset, .unset, .unset, .unset, .unset, .unset, .unset, .unset, .unset, .unset, .unset, .unset, .unset, .unset, .unset, .unset, .unset, .unset, .unset, .unset, .unset, .unset, .unset, .unset, .unset, .unset, .unset, .unset] [(.long i1)])) rfl (hb hby at_8)) ?_
  refine Goes.step (B := s₁.setTop (mkF m 12 #[.val (.long i0), .second, .val (.long i1), .second, .val (.long i2), .second, .val (.int i3), .val (.long i4), .second, .val (.int i5), .val (.long ct0), .second, .unset, .unset, .unset, .unset, .unset, .unset, .unset, .unset, .unset, .unset, .unset, .unset, .unset, .unset, .unset, .unset, .unset, .unset, .unset, .unset, .unset, .unset, .unset, .unset, .unset, .unset, .unset, .unset, .unset, .unset, .unset, .unset] [(.long (i1 &&& (1099511627775 : Int64)))])) (fun _ k => XS.land X0.here hx rfl (hb hby at_11) rfl k) ?_
  obtain ⟨ct1, hct1⟩ : ∃ z, z = (i1 &&& (1099511627775 : Int64)) := ⟨_, rfl⟩
  rw [← hct1]
  have hC1 := own_cb hct1
  refine Goes.step (fun _ k => pw_lstore X0.here hx (l' := #[.val (.long i0), .second, .val (.long i1), .second, .val (.long i2), .second, .val (.int i3), .val (.long i4), .second, .val (.int i5), .val (.long ct0), .second, .val (.long ct1), .second, .unset, .unset, .unset, .unset, .unset, .unset, .unset, .unset, .unset, .unset, .unset, .unset, .unset, .unset, .unset, .unset, .unset, .unset, .unset, .unset, .unset, .unset, .unset, .unset, .unset, .unset, .unset, .unset, .unset, .unset]) (hb hby at_12) rfl _ (pw_lload X0.here hx (hb hby at_14) rfl _ k)) ?_
  refine Goes.step (B := s₁.setTop (mkF m 19 #[.val (.long i0), .second, .val (.long i1), .second, .val (.long i2), .second, .val (.int i3), .val (.long i4), .second, .val (.int i5), .val (.long ct0), .second, .val (.long ct1), .second, .unset, .unset, .unset, .unset, .unset, .unset, .unset, .unset, .unset, .unset, .unset, .unset, .unset, .unset, .unset, .unset, .unset, .unset, .unset, .unset, .unset, .unset, .unset, .unset, .unset, .unset, .unset, .unset, .unset, .unset] [(.long 1099511627775), (.long i2)])) (X0.ldc2Long hx hown (mvT hZ (own_w0 hw)) (g := (mkF m 16 #[.val (.long i0), .second, .val (.long i1), .second, .val (.long i2), .second, .val (.int i3), .val (.long i4), .second, .val (.int i5), .val (.long ct0), .second, .val (.long ct1), .second, .unset, .unset, .unset, .unset, .unset, .unset, .unset, .unset, .unset, .unset, .unset, .unset, .unset, .unset, .unset, .unset, .unset, .unset, .unset, .unset, .unset, .unset, .unset, .unset, .unset, .unset, .unset, .unset, .unset, .unset] [(.long i2)])) rfl (hb hby at_16)) ?_
  refine Goes.step (B := s₁.setTop (mkF m 20 #[.val (.long i0), .second, .val (.long i1), .second, .val (.long i2), .second, .val (.int i3), .val (.long i4), .second, .val (.int i5), .val (.long ct0), .second, .val (.long ct1), .second, .unset, .unset, .unset, .unset, .unset, .unset, .unset, .unset, .unset, .unset, .unset, .unset, .unset, .unset, .unset, .unset, .unset, .unset, .unset, .unset, .unset, .unset, .unset, .unset, .unset, .unset, .unset, .unset, .unset, .unset] [(.long (i2 &&& (1099511627775 : Int64)))])) (fun _ k => XS.land X0.here hx rfl (hb hby at_19) rfl k) ?_
  obtain ⟨ct2, hct2⟩ : ∃ z, z = (i2 &&& (1099511627775 : Int64)) := ⟨_, rfl⟩
  rw [← hct2]
  have hC2 := own_cb hct2
  refine Goes.step (fun _ k => pw_lstore X0.here hx (l' := #[.val (.long i0), .second, .val (.long i1), .second, .val (.long i2), .second, .val (.int i3), .val (.long i4), .second, .val (.int i5), .val (.long ct0), .second, .val (.long ct1), .second, .val (.long ct2), .second, .unset, .unset, .unset, .unset, .unset, .unset, .unset, .unset, .unset, .unset, .unset, .unset, .unset, .unset, .unset, .unset, .unset, .unset, .unset, .unset, .unset, .unset, .unset, .unset, .unset, .unset, .unset, .unset]) (hb hby at_20) rfl _ (pw_iload X0.here hx (hb hby at_22) rfl _ (pw_iconst X0.here hx (v := (3 : Int32)) (hb hby at_24) rfl _ (pw_iand X0.here hx (hb hby at_25) _ (pw_iconst X0.here hx (v := (1 : Int32)) (hb hby at_26) rfl _ (pw_iadd X0.here hx (hb hby at_27) _ k)))))) ?_
  obtain ⟨mb0, hmb0⟩ : ∃ z, z = ((i3 &&& (3 : Int32)) + (1 : Int32)) := ⟨_, rfl⟩
  rw [← hmb0]
  have hM0 := own_mbb hmb0
  refine Goes.step (fun _ k => pw_istore X0.here hx (l' := #[.val (.long i0), .second, .val (.long i1), .second, .val (.long i2), .second, .val (.int i3), .val (.long i4), .second, .val (.int i5), .val (.long ct0), .second, .val (.long ct1), .second, .val (.long ct2), .second, .val (.int mb0), .unset, .unset, .unset, .unset, .unset, .unset, .unset, .unset, .unset, .unset, .unset, .unset, .unset, .unset, .unset, .unset, .unset, .unset, .unset, .unset, .unset, .unset, .unset, .unset, .unset, .unset, .unset]) (hb hby at_28) rfl _ (pw_iload X0.here hx (hb hby at_30) rfl _ (pw_iconst X0.here hx (v := (2 : Int32)) (hb hby at_32) rfl _ k))) ?_
  refine Goes.step (B := s₁.setTop (mkF m 34 #[.val (.long i0), .second, .val (.long i1), .second, .val (.long i2), .second, .val (.int i3), .val (.long i4), .second, .val (.int i5), .val (.long ct0), .second, .val (.long ct1), .second, .val (.long ct2), .second, .val (.int mb0), .unset, .unset, .unset, .unset, .unset, .unset, .unset, .unset, .unset, .unset, .unset, .unset, .unset, .unset, .unset, .unset, .unset, .unset, .unset, .unset, .unset, .unset, .unset, .unset, .unset, .unset, .unset] [(.int ((i3.toUInt32 >>> ((2 : Int32) &&& 31).toUInt32).toInt32))])) (fun _ k => XS.iushr X0.here hx rfl (hb hby at_33) rfl k) ?_
  refine Goes.step (fun _ k => pw_iconst X0.here hx (v := (3 : Int32)) (hb hby at_34) rfl _ (pw_iand X0.here hx (hb hby at_35) _ (pw_iconst X0.here hx (v := (1 : Int32)) (hb hby at_36) rfl _ (pw_iadd X0.here hx (hb hby at_37) _ k)))) ?_
  obtain ⟨mb1, hmb1⟩ : ∃ z, z = ((((i3.toUInt32 >>> ((2 : Int32) &&& 31).toUInt32).toInt32) &&& (3 : Int32)) + (1 : Int32)) := ⟨_, rfl⟩
  rw [← hmb1]
  have hM1 := own_mbb hmb1
  refine Goes.step (fun _ k => pw_istore X0.here hx (l' := #[.val (.long i0), .second, .val (.long i1), .second, .val (.long i2), .second, .val (.int i3), .val (.long i4), .second, .val (.int i5), .val (.long ct0), .second, .val (.long ct1), .second, .val (.long ct2), .second, .val (.int mb0), .val (.int mb1), .unset, .unset, .unset, .unset, .unset, .unset, .unset, .unset, .unset, .unset, .unset, .unset, .unset, .unset, .unset, .unset, .unset, .unset, .unset, .unset, .unset, .unset, .unset, .unset, .unset, .unset]) (hb hby at_38) rfl _ (pw_iload X0.here hx (hb hby at_40) rfl _ (pw_iconst X0.here hx (v := (4 : Int32)) (hb hby at_42) rfl _ k))) ?_
  refine Goes.step (B := s₁.setTop (mkF m 44 #[.val (.long i0), .second, .val (.long i1), .second, .val (.long i2), .second, .val (.int i3), .val (.long i4), .second, .val (.int i5), .val (.long ct0), .second, .val (.long ct1), .second, .val (.long ct2), .second, .val (.int mb0), .val (.int mb1), .unset, .unset, .unset, .unset, .unset, .unset, .unset, .unset, .unset, .unset, .unset, .unset, .unset, .unset, .unset, .unset, .unset, .unset, .unset, .unset, .unset, .unset, .unset, .unset, .unset, .unset] [(.int ((i3.toUInt32 >>> ((4 : Int32) &&& 31).toUInt32).toInt32))])) (fun _ k => XS.iushr X0.here hx rfl (hb hby at_43) rfl k) ?_
  refine Goes.step (fun _ k => pw_iconst X0.here hx (v := (3 : Int32)) (hb hby at_44) rfl _ (pw_iand X0.here hx (hb hby at_45) _ (pw_iconst X0.here hx (v := (1 : Int32)) (hb hby at_46) rfl _ (pw_iadd X0.here hx (hb hby at_47) _ k)))) ?_
  obtain ⟨mb2, hmb2⟩ : ∃ z, z = ((((i3.toUInt32 >>> ((4 : Int32) &&& 31).toUInt32).toInt32) &&& (3 : Int32)) + (1 : Int32)) := ⟨_, rfl⟩
  rw [← hmb2]
  have hM2 := own_mbb hmb2
  refine Goes.step (fun _ k => pw_istore X0.here hx (l' := #[.val (.long i0), .second, .val (.long i1), .second, .val (.long i2), .second, .val (.int i3), .val (.long i4), .second, .val (.int i5), .val (.long ct0), .second, .val (.long ct1), .second, .val (.long ct2), .second, .val (.int mb0), .val (.int mb1), .val (.int mb2), .unset, .unset, .unset, .unset, .unset, .unset, .unset, .unset, .unset, .unset, .unset, .unset, .unset, .unset, .unset, .unset, .unset, .unset, .unset, .unset, .unset, .unset, .unset, .unset, .unset]) (hb hby at_48) rfl _ k) ?_
  have J1 : ∀ (p0 : Int32), p0 = 0 ∨ p0 = 1 → Goes p e below s (Q0 Z i0 i1 i2 i3 i4 i5 h0 n0) room_1.cells room_1.slots (s₁.setTop (mkF m 67 #[.val (.long i0), .second, .val (.long i1), .second, .val (.long i2), .second, .val (.int i3), .val (.long i4), .second, .val (.int i5), .val (.long ct0), .second, .val (.long ct1), .second, .val (.long ct2), .second, .val (.int mb0), .val (.int mb1), .val (.int mb2), .val (.int p0), .unset, .unset, .unset, .unset, .unset, .unset, .unset, .unset, .unset, .unset, .unset, .unset, .unset, .unset, .unset, .unset, .unset, .unset, .unset, .unset, .unset, .unset, .unset, .unset] [])) := by
   intro p0 hp0
   have J2 : ∀ (p1 : Int32), p1 = 0 ∨ p1 = 1 → Goes p e below s (Q0 Z i0 i1 i2 i3 i4 i5 h0 n0) room_1.cells room_1.slots (s₁.setTop (mkF m 84 #[.val (.long i0), .second, .val (.long i1), .second, .val (.long i2), .second, .val (.int i3), .val (.long i4), .second, .val (.int i5), .val (.long ct0), .second, .val (.long ct1), .second, .val (.long ct2), .second, .val (.int mb0), .val (.int mb1), .val (.int mb2), .val (.int p0), .val (.int p1), .unset, .unset, .unset, .unset, .unset, .unset, .unset, .unset, .unset, .unset, .unset, .unset, .unset, .unset, .unset, .unset, .unset, .unset, .unset, .unset, .unset, .unset, .unset] [])) := by
    intro p1 hp1
    have J3 : ∀ (p2 : Int32), p2 = 0 ∨ p2 = 1 → Goes p e below s (Q0 Z i0 i1 i2 i3 i4 i5 h0 n0) room_1.cells room_1.slots (s₁.setTop (mkF m 101 #[.val (.long i0), .second, .val (.long i1), .second, .val (.long i2), .second, .val (.int i3), .val (.long i4), .second, .val (.int i5), .val (.long ct0), .second, .val (.long ct1), .second, .val (.long ct2), .second, .val (.int mb0), .val (.int mb1), .val (.int mb2), .val (.int p0), .val (.int p1), .val (.int p2), .unset, .unset, .unset, .unset, .unset, .unset, .unset, .unset, .unset, .unset, .unset, .unset, .unset, .unset, .unset, .unset, .unset, .unset, .unset, .unset, .unset, .unset] [])) := by
     intro p2 hp2
     refine Goes.step (fun _ k => pw_iconst X0.here hx (v := (3 : Int32)) (hb hby at_101) rfl _ k) ?_
     obtain ⟨T4, h4, k4, X4, e4, E4, A4, st4⟩ := newP (aty := .int) X0 hx hZ (own_w1 hw) e0 (g := (mkF m 102 #[.val (.long i0), .second, .val (.long i1), .second, .val (.long i2), .second, .val (.int i3), .val (.long i4), .second, .val (.int i5), .val (.long ct0), .second, .val (.long ct1), .second, .val (.long ct2), .second, .val (.int mb0), .val (.int mb1), .val (.int mb2), .val (.int p0), .val (.int p1), .val (.int p2), .unset, .unset, .unset, .unset, .unset, .unset, .unset, .unset, .unset, .unset, .unset, .unset, .unset, .unset, .unset, .unset, .unset, .unset, .unset, .unset, .unset, .unset] [(.int 3)])) rfl (hb hby at_102) rfl (by decide) (cap := 3) (by decide) (by decide) (by decide) (by decide)
     obtain ⟨b4, g4⟩ : ∃ z, z = h0.size := ⟨_, rfl⟩
     rw [← g4] at A4 st4
     have g_b4 : n0 ≤ b4 := Nat.le_trans (own_z O0) (Nat.le_of_eq g4.symm)
     have O_4 := O0.ext E4
     have V_b4 : Arv Z h4 b4 k4 .int (3 : Int32) [(.int 0), (.int 0), (.int 0)] (.int 0) := (Arv.new A4 (by decide)).pad (pad_rep [] (.int 0) 3)
     refine Goes.step (B := T4.setTop (mkF m 104 #[.val (.long i0), .second, .val (.long i1), .second, .val (.long i2), .second, .val (.int i3), .val (.long i4), .second, .val (.int i5), .val (.long ct0), .second, .val (.long ct1), .second, .val (.long ct2), .second, .val (.int mb0), .val (.int mb1), .val (.int mb2), .val (.int p0), .val (.int p1), .val (.int p2), .unset, .unset, .unset, .unset, .unset, .unset, .unset, .unset, .unset, .unset, .unset, .unset, .unset, .unset, .unset, .unset, .unset, .unset, .unset, .unset, .unset, .unset] [(.ref b4)])) st4 ?_
     refine Goes.step (fun _ k => pw_astore X4.here hx (l' := #[.val (.long i0), .second, .val (.long i1), .second, .val (.long i2), .second, .val (.int i3), .val (.long i4), .second, .val (.int i5), .val (.long ct0), .second, .val (.long ct1), .second, .val (.long ct2), .second, .val (.int mb0), .val (.int mb1), .val (.int mb2), .val (.int p0), .val (.int p1), .val (.int p2), .val (.ref b4), .unset, .unset, .unset, .unset, .unset, .unset, .unset, .unset, .unset, .unset, .unset, .unset, .unset, .unset, .unset, .unset, .unset, .unset, .unset, .unset, .unset]) (hb hby at_104) rfl rfl _ (pw_iconst X4.here hx (v := (0 : Int32)) (hb hby at_106) rfl _ (pw_istore X4.here hx (l' := #[.val (.long i0), .second, .val (.long i1), .second, .val (.long i2), .second, .val (.int i3), .val (.long i4), .second, .val (.int i5), .val (.long ct0), .second, .val (.long ct1), .second, .val (.long ct2), .second, .val (.int mb0), .val (.int mb1), .val (.int mb2), .val (.int p0), .val (.int p1), .val (.int p2), .val (.ref b4), .val (.int 0), .unset, .unset, .unset, .unset, .unset, .unset, .unset, .unset, .unset, .unset, .unset, .unset, .unset, .unset, .unset, .unset, .unset, .unset, .unset, .unset]) (hb hby at_107) rfl _ k))) ?_
     have J5 : ∀ (Tj5 : State) (Hj5 : Heap) (lj5 : List Loc) (n : Int32) (g0 : Int32) (g1 : Int32) (g2 : Int32), Stand p l e room_1 s m #[(.long i0), (.long i1), (.long i2), (.int i3), (.long i4), (.int i5)] below meth c Tj5 lj5 1 3 → Tj5.heap = Hj5 → Old Z n0 Hj5 → Fr n0 lj5 → Arv Z Hj5 b4 k4 .int (3 : Int32) [(.int g0), (.int g1), (.int g2)] (.int 0) → (own_sel p0 p1 p2 n g0 g1 g2) → Goes p e below s (Q0 Z i0 i1 i2 i3 i4 i5 h0 n0) room_1.cells room_1.slots (Tj5.setTop (mkF m 151 #[.val (.long i0), .second, .val (.long i1), .second, .val (.long i2), .second, .val (.int i3), .val (.long i4), .second, .val (.int i5), .val (.long ct0), .second, .val (.long ct1), .second, .val (.long ct2), .second, .val (.int mb0), .val (.int mb1), .val (.int mb2), .val (.int p0), .val (.int p1), .val (.int p2), .val (.ref b4), .val (.int n), .unset, .unset, .unset, .unset, .unset, .unset, .unset, .unset, .unset, .unset, .unset, .unset, .unset, .unset, .unset, .unset, .unset, .unset, .unset, .unset] [])) := by
      intro Tj5 Hj5 lj5 n g0 g1 g2 Xj5 ej5 Oj5 Nj5 fj5_0 hJ5
      have hsel := hJ5
      obtain ⟨hn, hx0, hx1, hx2⟩ := own_selx hsel
      refine Goes.step (B := Tj5.setTop (mkF m 152 #[.val (.long i0), .second, .val (.long i1), .second, .val (.long i2), .second, .val (.int i3), .val (.long i4), .second, .val (.int i5), .val (.long ct0), .second, .val (.long ct1), .second, .val (.long ct2), .second, .val (.int mb0), .val (.int mb1), .val (.int mb2), .val (.int p0), .val (.int p1), .val (.int p2), .val (.ref b4), .val (.int n), .unset, .unset, .unset, .unset, .unset, .unset, .unset, .unset, .unset, .unset, .unset, .unset, .unset, .unset, .unset, .unset, .unset, .unset, .unset, .unset] [(.long 0)])) (fun _ k => XS.lconst Xj5.here hx rfl (hb hby at_151) k) ?_
      refine Goes.step (fun _ k => pw_lstore Xj5.here hx (l' := #[.val (.long i0), .second, .val (.long i1), .second, .val (.long i2), .second, .val (.int i3), .val (.long i4), .second, .val (.int i5), .val (.long ct0), .second, .val (.long ct1), .second, .val (.long ct2), .second, .val (.int mb0), .val (.int mb1), .val (.int mb2), .val (.int p0), .val (.int p1), .val (.int p2), .val (.ref b4), .val (.int n), .val (.long 0), .second, .unset, .unset, .unset, .unset, .unset, .unset, .unset, .unset, .unset, .unset, .unset, .unset, .unset, .unset, .unset, .unset, .unset, .unset]) (hb hby at_152) rfl _ k) ?_
      have J6 : ∀ (Tj6 : State) (Hj6 : Heap) (lj6 : List Loc) (mx0 : Int64), Stand p l e room_1 s m #[(.long i0), (.long i1), (.long i2), (.int i3), (.long i4), (.int i5)] below meth c Tj6 lj6 1 3 → Tj6.heap = Hj6 → Old Z n0 Hj6 → Fr n0 lj6 → Arv Z Hj6 b4 k4 .int (3 : Int32) [(.int g0), (.int g1), (.int g2)] (.int 0) → (0 ≤ mx0.toInt ∧ mx0.toInt < 1099511627776) → Goes p e below s (Q0 Z i0 i1 i2 i3 i4 i5 h0 n0) room_1.cells room_1.slots (Tj6.setTop (mkF m 168 #[.val (.long i0), .second, .val (.long i1), .second, .val (.long i2), .second, .val (.int i3), .val (.long i4), .second, .val (.int i5), .val (.long ct0), .second, .val (.long ct1), .second, .val (.long ct2), .second, .val (.int mb0), .val (.int mb1), .val (.int mb2), .val (.int p0), .val (.int p1), .val (.int p2), .val (.ref b4), .val (.int n), .val (.long mx0), .second, .unset, .unset, .unset, .unset, .unset, .unset, .unset, .unset, .unset, .unset, .unset, .unset, .unset, .unset, .unset, .unset, .unset, .unset] [])) := by
       intro Tj6 Hj6 lj6 mx0 Xj6 ej6 Oj6 Nj6 fj6_0 hJ6
       have hx_168 := hJ6
       have J7 : ∀ (Tj7 : State) (Hj7 : Heap) (lj7 : List Loc) (mx1 : Int64), Stand p l e room_1 s m #[(.long i0), (.long i1), (.long i2), (.int i3), (.long i4), (.int i5)] below meth c Tj7 lj7 1 3 → Tj7.heap = Hj7 → Old Z n0 Hj7 → Fr n0 lj7 → Arv Z Hj7 b4 k4 .int (3 : Int32) [(.int g0), (.int g1), (.int g2)] (.int 0) → (0 ≤ mx1.toInt ∧ mx1.toInt < 1099511627776) → Goes p e below s (Q0 Z i0 i1 i2 i3 i4 i5 h0 n0) room_1.cells room_1.slots (Tj7.setTop (mkF m 182 #[.val (.long i0), .second, .val (.long i1), .second, .val (.long i2), .second, .val (.int i3), .val (.long i4), .second, .val (.int i5), .val (.long ct0), .second, .val (.long ct1), .second, .val (.long ct2), .second, .val (.int mb0), .val (.int mb1), .val (.int mb2), .val (.int p0), .val (.int p1), .val (.int p2), .val (.ref b4), .val (.int n), .val (.long mx1), .second, .unset, .unset, .unset, .unset, .unset, .unset, .unset, .unset, .unset, .unset, .unset, .unset, .unset, .unset, .unset, .unset, .unset, .unset] [])) := by
        intro Tj7 Hj7 lj7 mx1 Xj7 ej7 Oj7 Nj7 fj7_0 hJ7
        have hx_182 := hJ7
        have J8 : ∀ (Tj8 : State) (Hj8 : Heap) (lj8 : List Loc) (mx2 : Int64), Stand p l e room_1 s m #[(.long i0), (.long i1), (.long i2), (.int i3), (.long i4), (.int i5)] below meth c Tj8 lj8 1 3 → Tj8.heap = Hj8 → Old Z n0 Hj8 → Fr n0 lj8 → Arv Z Hj8 b4 k4 .int (3 : Int32) [(.int g0), (.int g1), (.int g2)] (.int 0) → (0 ≤ mx2.toInt ∧ mx2.toInt < 1099511627776) → Goes p e below s (Q0 Z i0 i1 i2 i3 i4 i5 h0 n0) room_1.cells room_1.slots (Tj8.setTop (mkF m 196 #[.val (.long i0), .second, .val (.long i1), .second, .val (.long i2), .second, .val (.int i3), .val (.long i4), .second, .val (.int i5), .val (.long ct0), .second, .val (.long ct1), .second, .val (.long ct2), .second, .val (.int mb0), .val (.int mb1), .val (.int mb2), .val (.int p0), .val (.int p1), .val (.int p2), .val (.ref b4), .val (.int n), .val (.long mx2), .second, .unset, .unset, .unset, .unset, .unset, .unset, .unset, .unset, .unset, .unset, .unset, .unset, .unset, .unset, .unset, .unset, .unset, .unset] [])) := by
         intro Tj8 Hj8 lj8 mx2 Xj8 ej8 Oj8 Nj8 fj8_0 hJ8
         have hx_196 := hJ8
         refine Goes.step (fun _ k => pw_lload Xj8.here hx (hb hby at_196) rfl _ (pw_lload Xj8.here hx (hb hby at_198) rfl _ k)) ?_
         refine Goes.step (B := Tj8.setTop (mkF m 203 #[.val (.long i0), .second, .val (.long i1), .second, .val (.long i2), .second, .val (.int i3), .val (.long i4), .second, .val (.int i5), .val (.long ct0), .second, .val (.long ct1), .second, .val (.long ct2), .second, .val (.int mb0), .val (.int mb1), .val (.int mb2), .val (.int p0), .val (.int p1), .val (.int p2), .val (.ref b4), .val (.int n), .val (.long mx2), .second, .unset, .unset, .unset, .unset, .unset, .unset, .unset, .unset, .unset, .unset, .unset, .unset, .unset, .unset, .unset, .unset, .unset, .unset] [(.long 4398046511103), (.long i4), (.long mx2)])) (Xj8.ldc2Long hx hown (mvT hZ (own_w2 hw)) (g := (mkF m 200 #[.val (.long i0), .second, .val (.long i1), .second, .val (.long i2), .second, .val (.int i3), .val (.long i4), .second, .val (.int i5), .val (.long ct0), .second, .val (.long ct1), .second, .val (.long ct2), .second, .val (.int mb0), .val (.int mb1), .val (.int mb2), .val (.int p0), .val (.int p1), .val (.int p2), .val (.ref b4), .val (.int n), .val (.long mx2), .second, .unset, .unset, .unset, .unset, .unset, .unset, .unset, .unset, .unset, .unset, .unset, .unset, .unset, .unset, .unset, .unset, .unset, .unset] [(.long i4), (.long mx2)])) rfl (hb hby at_200)) ?_
         refine Goes.step (B := Tj8.setTop (mkF m 204 #[.val (.long i0), .second, .val (.long i1), .second, .val (.long i2), .second, .val (.int i3), .val (.long i4), .second, .val (.int i5), .val (.long ct0), .second, .val (.long ct1), .second, .val (.long ct2), .second, .val (.int mb0), .val (.int mb1), .val (.int mb2), .val (.int p0), .val (.int p1), .val (.int p2), .val (.ref b4), .val (.int n), .val (.long mx2), .second, .unset, .unset, .unset, .unset, .unset, .unset, .unset, .unset, .unset, .unset, .unset, .unset, .unset, .unset, .unset, .unset, .unset, .unset] [(.long (i4 &&& (4398046511103 : Int64))), (.long mx2)])) (fun _ k => XS.land Xj8.here hx rfl (hb hby at_203) rfl k) ?_
         refine Goes.step (B := Tj8.setTop (mkF m 205 #[.val (.long i0), .second, .val (.long i1), .second, .val (.long i2), .second, .val (.int i3), .val (.long i4), .second, .val (.int i5), .val (.long ct0), .second, .val (.long ct1), .second, .val (.long ct2), .second, .val (.int mb0), .val (.int mb1), .val (.int mb2), .val (.int p0), .val (.int p1), .val (.int p2), .val (.ref b4), .val (.int n), .val (.long mx2), .second, .unset, .unset, .unset, .unset, .unset, .unset, .unset, .unset, .unset, .unset, .unset, .unset, .unset, .unset, .unset, .unset, .unset, .unset] [(.long (mx2 + (i4 &&& (4398046511103 : Int64))))])) (fun _ k => XS.ladd Xj8.here hx rfl (hb hby at_204) rfl k) ?_
         obtain ⟨rm, hrm⟩ : ∃ z, z = (mx2 + (i4 &&& (4398046511103 : Int64))) := ⟨_, rfl⟩
         rw [← hrm]
         have hr := own_rmb hx_196 hrm
         refine Goes.step (fun _ k => pw_lstore Xj8.here hx (l' := #[.val (.long i0), .second, .val (.long i1), .second, .val (.long i2), .second, .val (.int i3), .val (.long i4), .second, .val (.int i5), .val (.long ct0), .second, .val (.long ct1), .second, .val (.long ct2), .second, .val (.int mb0), .val (.int mb1), .val (.int mb2), .val (.int p0), .val (.int p1), .val (.int p2), .val (.ref b4), .val (.int n), .val (.long mx2), .second, .val (.long rm), .second, .unset, .unset, .unset, .unset, .unset, .unset, .unset, .unset, .unset, .unset, .unset, .unset, .unset, .unset, .unset, .unset]) (hb hby at_205) rfl _ (pw_iconst Xj8.here hx (v := (3 : Int32)) (hb hby at_207) rfl _ k)) ?_
         obtain ⟨T9, h9, k9, X9, e9, E9, A9, st9⟩ := newP (aty := .int) Xj8 hx hZ (own_w1 hw) ej8 (g := (mkF m 208 #[.val (.long i0), .second, .val (.long i1), .second, .val (.long i2), .second, .val (.int i3), .val (.long i4), .second, .val (.int i5), .val (.long ct0), .second, .val (.long ct1), .second, .val (.long ct2), .second, .val (.int mb0), .val (.int mb1), .val (.int mb2), .val (.int p0), .val (.int p1), .val (.int p2), .val (.ref b4), .val (.int n), .val (.long mx2), .second, .val (.long rm), .second, .unset, .unset, .unset, .unset, .unset, .unset, .unset, .unset, .unset, .unset, .unset, .unset, .unset, .unset, .unset, .unset] [(.int 3)])) rfl (hb hby at_208) rfl (by decide) (cap := 3) (by decide) (by decide) (by decide) (by decide)
         obtain ⟨b9, g9⟩ : ∃ z, z = Hj8.size := ⟨_, rfl⟩
         rw [← g9] at A9 st9
         have ne_b4_b9 : b4 ≠ b9 := Nat.ne_of_lt (Nat.lt_of_lt_of_le fj8_0.lt (Nat.le_of_eq g9.symm))
         have g_b9 : n0 ≤ b9 := Nat.le_trans (own_z Oj8) (Nat.le_of_eq g9.symm)
         have O_9 := Oj8.ext E9
         have V_b9 : Arv Z h9 b9 k9 .int (3 : Int32) [(.int 0), (.int 0), (.int 0)] (.int 0) := (Arv.new A9 (by decide)).pad (pad_rep [] (.int 0) 3)
         refine Goes.step (B := T9.setTop (mkF m 210 #[.val (.long i0), .second, .val (.long i1), .second, .val (.long i2), .second, .val (.int i3), .val (.long i4), .second, .val (.int i5), .val (.long ct0), .second, .val (.long ct1), .second, .val (.long ct2), .second, .val (.int mb0), .val (.int mb1), .val (.int mb2), .val (.int p0), .val (.int p1), .val (.int p2), .val (.ref b4), .val (.int n), .val (.long mx2), .second, .val (.long rm), .second, .unset, .unset, .unset, .unset, .unset, .unset, .unset, .unset, .unset, .unset, .unset, .unset, .unset, .unset, .unset, .unset] [(.ref b9)])) st9 ?_
         refine Goes.step (fun _ k => pw_astore X9.here hx (l' := #[.val (.long i0), .second, .val (.long i1), .second, .val (.long i2), .second, .val (.int i3), .val (.long i4), .second, .val (.int i5), .val (.long ct0), .second, .val (.long ct1), .second, .val (.long ct2), .second, .val (.int mb0), .val (.int mb1), .val (.int mb2), .val (.int p0), .val (.int p1), .val (.int p2), .val (.ref b4), .val (.int n), .val (.long mx2), .second, .val (.long rm), .second, .val (.ref b9), .unset, .unset, .unset, .unset, .unset, .unset, .unset, .unset, .unset, .unset, .unset, .unset, .unset, .unset, .unset]) (hb hby at_210) rfl rfl _ k) ?_
         have J10 : ∀ (Tj10 : State) (Hj10 : Heap) (lj10 : List Loc) (bc0 : Int32) (bc1 : Int32) (bc2 : Int32), Stand p l e room_1 s m #[(.long i0), (.long i1), (.long i2), (.int i3), (.long i4), (.int i5)] below meth c Tj10 lj10 2 6 → Tj10.heap = Hj10 → Old Z n0 Hj10 → Fr n0 lj10 → Arv Z Hj10 b4 k4 .int (3 : Int32) [(.int g0), (.int g1), (.int g2)] (.int 0) → Arv Z Hj10 b9 k9 .int (3 : Int32) [(.int bc0), (.int bc1), (.int bc2)] (.int 0) → (own_perm bc0 bc1 bc2) → Goes p e below s (Q0 Z i0 i1 i2 i3 i4 i5 h0 n0) room_1.cells room_1.slots (Tj10.setTop (mkF m 260 #[.val (.long i0), .second, .val (.long i1), .second, .val (.long i2), .second, .val (.int i3), .val (.long i4), .second, .val (.int i5), .val (.long ct0), .second, .val (.long ct1), .second, .val (.long ct2), .second, .val (.int mb0), .val (.int mb1), .val (.int mb2), .val (.int p0), .val (.int p1), .val (.int p2), .val (.ref b4), .val (.int n), .val (.long mx2), .second, .val (.long rm), .second, .val (.ref b9), .unset, .unset, .unset, .unset, .unset, .unset, .unset, .unset, .unset, .unset, .unset, .unset, .unset, .unset, .unset] [])) := by
          intro Tj10 Hj10 lj10 bc0 bc1 bc2 Xj10 ej10 Oj10 Nj10 fj10_0 fj10_1 hJ10
          have hpm := hJ10
          refine Goes.step (fun _ k => pw_iconst Xj10.here hx (v := (3 : Int32)) (hb hby at_260) rfl _ k) ?_
          obtain ⟨T11, h11, k11, X11, e11, E11, A11, st11⟩ := newP (aty := .long) Xj10 hx hZ (own_w10 hw) ej10 (g := (mkF m 261 #[.val (.long i0), .second, .val (.long i1), .second, .val (.long i2), .second, .val (.int i3), .val (.long i4), .second, .val (.int i5), .val (.long ct0), .second, .val (.long ct1), .second, .val (.long ct2), .second, .val (.int mb0), .val (.int mb1), .val (.int mb2), .val (.int p0), .val (.int p1), .val (.int p2), .val (.ref b4), .val (.int n), .val (.long mx2), .second, .val (.long rm), .second, .val (.ref b9), .unset, .unset, .unset, .unset, .unset, .unset, .unset, .unset, .unset, .unset, .unset, .unset, .unset, .unset, .unset] [(.int 3)])) rfl (hb hby at_261) rfl (by decide) (cap := 3) (by decide) (by decide) (by decide) (by decide)
          obtain ⟨b11, g11⟩ : ∃ z, z = Hj10.size := ⟨_, rfl⟩
          rw [← g11] at A11 st11
          have ne_b4_b11 : b4 ≠ b11 := Nat.ne_of_lt (Nat.lt_of_lt_of_le fj10_0.lt (Nat.le_of_eq g11.symm))
          have ne_b9_b11 : b9 ≠ b11 := Nat.ne_of_lt (Nat.lt_of_lt_of_le fj10_1.lt (Nat.le_of_eq g11.symm))
          have g_b11 : n0 ≤ b11 := Nat.le_trans (own_z Oj10) (Nat.le_of_eq g11.symm)
          have O_11 := Oj10.ext E11
          have V_b11 : Arv Z h11 b11 k11 .long (3 : Int32) [(.long 0), (.long 0), (.long 0)] (.long 0) := (Arv.new A11 (by decide)).pad (pad_rep [] (.long 0) 3)
          refine Goes.step (B := T11.setTop (mkF m 263 #[.val (.long i0), .second, .val (.long i1), .second, .val (.long i2), .second, .val (.int i3), .val (.long i4), .second, .val (.int i5), .val (.long ct0), .second, .val (.long ct1), .second, .val (.long ct2), .second, .val (.int mb0), .val (.int mb1), .val (.int mb2), .val (.int p0), .val (.int p1), .val (.int p2), .val (.ref b4), .val (.int n), .val (.long mx2), .second, .val (.long rm), .second, .val (.ref b9), .unset, .unset, .unset, .unset, .unset, .unset, .unset, .unset, .unset, .unset, .unset, .unset, .unset, .unset, .unset] [(.ref b11)])) st11 ?_
          refine Goes.step (fun _ k => pw_dup X11.here hx (hb hby at_263) rfl _ (pw_iconst X11.here hx (v := (0 : Int32)) (hb hby at_264) rfl _ (pw_lload X11.here hx (hb hby at_265) rfl _ k))) ?_
          obtain ⟨c12, Ar12, q12, Sz12, Nn12, Hs12, Gs12⟩ := id V_b11
          have hin12 : ¬ ((0 : Int32) < 0 ∨ c12.slots.size ≤ ((0 : Int32)).toNatClampNeg) := inb_of Sz12 ⟨by decide, by decide⟩
          obtain ⟨T12, h12, X12, e12, W12, st12⟩ := stJ X11 hx hZ e11 Ar12 (j := (0 : Int32)) hin12 (g := (mkF m 267 #[.val (.long i0), .second, .val (.long i1), .second, .val (.long i2), .second, .val (.int i3), .val (.long i4), .second, .val (.int i5), .val (.long ct0), .second, .val (.long ct1), .second, .val (.long ct2), .second, .val (.int mb0), .val (.int mb1), .val (.int mb2), .val (.int p0), .val (.int p1), .val (.int p2), .val (.ref b4), .val (.int n), .val (.long mx2), .second, .val (.long rm), .second, .val (.ref b9), .unset, .unset, .unset, .unset, .unset, .unset, .unset, .unset, .unset, .unset, .unset, .unset, .unset, .unset, .unset] [(.long ct0), (.int 0), (.ref b11), (.ref b11)])) rfl rfl (hb hby at_267)
          have V12 : Arv Z h12 b11 k11 .long (3 : Int32) [(.long ct0), (.long 0), (.long 0)] (.long 0) := Arv.set Ar12 q12 Sz12 Nn12 Hs12 Gs12 rfl W12 0 rfl (Nat.le_of_ble_eq_true rfl)
          have N12 := Fr.snoc X12 Nj10 g_b11
          have O_12 := O_11.wr W12 g_b11
          refine Goes.step (B := T12.setTop (mkF m 268 #[.val (.long i0), .second, .val (.long i1), .second, .val (.long i2), .second, .val (.int i3), .val (.long i4), .second, .val (.int i5), .val (.long ct0), .second, .val (.long ct1), .second, .val (.long ct2), .second, .val (.int mb0), .val (.int mb1), .val (.int mb2), .val (.int p0), .val (.int p1), .val (.int p2), .val (.ref b4), .val (.int n), .val (.long mx2), .second, .val (.long rm), .second, .val (.ref b9), .unset, .unset, .unset, .unset, .unset, .unset, .unset, .unset, .unset, .unset, .unset, .unset, .unset, .unset, .unset] [(.ref b11)])) st12 ?_
          refine Goes.step (fun _ k => pw_dup X12.here hx (hb hby at_268) rfl _ (pw_iconst X12.here hx (v := (1 : Int32)) (hb hby at_269) rfl _ (pw_lload X12.here hx (hb hby at_270) rfl _ k))) ?_
          obtain ⟨c13, Ar13, q13, Sz13, Nn13, Hs13, Gs13⟩ := id V12
          have hin13 : ¬ ((1 : Int32) < 0 ∨ c13.slots.size ≤ ((1 : Int32)).toNatClampNeg) := inb_of Sz13 ⟨by decide, by decide⟩
          obtain ⟨T13, h13, X13, e13, W13, st13⟩ := stJ X12 hx hZ e12 Ar13 (j := (1 : Int32)) hin13 (g := (mkF m 272 #[.val (.long i0), .second, .val (.long i1), .second, .val (.long i2), .second, .val (.int i3), .val (.long i4), .second, .val (.int i5), .val (.long ct0), .second, .val (.long ct1), .second, .val (.long ct2), .second, .val (.int mb0), .val (.int mb1), .val (.int mb2), .val (.int p0), .val (.int p1), .val (.int p2), .val (.ref b4), .val (.int n), .val (.long mx2), .second, .val (.long rm), .second, .val (.ref b9), .unset, .unset, .unset, .unset, .unset, .unset, .unset, .unset, .unset, .unset, .unset, .unset, .unset, .unset, .unset] [(.long ct1), (.int 1), (.ref b11), (.ref b11)])) rfl rfl (hb hby at_272)
          have V13 : Arv Z h13 b11 k11 .long (3 : Int32) [(.long ct0), (.long ct1), (.long 0)] (.long 0) := Arv.set Ar13 q13 Sz13 Nn13 Hs13 Gs13 rfl W13 1 rfl (Nat.le_of_ble_eq_true rfl)
          have N13 := Fr.snoc X13 N12 g_b11
          have O_13 := O_12.wr W13 g_b11
          refine Goes.step (B := T13.setTop (mkF m 273 #[.val (.long i0), .second, .val (.long i1), .second, .val (.long i2), .second, .val (.int i3), .val (.long i4), .second, .val (.int i5), .val (.long ct0), .second, .val (.long ct1), .second, .val (.long ct2), .second, .val (.int mb0), .val (.int mb1), .val (.int mb2), .val (.int p0), .val (.int p1), .val (.int p2), .val (.ref b4), .val (.int n), .val (.long mx2), .second, .val (.long rm), .second, .val (.ref b9), .unset, .unset, .unset, .unset, .unset, .unset, .unset, .unset, .unset, .unset, .unset, .unset, .unset, .unset, .unset] [(.ref b11)])) st13 ?_
          refine Goes.step (fun _ k => pw_dup X13.here hx (hb hby at_273) rfl _ (pw_iconst X13.here hx (v := (2 : Int32)) (hb hby at_274) rfl _ (pw_lload X13.here hx (hb hby at_275) rfl _ k))) ?_
          obtain ⟨c14, Ar14, q14, Sz14, Nn14, Hs14, Gs14⟩ := id V13
          have hin14 : ¬ ((2 : Int32) < 0 ∨ c14.slots.size ≤ ((2 : Int32)).toNatClampNeg) := inb_of Sz14 ⟨by decide, by decide⟩
          obtain ⟨T14, h14, X14, e14, W14, st14⟩ := stJ X13 hx hZ e13 Ar14 (j := (2 : Int32)) hin14 (g := (mkF m 277 #[.val (.long i0), .second, .val (.long i1), .second, .val (.long i2), .second, .val (.int i3), .val (.long i4), .second, .val (.int i5), .val (.long ct0), .second, .val (.long ct1), .second, .val (.long ct2), .second, .val (.int mb0), .val (.int mb1), .val (.int mb2), .val (.int p0), .val (.int p1), .val (.int p2), .val (.ref b4), .val (.int n), .val (.long mx2), .second, .val (.long rm), .second, .val (.ref b9), .unset, .unset, .unset, .unset, .unset, .unset, .unset, .unset, .unset, .unset, .unset, .unset, .unset, .unset, .unset] [(.long ct2), (.int 2), (.ref b11), (.ref b11)])) rfl rfl (hb hby at_277)
          have V14 : Arv Z h14 b11 k11 .long (3 : Int32) [(.long ct0), (.long ct1), (.long ct2)] (.long 0) := Arv.set Ar14 q14 Sz14 Nn14 Hs14 Gs14 rfl W14 2 rfl (Nat.le_of_ble_eq_true rfl)
          have N14 := Fr.snoc X14 N13 g_b11
          have O_14 := O_13.wr W14 g_b11
          refine Goes.step (B := T14.setTop (mkF m 278 #[.val (.long i0), .second, .val (.long i1), .second, .val (.long i2), .second, .val (.int i3), .val (.long i4), .second, .val (.int i5), .val (.long ct0), .second, .val (.long ct1), .second, .val (.long ct2), .second, .val (.int mb0), .val (.int mb1), .val (.int mb2), .val (.int p0), .val (.int p1), .val (.int p2), .val (.ref b4), .val (.int n), .val (.long mx2), .second, .val (.long rm), .second, .val (.ref b9), .unset, .unset, .unset, .unset, .unset, .unset, .unset, .unset, .unset, .unset, .unset, .unset, .unset, .unset, .unset] [(.ref b11)])) st14 ?_
          refine Goes.step (fun _ k => pw_astore X14.here hx (l' := #[.val (.long i0), .second, .val (.long i1), .second, .val (.long i2), .second, .val (.int i3), .val (.long i4), .second, .val (.int i5), .val (.long ct0), .second, .val (.long ct1), .second, .val (.long ct2), .second, .val (.int mb0), .val (.int mb1), .val (.int mb2), .val (.int p0), .val (.int p1), .val (.int p2), .val (.ref b4), .val (.int n), .val (.long mx2), .second, .val (.long rm), .second, .val (.ref b9), .val (.ref b11), .unset, .unset, .unset, .unset, .unset, .unset, .unset, .unset, .unset, .unset, .unset, .unset, .unset, .unset]) (hb hby at_278) rfl rfl _ (pw_iconst X14.here hx (v := (3 : Int32)) (hb hby at_280) rfl _ k)) ?_
          obtain ⟨T15, h15, k15, X15, e15, E15, A15, st15⟩ := newP (aty := .int) X14 hx hZ (own_w1 hw) e14 (g := (mkF m 281 #[.val (.long i0), .second, .val (.long i1), .second, .val (.long i2), .second, .val (.int i3), .val (.long i4), .second, .val (.int i5), .val (.long ct0), .second, .val (.long ct1), .second, .val (.long ct2), .second, .val (.int mb0), .val (.int mb1), .val (.int mb2), .val (.int p0), .val (.int p1), .val (.int p2), .val (.ref b4), .val (.int n), .val (.long mx2), .second, .val (.long rm), .second, .val (.ref b9), .val (.ref b11), .unset, .unset, .unset, .unset, .unset, .unset, .unset, .unset, .unset, .unset, .unset, .unset, .unset, .unset] [(.int 3)])) rfl (hb hby at_281) rfl (by decide) (cap := 3) (by decide) (by decide) (by decide) (by decide)
          obtain ⟨b15, g15⟩ : ∃ z, z = h14.size := ⟨_, rfl⟩
          rw [← g15] at A15 st15
          have f16 := ((((fj10_0.ext E11).other W12 ne_b4_b11).other W13 ne_b4_b11).other W14 ne_b4_b11)
          have ne_b4_b15 : b4 ≠ b15 := Nat.ne_of_lt (Nat.lt_of_lt_of_le f16.lt (Nat.le_of_eq g15.symm))
          have f17 := ((((fj10_1.ext E11).other W12 ne_b9_b11).other W13 ne_b9_b11).other W14 ne_b9_b11)
          have ne_b9_b15 : b9 ≠ b15 := Nat.ne_of_lt (Nat.lt_of_lt_of_le f17.lt (Nat.le_of_eq g15.symm))
          have ne_b11_b15 : b11 ≠ b15 := Nat.ne_of_lt (Nat.lt_of_lt_of_le V14.lt (Nat.le_of_eq g15.symm))
          have g_b15 : n0 ≤ b15 := Nat.le_trans (own_z O_14) (Nat.le_of_eq g15.symm)
          have O_15 := O_14.ext E15
          have V_b15 : Arv Z h15 b15 k15 .int (3 : Int32) [(.int 0), (.int 0), (.int 0)] (.int 0) := (Arv.new A15 (by decide)).pad (pad_rep [] (.int 0) 3)
          refine Goes.step (B := T15.setTop (mkF m 283 #[.val (.long i0), .second, .val (.long i1), .second, .val (.long i2), .second, .val (.int i3), .val (.long i4), .second, .val (.int i5), .val (.long ct0), .second, .val (.long ct1), .second, .val (.long ct2), .second, .val (.int mb0), .val (.int mb1), .val (.int mb2), .val (.int p0), .val (.int p1), .val (.int p2), .val (.ref b4), .val (.int n), .val (.long mx2), .second, .val (.long rm), .second, .val (.ref b9), .val (.ref b11), .unset, .unset, .unset, .unset, .unset, .unset, .unset, .unset, .unset, .unset, .unset, .unset, .unset, .unset] [(.ref b15)])) st15 ?_
          refine Goes.step (fun _ k => pw_dup X15.here hx (hb hby at_283) rfl _ (pw_iconst X15.here hx (v := (0 : Int32)) (hb hby at_284) rfl _ (pw_iload X15.here hx (hb hby at_285) rfl _ k))) ?_
          obtain ⟨c18, Ar18, q18, Sz18, Nn18, Hs18, Gs18⟩ := id V_b15
          have hin18 : ¬ ((0 : Int32) < 0 ∨ c18.slots.size ≤ ((0 : Int32)).toNatClampNeg) := inb_of Sz18 ⟨by decide, by decide⟩
          obtain ⟨T18, h18, X18, e18, W18, st18⟩ := stI X15 hx hZ e15 Ar18 (j := (0 : Int32)) hin18 (g := (mkF m 287 #[.val (.long i0), .second, .val (.long i1), .second, .val (.long i2), .second, .val (.int i3), .val (.long i4), .second, .val (.int i5), .val (.long ct0), .second, .val (.long ct1), .second, .val (.long ct2), .second, .val (.int mb0), .val (.int mb1), .val (.int mb2), .val (.int p0), .val (.int p1), .val (.int p2), .val (.ref b4), .val (.int n), .val (.long mx2), .second, .val (.long rm), .second, .val (.ref b9), .val (.ref b11), .unset, .unset, .unset, .unset, .unset, .unset, .unset, .unset, .unset, .unset, .unset, .unset, .unset, .unset] [(.int mb0), (.int 0), (.ref b15), (.ref b15)])) rfl rfl (hb hby at_287)
          have V18 : Arv Z h18 b15 k15 .int (3 : Int32) [(.int mb0), (.int 0), (.int 0)] (.int 0) := Arv.set Ar18 q18 Sz18 Nn18 Hs18 Gs18 rfl W18 0 rfl (Nat.le_of_ble_eq_true rfl)
          have N18 := Fr.snoc X18 N14 g_b15
          have O_18 := O_15.wr W18 g_b15
          refine Goes.step (B := T18.setTop (mkF m 288 #[.val (.long i0), .second, .val (.long i1), .second, .val (.long i2), .second, .val (.int i3), .val (.long i4), .second, .val (.int i5), .val (.long ct0), .second, .val (.long ct1), .second, .val (.long ct2), .second, .val (.int mb0), .val (.int mb1), .val (.int mb2), .val (.int p0), .val (.int p1), .val (.int p2), .val (.ref b4), .val (.int n), .val (.long mx2), .second, .val (.long rm), .second, .val (.ref b9), .val (.ref b11), .unset, .unset, .unset, .unset, .unset, .unset, .unset, .unset, .unset, .unset, .unset, .unset, .unset, .unset] [(.ref b15)])) st18 ?_
          refine Goes.step (fun _ k => pw_dup X18.here hx (hb hby at_288) rfl _ (pw_iconst X18.here hx (v := (1 : Int32)) (hb hby at_289) rfl _ (pw_iload X18.here hx (hb hby at_290) rfl _ k))) ?_
          obtain ⟨c19, Ar19, q19, Sz19, Nn19, Hs19, Gs19⟩ := id V18
          have hin19 : ¬ ((1 : Int32) < 0 ∨ c19.slots.size ≤ ((1 : Int32)).toNatClampNeg) := inb_of Sz19 ⟨by decide, by decide⟩
          obtain ⟨T19, h19, X19, e19, W19, st19⟩ := stI X18 hx hZ e18 Ar19 (j := (1 : Int32)) hin19 (g := (mkF m 292 #[.val (.long i0), .second, .val (.long i1), .second, .val (.long i2), .second, .val (.int i3), .val (.long i4), .second, .val (.int i5), .val (.long ct0), .second, .val (.long ct1), .second, .val (.long ct2), .second, .val (.int mb0), .val (.int mb1), .val (.int mb2), .val (.int p0), .val (.int p1), .val (.int p2), .val (.ref b4), .val (.int n), .val (.long mx2), .second, .val (.long rm), .second, .val (.ref b9), .val (.ref b11), .unset, .unset, .unset, .unset, .unset, .unset, .unset, .unset, .unset, .unset, .unset, .unset, .unset, .unset] [(.int mb1), (.int 1), (.ref b15), (.ref b15)])) rfl rfl (hb hby at_292)
          have V19 : Arv Z h19 b15 k15 .int (3 : Int32) [(.int mb0), (.int mb1), (.int 0)] (.int 0) := Arv.set Ar19 q19 Sz19 Nn19 Hs19 Gs19 rfl W19 1 rfl (Nat.le_of_ble_eq_true rfl)
          have N19 := Fr.snoc X19 N18 g_b15
          have O_19 := O_18.wr W19 g_b15
          refine Goes.step (B := T19.setTop (mkF m 293 #[.val (.long i0), .second, .val (.long i1), .second, .val (.long i2), .second, .val (.int i3), .val (.long i4), .second, .val (.int i5), .val (.long ct0), .second, .val (.long ct1), .second, .val (.long ct2), .second, .val (.int mb0), .val (.int mb1), .val (.int mb2), .val (.int p0), .val (.int p1), .val (.int p2), .val (.ref b4), .val (.int n), .val (.long mx2), .second, .val (.long rm), .second, .val (.ref b9), .val (.ref b11), .unset, .unset, .unset, .unset, .unset, .unset, .unset, .unset, .unset, .unset, .unset, .unset, .unset, .unset] [(.ref b15)])) st19 ?_
          refine Goes.step (fun _ k => pw_dup X19.here hx (hb hby at_293) rfl _ (pw_iconst X19.here hx (v := (2 : Int32)) (hb hby at_294) rfl _ (pw_iload X19.here hx (hb hby at_295) rfl _ k))) ?_
          obtain ⟨c20, Ar20, q20, Sz20, Nn20, Hs20, Gs20⟩ := id V19
          have hin20 : ¬ ((2 : Int32) < 0 ∨ c20.slots.size ≤ ((2 : Int32)).toNatClampNeg) := inb_of Sz20 ⟨by decide, by decide⟩
          obtain ⟨T20, h20, X20, e20, W20, st20⟩ := stI X19 hx hZ e19 Ar20 (j := (2 : Int32)) hin20 (g := (mkF m 297 #[.val (.long i0), .second, .val (.long i1), .second, .val (.long i2), .second, .val (.int i3), .val (.long i4), .second, .val (.int i5), .val (.long ct0), .second, .val (.long ct1), .second, .val (.long ct2), .second, .val (.int mb0), .val (.int mb1), .val (.int mb2), .val (.int p0), .val (.int p1), .val (.int p2), .val (.ref b4), .val (.int n), .val (.long mx2), .second, .val (.long rm), .second, .val (.ref b9), .val (.ref b11), .unset, .unset, .unset, .unset, .unset, .unset, .unset, .unset, .unset, .unset, .unset, .unset, .unset, .unset] [(.int mb2), (.int 2), (.ref b15), (.ref b15)])) rfl rfl (hb hby at_297)
          have V20 : Arv Z h20 b15 k15 .int (3 : Int32) [(.int mb0), (.int mb1), (.int mb2)] (.int 0) := Arv.set Ar20 q20 Sz20 Nn20 Hs20 Gs20 rfl W20 2 rfl (Nat.le_of_ble_eq_true rfl)
          have N20 := Fr.snoc X20 N19 g_b15
          have O_20 := O_19.wr W20 g_b15
          refine Goes.step (B := T20.setTop (mkF m 298 #[.val (.long i0), .second, .val (.long i1), .second, .val (.long i2), .second, .val (.int i3), .val (.long i4), .second, .val (.int i5), .val (.long ct0), .second, .val (.long ct1), .second, .val (.long ct2), .second, .val (.int mb0), .val (.int mb1), .val (.int mb2), .val (.int p0), .val (.int p1), .val (.int p2), .val (.ref b4), .val (.int n), .val (.long mx2), .second, .val (.long rm), .second, .val (.ref b9), .val (.ref b11), .unset, .unset, .unset, .unset, .unset, .unset, .unset, .unset, .unset, .unset, .unset, .unset, .unset, .unset] [(.ref b15)])) st20 ?_
          refine Goes.step (fun _ k => pw_astore X20.here hx (l' := #[.val (.long i0), .second, .val (.long i1), .second, .val (.long i2), .second, .val (.int i3), .val (.long i4), .second, .val (.int i5), .val (.long ct0), .second, .val (.long ct1), .second, .val (.long ct2), .second, .val (.int mb0), .val (.int mb1), .val (.int mb2), .val (.int p0), .val (.int p1), .val (.int p2), .val (.ref b4), .val (.int n), .val (.long mx2), .second, .val (.long rm), .second, .val (.ref b9), .val (.ref b11), .val (.ref b15), .unset, .unset, .unset, .unset, .unset, .unset, .unset, .unset, .unset, .unset, .unset, .unset, .unset]) (hb hby at_298) rfl rfl _ k) ?_
          obtain ⟨T21, h21, X21, e21, E21, A21, D21, -, st21⟩ := newO X20 hx hZ hown (own_w11 hw) (own_w12 hw) (own_w13 hw) e20 (g := (mkF m 300 #[.val (.long i0), .second, .val (.long i1), .second, .val (.long i2), .second, .val (.int i3), .val (.long i4), .second, .val (.int i5), .val (.long ct0), .second, .val (.long ct1), .second, .val (.long ct2), .second, .val (.int mb0), .val (.int mb1), .val (.int mb2), .val (.int p0), .val (.int p1), .val (.int p2), .val (.ref b4), .val (.int n), .val (.long mx2), .second, .val (.long rm), .second, .val (.ref b9), .val (.ref b11), .val (.ref b15), .unset, .unset, .unset, .unset, .unset, .unset, .unset, .unset, .unset, .unset, .unset, .unset, .unset] [])) rfl (hb hby at_300) (by decide) (by decide)
          obtain ⟨b21, g21⟩ : ∃ z, z = h20.size := ⟨_, rfl⟩
          rw [← g21] at A21 D21 st21
          have f22 := ((((f16.ext E15).other W18 ne_b4_b15).other W19 ne_b4_b15).other W20 ne_b4_b15)
          have ne_b4_b21 : b4 ≠ b21 := Nat.ne_of_lt (Nat.lt_of_lt_of_le f22.lt (Nat.le_of_eq g21.symm))
          have f23 := ((((f17.ext E15).other W18 ne_b9_b15).other W19 ne_b9_b15).other W20 ne_b9_b15)
          have ne_b9_b21 : b9 ≠ b21 := Nat.ne_of_lt (Nat.lt_of_lt_of_le f23.lt (Nat.le_of_eq g21.symm))
          have f24 := ((((V14.ext E15).other W18 ne_b11_b15).other W19 ne_b11_b15).other W20 ne_b11_b15)
          have ne_b11_b21 : b11 ≠ b21 := Nat.ne_of_lt (Nat.lt_of_lt_of_le f24.lt (Nat.le_of_eq g21.symm))
          have ne_b15_b21 : b15 ≠ b21 := Nat.ne_of_lt (Nat.lt_of_lt_of_le V20.lt (Nat.le_of_eq g21.symm))
          have g_b21 : n0 ≤ b21 := Nat.le_trans (own_z O_20) (Nat.le_of_eq g21.symm)
          have O_21 := O_20.ext E21
          have F21_reliability : Fld Z h21 b21 "com/example/errantry/errantry/staff/CompletionBounds" "reliability" "[D" .null := D21 (Or.inr (own_w22 hw)) (ty := (.array .double)) (by decide)
          have F21_cost : Fld Z h21 b21 "com/example/errantry/errantry/staff/CompletionBounds" "cost" "[J" .null := D21 (Or.inr (own_w24 hw)) (ty := (.array .long)) (by decide)
          have F21_members : Fld Z h21 b21 "com/example/errantry/errantry/staff/CompletionBounds" "members" "[I" .null := D21 (Or.inr (own_w26 hw)) (ty := (.array .int)) (by decide)
          have F21_byCost : Fld Z h21 b21 "com/example/errantry/errantry/staff/CompletionBounds" "byCost" "[I" .null := D21 (Or.inr (own_w28 hw)) (ty := (.array .int)) (by decide)
          have F21_pooled : Fld Z h21 b21 "com/example/errantry/errantry/staff/CompletionBounds" "pooled" "[Z" .null := D21 (Or.inr (own_w31 hw)) (ty := (.array .boolean)) (by decide)
          have F21_pool : Fld Z h21 b21 "com/example/errantry/errantry/staff/CompletionBounds" "pool" "[I" .null := D21 (Or.inr (own_w33 hw)) (ty := (.array .int)) (by decide)
          have F21_cheapest : Fld Z h21 b21 "com/example/errantry/errantry/staff/CompletionBounds" "cheapest" "[[J" .null := D21 (Or.inr (own_w37 hw)) (ty := (.array (.array .long))) (by decide)
          have F21_places : Fld Z h21 b21 "com/example/errantry/errantry/staff/CompletionBounds" "places" "[[D" .null := D21 (Or.inr (own_w41 hw)) (ty := (.array (.array .double))) (by decide)
          have F21_firstFitting : Fld Z h21 b21 "com/example/errantry/errantry/staff/CompletionBounds" "firstFitting" "[I" .null := D21 (Or.inr (own_w43 hw)) (ty := (.array .int)) (by decide)
          have F21_poolSize : Fld Z h21 b21 "com/example/errantry/errantry/staff/CompletionBounds" "poolSize" "I" (.int 0) := D21 (Or.inl (own_w54 hw)) (ty := .int) (by decide)
          have F21_room : Fld Z h21 b21 "com/example/errantry/errantry/staff/CompletionBounds" "room" "J" (.long 0) := D21 (Or.inl (own_w56 hw)) (ty := .long) (by decide)
          have F21_most : Fld Z h21 b21 "com/example/errantry/errantry/staff/CompletionBounds" "most" "I" (.int 0) := D21 (Or.inl (own_w62 hw)) (ty := .int) (by decide)
          have F21_rowsFilled : Fld Z h21 b21 "com/example/errantry/errantry/staff/CompletionBounds" "rowsFilled" "I" (.int 0) := D21 (Or.inl (own_w68 hw)) (ty := .int) (by decide)
          refine Goes.step (B := T21.setTop (mkF m 303 #[.val (.long i0), .second, .val (.long i1), .second, .val (.long i2), .second, .val (.int i3), .val (.long i4), .second, .val (.int i5), .val (.long ct0), .second, .val (.long ct1), .second, .val (.long ct2), .second, .val (.int mb0), .val (.int mb1), .val (.int mb2), .val (.int p0), .val (.int p1), .val (.int p2), .val (.ref b4), .val (.int n), .val (.long mx2), .second, .val (.long rm), .second, .val (.ref b9), .val (.ref b11), .val (.ref b15), .unset, .unset, .unset, .unset, .unset, .unset, .unset, .unset, .unset, .unset, .unset, .unset, .unset] [(.ref b21)])) st21 ?_
          refine Goes.step (fun _ k => pw_dup X21.here hx (hb hby at_303) rfl _ (pw_iconst X21.here hx (v := (3 : Int32)) (hb hby at_304) rfl _ k)) ?_
          obtain ⟨T25, h25, k25, X25, e25, E25, A25, st25⟩ := newP (aty := .double) X21 hx hZ (own_w14 hw) e21 (g := (mkF m 305 #[.val (.long i0), .second, .val (.long i1), .second, .val (.long i2), .second, .val (.int i3), .val (.long i4), .second, .val (.int i5), .val (.long ct0), .second, .val (.long ct1), .second, .val (.long ct2), .second, .val (.int mb0), .val (.int mb1), .val (.int mb2), .val (.int p0), .val (.int p1), .val (.int p2), .val (.ref b4), .val (.int n), .val (.long mx2), .second, .val (.long rm), .second, .val (.ref b9), .val (.ref b11), .val (.ref b15), .unset, .unset, .unset, .unset, .unset, .unset, .unset, .unset, .unset, .unset, .unset, .unset, .unset] [(.int 3), (.ref b21), (.ref b21)])) rfl (hb hby at_305) rfl (by decide) (cap := 3) (by decide) (by decide) (by decide) (by decide)
          obtain ⟨b25, g25⟩ : ∃ z, z = h21.size := ⟨_, rfl⟩
          rw [← g25] at A25 st25
          have f26 := (f22.ext E21)
          have ne_b4_b25 : b4 ≠ b25 := Nat.ne_of_lt (Nat.lt_of_lt_of_le f26.lt (Nat.le_of_eq g25.symm))
          have f27 := (f23.ext E21)
          have ne_b9_b25 : b9 ≠ b25 := Nat.ne_of_lt (Nat.lt_of_lt_of_le f27.lt (Nat.le_of_eq g25.symm))
          have f28 := (f24.ext E21)
          have ne_b11_b25 : b11 ≠ b25 := Nat.ne_of_lt (Nat.lt_of_lt_of_le f28.lt (Nat.le_of_eq g25.symm))
          have f29 := (V20.ext E21)
          have ne_b15_b25 : b15 ≠ b25 := Nat.ne_of_lt (Nat.lt_of_lt_of_le f29.lt (Nat.le_of_eq g25.symm))
          have ne_b21_b25 : b21 ≠ b25 := Nat.ne_of_lt (Nat.lt_of_lt_of_le A21.lt (Nat.le_of_eq g25.symm))
          have g_b25 : n0 ≤ b25 := Nat.le_trans (own_z O_21) (Nat.le_of_eq g25.symm)
          have O_25 := O_21.ext E25
          have V_b25 : Arv Z h25 b25 k25 .double (3 : Int32) [(.double (0 : UInt64)), (.double (0 : UInt64)), (.double (0 : UInt64))] (.double (0 : UInt64)) := (Arv.new A25 (by decide)).pad (pad_rep [] (.double (0 : UInt64)) 3)
          refine Goes.step (B := T25.setTop (mkF m 307 #[.val (.long i0), .second, .val (.long i1), .second, .val (.long i2), .second, .val (.int i3), .val (.long i4), .second, .val (.int i5), .val (.long ct0), .second, .val (.long ct1), .second, .val (.long ct2), .second, .val (.int mb0), .val (.int mb1), .val (.int mb2), .val (.int p0), .val (.int p1), .val (.int p2), .val (.ref b4), .val (.int n), .val (.long mx2), .second, .val (.long rm), .second, .val (.ref b9), .val (.ref b11), .val (.ref b15), .unset, .unset, .unset, .unset, .unset, .unset, .unset, .unset, .unset, .unset, .unset, .unset, .unset] [(.ref b25), (.ref b21), (.ref b21)])) st25 ?_
          refine Goes.step (fun _ k => pw_aload X25.here hx (hb hby at_307) rfl rfl _ (pw_aload X25.here hx (hb hby at_309) rfl rfl _ (pw_aload X25.here hx (hb hby at_311) rfl rfl _ k))) ?_
          have f31 := (A21.ext E25)
          have f32 := (F21_reliability.ext E25)
          have f33 := (F21_cost.ext E25)
          have f34 := (F21_members.ext E25)
          have f35 := (F21_byCost.ext E25)
          have f36 := (F21_pooled.ext E25)
          have f37 := (F21_pool.ext E25)
          have f38 := (F21_poolSize.ext E25)
          have f39 := (F21_room.ext E25)
          have f40 := (F21_most.ext E25)
          have f41 := (F21_cheapest.ext E25)
          have f42 := (F21_places.ext E25)
          have f43 := (F21_rowsFilled.ext E25)
          have f44 := (F21_firstFitting.ext E25)
          have f45 := (f29.ext E25)
          have f46 := (f26.ext E25)
          have lt_b4_30 := f46.lt
          have f47 := (f27.ext E25)
          have lt_b9_30 := f47.lt
          have f48 := (f28.ext E25)
          have lt_b11_30 := f48.lt
          have lt_b15_30 := f45.lt
          have lt_b21_30 := f31.lt
          have lt_b25_30 := V_b25.lt
          obtain ⟨_, _, ⟨T30, L30, k30, n30⟩, -, X30, ⟨Lc30, hQ30, l30, y30, z30⟩, st30⟩ := X25.specialBack hx (y := (⟨"com/example/errantry/errantry/staff/CompletionBounds", "<init>", "([D[J[I[I)V"⟩ : MethodName)) rfl hown (mvT hZ (own_w15 hw)) (mvT hZ (own_w16 hw)) (mvT hZ (own_w17 hw)) (by decide) (backOf (W := 1) (rmIN l Z a0 hw [] b21 b25 k25 b11 b15 k15 b9 mb0 mb1 mb2 h25 n0 O_25 f31 g_b21 f32 f33 f34 f35 f36 f37 f38 f39 f40 f41 f42 f43 f44 V_b25 f45 hM0 hM1 hM2 (Ne.symm ne_b21_b25) ne_b15_b21) hZ (own_w17 hw) (own_w13 hw) (by decide) (by decide)) (g := (mkF m 313 #[.val (.long i0), .second, .val (.long i1), .second, .val (.long i2), .second, .val (.int i3), .val (.long i4), .second, .val (.int i5), .val (.long ct0), .second, .val (.long ct1), .second, .val (.long ct2), .second, .val (.int mb0), .val (.int mb1), .val (.int mb2), .val (.int p0), .val (.int p1), .val (.int p2), .val (.ref b4), .val (.int n), .val (.long mx2), .second, .val (.long rm), .second, .val (.ref b9), .val (.ref b11), .val (.ref b15), .unset, .unset, .unset, .unset, .unset, .unset, .unset, .unset, .unset, .unset, .unset, .unset, .unset] [(.ref b9), (.ref b15), (.ref b11), (.ref b25), (.ref b21), (.ref b21)])) rfl (by rw [hml]; rfl) (Steps.refl _) (a := b21) (argsL := [(.ref b25), (.ref b11), (.ref b15), (.ref b9)]) (rest := [(.ref b21)]) (lenOf pd_7 rfl) rfl (by show 2 * 0 + _ ≤ _; exact Nat.le_of_eq rfl) (hb hby at_313) (fun _ _ => ⟨rfl, e25, (by decide : 6 + 5 ≤ _), (by decide : 28 + 35 ≤ _)⟩)
          dsimp only [Pt.U, Pt.locs, Pt.cells, Pt.slots] at X30 l30 y30 z30 st30 hQ30
          subst l30 y30 z30
          obtain ⟨rfl, Nq30, Kp30, Ex30, pb30, pl30, ca30, ff30, kb30, kp30, kc30, kf30, zf30, g_pb30, sz_pb30, g_pl30, sz_pl30, g_ca30, sz_ca30, g_ff30, sz_ff30, ne_pb30_pl30, ne_pb30_ca30, ne_pb30_ff30, ne_pl30_ca30, ne_pl30_ff30, ne_ca30_ff30, Ov30, hzf30, F30_cost, F30_members, F30_byCost, F30_pooled, F30_pool, F30_poolSize, F30_room, F30_most, F30_cheapest, F30_rowsFilled, F30_firstFitting, V_pb30, V_pl30, V_ca30, V_ff30⟩ := hQ30
          have ne_b4_pb30 : b4 ≠ pb30 := Nat.ne_of_lt (Nat.lt_of_lt_of_le lt_b4_30 sz_pb30)
          have ne_b9_pb30 : b9 ≠ pb30 := Nat.ne_of_lt (Nat.lt_of_lt_of_le lt_b9_30 sz_pb30)
          have ne_b11_pb30 : b11 ≠ pb30 := Nat.ne_of_lt (Nat.lt_of_lt_of_le lt_b11_30 sz_pb30)
          have ne_b15_pb30 : b15 ≠ pb30 := Nat.ne_of_lt (Nat.lt_of_lt_of_le lt_b15_30 sz_pb30)
          have ne_b21_pb30 : b21 ≠ pb30 := Nat.ne_of_lt (Nat.lt_of_lt_of_le lt_b21_30 sz_pb30)
          have ne_b25_pb30 : b25 ≠ pb30 := Nat.ne_of_lt (Nat.lt_of_lt_of_le lt_b25_30 sz_pb30)
          have ne_b4_pl30 : b4 ≠ pl30 := Nat.ne_of_lt (Nat.lt_of_lt_of_le lt_b4_30 sz_pl30)
          have ne_b9_pl30 : b9 ≠ pl30 := Nat.ne_of_lt (Nat.lt_of_lt_of_le lt_b9_30 sz_pl30)
          have ne_b11_pl30 : b11 ≠ pl30 := Nat.ne_of_lt (Nat.lt_of_lt_of_le lt_b11_30 sz_pl30)
          have ne_b15_pl30 : b15 ≠ pl30 := Nat.ne_of_lt (Nat.lt_of_lt_of_le lt_b15_30 sz_pl30)
          have ne_b21_pl30 : b21 ≠ pl30 := Nat.ne_of_lt (Nat.lt_of_lt_of_le lt_b21_30 sz_pl30)
          have ne_b25_pl30 : b25 ≠ pl30 := Nat.ne_of_lt (Nat.lt_of_lt_of_le lt_b25_30 sz_pl30)
          have ne_b4_ca30 : b4 ≠ ca30 := Nat.ne_of_lt (Nat.lt_of_lt_of_le lt_b4_30 sz_ca30)
          have ne_b9_ca30 : b9 ≠ ca30 := Nat.ne_of_lt (Nat.lt_of_lt_of_le lt_b9_30 sz_ca30)
          have ne_b11_ca30 : b11 ≠ ca30 := Nat.ne_of_lt (Nat.lt_of_lt_of_le lt_b11_30 sz_ca30)
          have ne_b15_ca30 : b15 ≠ ca30 := Nat.ne_of_lt (Nat.lt_of_lt_of_le lt_b15_30 sz_ca30)
          have ne_b21_ca30 : b21 ≠ ca30 := Nat.ne_of_lt (Nat.lt_of_lt_of_le lt_b21_30 sz_ca30)
          have ne_b25_ca30 : b25 ≠ ca30 := Nat.ne_of_lt (Nat.lt_of_lt_of_le lt_b25_30 sz_ca30)
          have ne_b4_ff30 : b4 ≠ ff30 := Nat.ne_of_lt (Nat.lt_of_lt_of_le lt_b4_30 sz_ff30)
          have ne_b9_ff30 : b9 ≠ ff30 := Nat.ne_of_lt (Nat.lt_of_lt_of_le lt_b9_30 sz_ff30)
          have ne_b11_ff30 : b11 ≠ ff30 := Nat.ne_of_lt (Nat.lt_of_lt_of_le lt_b11_30 sz_ff30)
          have ne_b15_ff30 : b15 ≠ ff30 := Nat.ne_of_lt (Nat.lt_of_lt_of_le lt_b15_30 sz_ff30)
          have ne_b21_ff30 : b21 ≠ ff30 := Nat.ne_of_lt (Nat.lt_of_lt_of_le lt_b21_30 sz_ff30)
          have ne_b25_ff30 : b25 ≠ ff30 := Nat.ne_of_lt (Nat.lt_of_lt_of_le lt_b25_30 sz_ff30)
          have O_30 := O_25.keep Kp30 (allS g_b21 all0)
          have N30 := Fr.app N20 Nq30
          refine Goes.via (B := T30.setTop (mkF m 316 #[.val (.long i0), .second, .val (.long i1), .second, .val (.long i2), .second, .val (.int i3), .val (.long i4), .second, .val (.int i5), .val (.long ct0), .second, .val (.long ct1), .second, .val (.long ct2), .second, .val (.int mb0), .val (.int mb1), .val (.int mb2), .val (.int p0), .val (.int p1), .val (.int p2), .val (.ref b4), .val (.int n), .val (.long mx2), .second, .val (.long rm), .second, .val (.ref b9), .val (.ref b11), .val (.ref b15), .unset, .unset, .unset, .unset, .unset, .unset, .unset, .unset, .unset, .unset, .unset, .unset, .unset] [(.ref b21)])) st30 ?_
          refine Goes.step (fun _ k => pw_astore X30.here hx (l' := #[.val (.long i0), .second, .val (.long i1), .second, .val (.long i2), .second, .val (.int i3), .val (.long i4), .second, .val (.int i5), .val (.long ct0), .second, .val (.long ct1), .second, .val (.long ct2), .second, .val (.int mb0), .val (.int mb1), .val (.int mb2), .val (.int p0), .val (.int p1), .val (.int p2), .val (.ref b4), .val (.int n), .val (.long mx2), .second, .val (.long rm), .second, .val (.ref b9), .val (.ref b11), .val (.ref b15), .val (.ref b21), .unset, .unset, .unset, .unset, .unset, .unset, .unset, .unset, .unset, .unset, .unset, .unset]) (hb hby at_316) rfl rfl _ (pw_aload X30.here hx (hb hby at_318) rfl rfl _ (pw_aload X30.here hx (hb hby at_320) rfl rfl _ (pw_iload X30.here hx (hb hby at_322) rfl _ (pw_lload X30.here hx (hb hby at_324) rfl _ k))))) ?_
          have f50 := (f46.keep Kp30 (ninS ne_b4_b21 nin0))
          have f51 := (f47.keep Kp30 (ninS ne_b9_b21 nin0))
          have f52 := (f48.keep Kp30 (ninS ne_b11_b21 nin0))
          have f53 := (f45.keep Kp30 (ninS ne_b15_b21 nin0))
          obtain ⟨cq49, kq49, qa49, qb49, qc49⟩ := isOf hZ rfl Ex30
          obtain ⟨_, _, ⟨T49, L49, k49, n49⟩, -, X49, ⟨Lc49, hQ49, l49, y49, z49⟩, st49⟩ := X30.virtualBack hx (y := (⟨"com/example/errantry/errantry/staff/CompletionBounds", "reset", "([IIJ)V"⟩ : MethodName)) (z := (⟨"com/example/errantry/errantry/staff/CompletionBounds", "reset", "([IIJ)V"⟩ : MethodName)) hown (mvT hZ (own_w44 hw)) (mvT hZ (own_w45 hw)) (notFace_of_selects (args := #[]) (mvT hZ (own_w47 hw))) (mvT hZ (own_w47 hw)) (mvT hZ (own_w46 hw)) (by decide) (backOf (W := 0) (rmRS l Z a0 hw [] b21 b4 k4 pl30 kp30 pb30 kb30 b9 k9 b11 k11 b15 k15 ca30 kc30 ff30 kf30 zf30 ct0 ct1 ct2 mb0 mb1 mb2 bc0 bc1 bc2 g0 g1 g2 n rm T30.heap n0 O_30 Ex30 g_b21 g_pl30 g_pb30 g_ca30 g_ff30 F30_pooled F30_pool F30_byCost F30_cost F30_members F30_cheapest F30_firstFitting F30_poolSize F30_room F30_most F30_rowsFilled f50 V_pl30 V_pb30 f51 f52 f53 V_ca30 V_ff30 Ov30 ⟨by have q := hzf30; omega, by have q := hzf30; omega⟩ (Ne.symm ne_b4_b21) ne_b21_pl30 ne_b21_pb30 (Ne.symm ne_b9_b21) (Ne.symm ne_b11_b21) (Ne.symm ne_b15_b21) ne_b21_ca30 ne_b21_ff30 ne_b4_pl30 ne_b4_pb30 ne_b4_ca30 ne_b4_ff30 (Ne.symm ne_pb30_pl30) (Ne.symm ne_b9_pl30) (Ne.symm ne_b11_pl30) (Ne.symm ne_b15_pl30) ne_pl30_ca30 ne_pl30_ff30 (Ne.symm ne_b9_pb30) (Ne.symm ne_b11_pb30) (Ne.symm ne_b15_pb30) ne_pb30_ca30 ne_pb30_ff30 ne_b9_ca30 ne_b9_ff30 ne_b11_ca30 ne_b11_ff30 ne_b15_ca30 ne_b15_ff30 ne_ca30_ff30 hn hx0 hx1 hx2 hpm hr hC0 hC1 hC2 hM0 hM1 hM2) hZ (own_w48 hw) (own_w13 hw) (by decide) (by decide)) qa49 qc49 (g := (mkF m 326 #[.val (.long i0), .second, .val (.long i1), .second, .val (.long i2), .second, .val (.int i3), .val (.long i4), .second, .val (.int i5), .val (.long ct0), .second, .val (.long ct1), .second, .val (.long ct2), .second, .val (.int mb0), .val (.int mb1), .val (.int mb2), .val (.int p0), .val (.int p1), .val (.int p2), .val (.ref b4), .val (.int n), .val (.long mx2), .second, .val (.long rm), .second, .val (.ref b9), .val (.ref b11), .val (.ref b15), .val (.ref b21), .unset, .unset, .unset, .unset, .unset, .unset, .unset, .unset, .unset, .unset, .unset, .unset] [(.long rm), (.int n), (.ref b4), (.ref b21)])) rfl (by rw [hml]; rfl) (Steps.refl _) (argsL := [(.ref b4), (.int n), (.long rm)]) (rest := []) (lenOf pd_8 rfl) rfl (by show 2 * 0 + _ ≤ _; exact Nat.le_of_eq rfl) (hb hby at_326) (fun _ _ => ⟨rfl, rfl, (by decide : 11 + 4 ≤ _), (by decide : 63 + 52 ≤ _)⟩)
          dsimp only [Pt.U, Pt.locs, Pt.cells, Pt.slots] at X49 l49 y49 z49 st49 hQ49
          subst l49 y49 z49
          obtain ⟨rfl, Nq49, Kp49, mo49, rl49, rn49, kr49, B49, el49, t49, ma49, mb49_, mc49, Ex49, Fc49, Fp49, Fm49, Vc49, hrl49, Vr49, hR49, hCh49⟩ := hQ49
          have O_49 := O_30.keep Kp49 (allS g_b21 (allS g_pl30 (allS g_pb30 (allS g_ca30 (allS g_ff30 all0)))))
          have N49 := Fr.app N30 Nq49
          refine Goes.via (B := T49.setTop (mkF m 329 #[.val (.long i0), .second, .val (.long i1), .second, .val (.long i2), .second, .val (.int i3), .val (.long i4), .second, .val (.int i5), .val (.long ct0), .second, .val (.long ct1), .second, .val (.long ct2), .second, .val (.int mb0), .val (.int mb1), .val (.int mb2), .val (.int p0), .val (.int p1), .val (.int p2), .val (.ref b4), .val (.int n), .val (.long mx2), .second, .val (.long rm), .second, .val (.ref b9), .val (.ref b11), .val (.ref b15), .val (.ref b21), .unset, .unset, .unset, .unset, .unset, .unset, .unset, .unset, .unset, .unset, .unset, .unset] [])) st49 ?_
          refine Goes.step (fun _ k => pw_aload X49.here hx (hb hby at_329) rfl rfl _ k) ?_
          obtain ⟨cq54, kq54, qa54, qb54, qc54⟩ := isOf hZ rfl Ex49
          obtain ⟨_, _, ⟨T54, L54, k54, n54⟩, -, X54, ⟨Lc54, hQ54, l54, y54, z54⟩, st54⟩ := X49.virtualBack hx (y := (⟨"com/example/errantry/errantry/staff/CompletionBounds", "most", "()I"⟩ : MethodName)) (z := (⟨"com/example/errantry/errantry/staff/CompletionBounds", "most", "()I"⟩ : MethodName)) hown (mvT hZ (own_w73 hw)) (mvT hZ (own_w74 hw)) (notFace_of_selects (args := #[]) (mvT hZ (own_w76 hw))) (mvT hZ (own_w76 hw)) (mvT hZ (own_w75 hw)) (by decide) (backOf (W := 0) (rm9 l Z a0 hw [] b21 mo49 T49.heap n0 O_49 Fm49) hZ (own_w77 hw) (own_w13 hw) (by decide) (by decide)) qa54 qc54 (g := (mkF m 331 #[.val (.long i0), .second, .val (.long i1), .second, .val (.long i2), .second, .val (.int i3), .val (.long i4), .second, .val (.int i5), .val (.long ct0), .second, .val (.long ct1), .second, .val (.long ct2), .second, .val (.int mb0), .val (.int mb1), .val (.int mb2), .val (.int p0), .val (.int p1), .val (.int p2), .val (.ref b4), .val (.int n), .val (.long mx2), .second, .val (.long rm), .second, .val (.ref b9), .val (.ref b11), .val (.ref b15), .val (.ref b21), .unset, .unset, .unset, .unset, .unset, .unset, .unset, .unset, .unset, .unset, .unset, .unset] [(.ref b21)])) rfl (by rw [hml]; rfl) (Steps.refl _) (argsL := []) (rest := []) (lenOf pd_9 rfl) rfl (by show 2 * 0 + _ ≤ _; exact Nat.le_of_eq rfl) (hb hby at_331) (fun _ _ => ⟨rfl, rfl, (by decide : 15 + 0 ≤ _), (by decide : 115 + 0 ≤ _)⟩)
          dsimp only [Pt.U, Pt.locs, Pt.cells, Pt.slots] at X54 l54 y54 z54 st54 hQ54
          subst l54 y54 z54
          obtain ⟨rfl, Nq54, eh54⟩ := hQ54
          have N54 := Fr.app N49 Nq54
          refine Goes.via (B := T54.setTop (mkF m 334 #[.val (.long i0), .second, .val (.long i1), .second, .val (.long i2), .second, .val (.int i3), .val (.long i4), .second, .val (.int i5), .val (.long ct0), .second, .val (.long ct1), .second, .val (.long ct2), .second, .val (.int mb0), .val (.int mb1), .val (.int mb2), .val (.int p0), .val (.int p1), .val (.int p2), .val (.ref b4), .val (.int n), .val (.long mx2), .second, .val (.long rm), .second, .val (.ref b9), .val (.ref b11), .val (.ref b15), .val (.ref b21), .unset, .unset, .unset, .unset, .unset, .unset, .unset, .unset, .unset, .unset, .unset, .unset] [(.int mo49)])) st54 ?_
          have hnz := own_nz ma49 mb49_
          have tz := own_p1 (a := mo49) (by have q := mb49_; omega)
          have hpn : ¬ n < 0 ∧ n < (4 : Int32) := ⟨own_nlt (by rw [own_i0]; exact hn.1), own_lt (by rw [show (4 : Int32).toInt = 4 from by decide]; have q := hn.2; omega)⟩
          refine Goes.step (fun _ k => pw_istore X54.here hx (l' := #[.val (.long i0), .second, .val (.long i1), .second, .val (.long i2), .second, .val (.int i3), .val (.long i4), .second, .val (.int i5), .val (.long ct0), .second, .val (.long ct1), .second, .val (.long ct2), .second, .val (.int mb0), .val (.int mb1), .val (.int mb2), .val (.int p0), .val (.int p1), .val (.int p2), .val (.ref b4), .val (.int n), .val (.long mx2), .second, .val (.long rm), .second, .val (.ref b9), .val (.ref b11), .val (.ref b15), .val (.ref b21), .val (.int mo49), .unset, .unset, .unset, .unset, .unset, .unset, .unset, .unset, .unset, .unset, .unset]) (hb hby at_334) rfl _ (pw_iload X54.here hx (hb hby at_336) rfl _ k)) ?_
          refine Goes.step (B := T54.setTop (mkF m 340 #[.val (.long i0), .second, .val (.long i1), .second, .val (.long i2), .second, .val (.int i3), .val (.long i4), .second, .val (.int i5), .val (.long ct0), .second, .val (.long ct1), .second, .val (.long ct2), .second, .val (.int mb0), .val (.int mb1), .val (.int mb2), .val (.int p0), .val (.int p1), .val (.int p2), .val (.ref b4), .val (.int n), .val (.long mx2), .second, .val (.long rm), .second, .val (.ref b9), .val (.ref b11), .val (.ref b15), .val (.ref b21), .val (.int mo49), .unset, .unset, .unset, .unset, .unset, .unset, .unset, .unset, .unset, .unset, .unset] [(.int 2147483647), (.int i5)])) (X54.ldcInt hx hown (mvT hZ (own_w78 hw)) (g := (mkF m 338 #[.val (.long i0), .second, .val (.long i1), .second, .val (.long i2), .second, .val (.int i3), .val (.long i4), .second, .val (.int i5), .val (.long ct0), .second, .val (.long ct1), .second, .val (.long ct2), .second, .val (.int mb0), .val (.int mb1), .val (.int mb2), .val (.int p0), .val (.int p1), .val (.int p2), .val (.ref b4), .val (.int n), .val (.long mx2), .second, .val (.long rm), .second, .val (.ref b9), .val (.ref b11), .val (.ref b15), .val (.ref b21), .val (.int mo49), .unset, .unset, .unset, .unset, .unset, .unset, .unset, .unset, .unset, .unset, .unset] [(.int i5)])) rfl (hb hby at_338)) ?_
          refine Goes.step (fun _ k => pw_iand X54.here hx (hb hby at_340) _ (pw_iload X54.here hx (hb hby at_341) rfl _ (pw_iconst X54.here hx (v := (1 : Int32)) (hb hby at_343) rfl _ (pw_iadd X54.here hx (hb hby at_344) _ k)))) ?_
          refine Goes.step (B := T54.setTop (mkF m 346 #[.val (.long i0), .second, .val (.long i1), .second, .val (.long i2), .second, .val (.int i3), .val (.long i4), .second, .val (.int i5), .val (.long ct0), .second, .val (.long ct1), .second, .val (.long ct2), .second, .val (.int mb0), .val (.int mb1), .val (.int mb2), .val (.int p0), .val (.int p1), .val (.int p2), .val (.ref b4), .val (.int n), .val (.long mx2), .second, .val (.long rm), .second, .val (.ref b9), .val (.ref b11), .val (.ref b15), .val (.ref b21), .val (.int mo49), .unset, .unset, .unset, .unset, .unset, .unset, .unset, .unset, .unset, .unset, .unset] [(.int ((i5 &&& (2147483647 : Int32)) % (mo49 + (1 : Int32))))])) (fun _ k => iremM X54 hx rfl (hb hby at_345) rfl hnz k) ?_
          obtain ⟨kk, hkd⟩ : ∃ z, z = ((i5 &&& (2147483647 : Int32)) % (mo49 + (1 : Int32))) := ⟨_, rfl⟩
          rw [← hkd]
          have hkb := own_kb ma49 mb49_ hkd
          have hkk : ¬ kk < 0 ∧ kk < (mo49 + (1 : Int32)) := ⟨own_nlt (by rw [own_i0]; exact hkb.1), own_lt (by have q := hkb.2; omega)⟩
          refine Goes.step (fun _ k => pw_istore X54.here hx (l' := #[.val (.long i0), .second, .val (.long i1), .second, .val (.long i2), .second, .val (.int i3), .val (.long i4), .second, .val (.int i5), .val (.long ct0), .second, .val (.long ct1), .second, .val (.long ct2), .second, .val (.int mb0), .val (.int mb1), .val (.int mb2), .val (.int p0), .val (.int p1), .val (.int p2), .val (.ref b4), .val (.int n), .val (.long mx2), .second, .val (.long rm), .second, .val (.ref b9), .val (.ref b11), .val (.ref b15), .val (.ref b21), .val (.int mo49), .val (.int kk), .unset, .unset, .unset, .unset, .unset, .unset, .unset, .unset, .unset, .unset]) (hb hby at_346) rfl _ (pw_aload X54.here hx (hb hby at_348) rfl rfl _ (pw_iload X54.here hx (hb hby at_350) rfl _ k))) ?_
          obtain ⟨cq55, kq55, qa55, qb55, qc55⟩ := isOf hZ eh54 Ex49
          obtain ⟨_, _, ⟨T55, L55, k55, n55⟩, -, X55, ⟨Lc55, hQ55, l55, y55, z55⟩, st55⟩ := X54.virtualBack hx (y := (⟨"com/example/errantry/errantry/staff/CompletionBounds", "cheapest", "(I)J"⟩ : MethodName)) (z := (⟨"com/example/errantry/errantry/staff/CompletionBounds", "cheapest", "(I)J"⟩ : MethodName)) hown (mvT hZ (own_w79 hw)) (mvT hZ (own_w80 hw)) (notFace_of_selects (args := #[]) (mvT hZ (own_w82 hw))) (mvT hZ (own_w82 hw)) (mvT hZ (own_w81 hw)) (by decide) (backOf (W := 0) (rmCH l Z a0 hw [] b21 ca30 kc30 rl49 rn49 kr49 (mo49 + (1 : Int32)) B49 n kk T49.heap n0 O_49 Fc49 Fp49 Vc49 hrl49 hpn Vr49 hkk) hZ (own_w83 hw) (own_w13 hw) (by decide) (by decide)) qa55 qc55 (g := (mkF m 352 #[.val (.long i0), .second, .val (.long i1), .second, .val (.long i2), .second, .val (.int i3), .val (.long i4), .second, .val (.int i5), .val (.long ct0), .second, .val (.long ct1), .second, .val (.long ct2), .second, .val (.int mb0), .val (.int mb1), .val (.int mb2), .val (.int p0), .val (.int p1), .val (.int p2), .val (.ref b4), .val (.int n), .val (.long mx2), .second, .val (.long rm), .second, .val (.ref b9), .val (.ref b11), .val (.ref b15), .val (.ref b21), .val (.int mo49), .val (.int kk), .unset, .unset, .unset, .unset, .unset, .unset, .unset, .unset, .unset, .unset] [(.int kk), (.ref b21)])) rfl (by rw [hml]; rfl) (Steps.refl _) (argsL := [(.int kk)]) (rest := []) (lenOf pd_10 rfl) rfl (by show 2 * 0 + _ ≤ _; exact Nat.le_of_eq rfl) (hb hby at_352) (fun _ _ => ⟨rfl, eh54, (by decide : 15 + 0 ≤ _), (by decide : 115 + 0 ≤ _)⟩)
          dsimp only [Pt.U, Pt.locs, Pt.cells, Pt.slots] at X55 l55 y55 z55 st55 hQ55
          subst l55 y55 z55
          obtain ⟨rfl, Nq55, eh55⟩ := hQ55
          have N55 := Fr.app N54 Nq55
          refine Goes.via (B := T55.setTop (mkF m 355 #[.val (.long i0), .second, .val (.long i1), .second, .val (.long i2), .second, .val (.int i3), .val (.long i4), .second, .val (.int i5), .val (.long ct0), .second, .val (.long ct1), .second, .val (.long ct2), .second, .val (.int mb0), .val (.int mb1), .val (.int mb2), .val (.int p0), .val (.int p1), .val (.int p2), .val (.ref b4), .val (.int n), .val (.long mx2), .second, .val (.long rm), .second, .val (.ref b9), .val (.ref b11), .val (.ref b15), .val (.ref b21), .val (.int mo49), .val (.int kk), .unset, .unset, .unset, .unset, .unset, .unset, .unset, .unset, .unset, .unset] [(.long (B49.getD kk.toNatClampNeg 0))])) st55 ?_
          refine Goes.step (fun _ k => pw_lstore X55.here hx (l' := #[.val (.long i0), .second, .val (.long i1), .second, .val (.long i2), .second, .val (.int i3), .val (.long i4), .second, .val (.int i5), .val (.long ct0), .second, .val (.long ct1), .second, .val (.long ct2), .second, .val (.int mb0), .val (.int mb1), .val (.int mb2), .val (.int p0), .val (.int p1), .val (.int p2), .val (.ref b4), .val (.int n), .val (.long mx2), .second, .val (.long rm), .second, .val (.ref b9), .val (.ref b11), .val (.ref b15), .val (.ref b21), .val (.int mo49), .val (.int kk), .val (.long (B49.getD kk.toNatClampNeg 0)), .second, .unset, .unset, .unset, .unset, .unset, .unset, .unset, .unset]) (hb hby at_355) rfl _ k) ?_
          have J56 : ∀ (ee0 : Int32), ee0 = own_e p0 mb0 → Goes p e below s (Q0 Z i0 i1 i2 i3 i4 i5 h0 n0) room_1.cells room_1.slots (T55.setTop (mkF m 370 #[.val (.long i0), .second, .val (.long i1), .second, .val (.long i2), .second, .val (.int i3), .val (.long i4), .second, .val (.int i5), .val (.long ct0), .second, .val (.long ct1), .second, .val (.long ct2), .second, .val (.int mb0), .val (.int mb1), .val (.int mb2), .val (.int p0), .val (.int p1), .val (.int p2), .val (.ref b4), .val (.int n), .val (.long mx2), .second, .val (.long rm), .second, .val (.ref b9), .val (.ref b11), .val (.ref b15), .val (.ref b21), .val (.int mo49), .val (.int kk), .val (.long (B49.getD kk.toNatClampNeg 0)), .second, .val (.int ee0), .unset, .unset, .unset, .unset, .unset, .unset, .unset] [])) := by
           intro ee0 hee0
           have J57 : ∀ (ee1 : Int32), ee1 = own_e p1 mb1 → Goes p e below s (Q0 Z i0 i1 i2 i3 i4 i5 h0 n0) room_1.cells room_1.slots (T55.setTop (mkF m 383 #[.val (.long i0), .second, .val (.long i1), .second, .val (.long i2), .second, .val (.int i3), .val (.long i4), .second, .val (.int i5), .val (.long ct0), .second, .val (.long ct1), .second, .val (.long ct2), .second, .val (.int mb0), .val (.int mb1), .val (.int mb2), .val (.int p0), .val (.int p1), .val (.int p2), .val (.ref b4), .val (.int n), .val (.long mx2), .second, .val (.long rm), .second, .val (.ref b9), .val (.ref b11), .val (.ref b15), .val (.ref b21), .val (.int mo49), .val (.int kk), .val (.long (B49.getD kk.toNatClampNeg 0)), .second, .val (.int ee0), .val (.int ee1), .unset, .unset, .unset, .unset, .unset, .unset] [])) := by
            intro ee1 hee1
            have J58 : ∀ (ee2 : Int32), ee2 = own_e p2 mb2 → Goes p e below s (Q0 Z i0 i1 i2 i3 i4 i5 h0 n0) room_1.cells room_1.slots (T55.setTop (mkF m 396 #[.val (.long i0), .second, .val (.long i1), .second, .val (.long i2), .second, .val (.int i3), .val (.long i4), .second, .val (.int i5), .val (.long ct0), .second, .val (.long ct1), .second, .val (.long ct2), .second, .val (.int mb0), .val (.int mb1), .val (.int mb2), .val (.int p0), .val (.int p1), .val (.int p2), .val (.ref b4), .val (.int n), .val (.long mx2), .second, .val (.long rm), .second, .val (.ref b9), .val (.ref b11), .val (.ref b15), .val (.ref b21), .val (.int mo49), .val (.int kk), .val (.long (B49.getD kk.toNatClampNeg 0)), .second, .val (.int ee0), .val (.int ee1), .val (.int ee2), .unset, .unset, .unset, .unset, .unset] [])) := by
             intro ee2 hee2
             refine Goes.step (fun _ k => pw_lload X55.here hx (hb hby at_396) rfl _ (pw_iconst X55.here hx (v := (0 : Int32)) (hb hby at_398) rfl _ (pw_lload X55.here hx (hb hby at_399) rfl _ (pw_iconst X55.here hx (v := (1 : Int32)) (hb hby at_401) rfl _ (pw_iload X55.here hx (hb hby at_402) rfl _ (pw_lload X55.here hx (hb hby at_404) rfl _ k)))))) ?_
             refine Goes.step (fun _ k => pw_iconst X55.here hx (v := (2 : Int32)) (hb hby at_406) rfl _ (pw_iload X55.here hx (hb hby at_407) rfl _ k)) ?_
             obtain ⟨_, _, ⟨T59, L59, k59, n59⟩, -, X59, ⟨Lc59, hQ59, l59, y59, z59⟩, st59⟩ := Jvm.LawKit.callS X55 hx (y := (⟨"com/example/errantry/errantry/staff/CompletionBoundsCheapestPinLaw", "ahead", "(JIJIIJII)I"⟩ : MethodName)) hown (mvT hZ (own_w84 hw)) (mvT hZ (own_w85 hw)) (mvT hZ (own_w5 hw)) (mvT hZ (own_w86 hw)) (by decide) (backOf (W := 0) (rm11 l Z a0 hw [] ct0 (0 : Int32) ct1 (1 : Int32) ee1 ct2 (2 : Int32) ee2 T49.heap n0 O_49 ) hZ (own_w86 hw) (own_w5 hw) (by decide) (by decide)) (g := (mkF m 409 #[.val (.long i0), .second, .val (.long i1), .second, .val (.long i2), .second, .val (.int i3), .val (.long i4), .second, .val (.int i5), .val (.long ct0), .second, .val (.long ct1), .second, .val (.long ct2), .second, .val (.int mb0), .val (.int mb1), .val (.int mb2), .val (.int p0), .val (.int p1), .val (.int p2), .val (.ref b4), .val (.int n), .val (.long mx2), .second, .val (.long rm), .second, .val (.ref b9), .val (.ref b11), .val (.ref b15), .val (.ref b21), .val (.int mo49), .val (.int kk), .val (.long (B49.getD kk.toNatClampNeg 0)), .second, .val (.int ee0), .val (.int ee1), .val (.int ee2), .unset, .unset, .unset, .unset, .unset] [(.int ee2), (.int 2), (.long ct2), (.int ee1), (.int 1), (.long ct1), (.int 0), (.long ct0)])) rfl (by rw [hml]; rfl) (argsL := [(.long ct0), (.int 0), (.long ct1), (.int 1), (.int ee1), (.long ct2), (.int 2), (.int ee2)]) (rest := []) (lenOf pd_11 rfl) rfl (by show 2 * 0 + _ ≤ _; exact Nat.le_of_eq rfl) (hb hby at_409) (fun _ _ => ⟨rfl, eh55, (by decide : 15 + 0 ≤ _), (by decide : 115 + 0 ≤ _)⟩)
             dsimp only [Pt.U, Pt.locs, Pt.cells, Pt.slots] at X59 l59 y59 z59 st59 hQ59
             subst l59 y59 z59
             obtain ⟨rfl, Nq59, eh59⟩ := hQ59
             have N59 := Fr.app N55 Nq59
             refine Goes.step (B := T59.setTop (mkF m 412 #[.val (.long i0), .second, .val (.long i1), .second, .val (.long i2), .second, .val (.int i3), .val (.long i4), .second, .val (.int i5), .val (.long ct0), .second, .val (.long ct1), .second, .val (.long ct2), .second, .val (.int mb0), .val (.int mb1), .val (.int mb2), .val (.int p0), .val (.int p1), .val (.int p2), .val (.ref b4), .val (.int n), .val (.long mx2), .second, .val (.long rm), .second, .val (.ref b9), .val (.ref b11), .val (.ref b15), .val (.ref b21), .val (.int mo49), .val (.int kk), .val (.long (B49.getD kk.toNatClampNeg 0)), .second, .val (.int ee0), .val (.int ee1), .val (.int ee2), .unset, .unset, .unset, .unset, .unset] [(.int (own_ahd ct0 (0 : Int32) ct1 (1 : Int32) ee1 ct2 (2 : Int32) ee2))])) st59 ?_
             refine Goes.step (fun _ k => pw_istore X59.here hx (l' := #[.val (.long i0), .second, .val (.long i1), .second, .val (.long i2), .second, .val (.int i3), .val (.long i4), .second, .val (.int i5), .val (.long ct0), .second, .val (.long ct1), .second, .val (.long ct2), .second, .val (.int mb0), .val (.int mb1), .val (.int mb2), .val (.int p0), .val (.int p1), .val (.int p2), .val (.ref b4), .val (.int n), .val (.long mx2), .second, .val (.long rm), .second, .val (.ref b9), .val (.ref b11), .val (.ref b15), .val (.ref b21), .val (.int mo49), .val (.int kk), .val (.long (B49.getD kk.toNatClampNeg 0)), .second, .val (.int ee0), .val (.int ee1), .val (.int ee2), .val (.int (own_ahd ct0 (0 : Int32) ct1 (1 : Int32) ee1 ct2 (2 : Int32) ee2)), .unset, .unset, .unset, .unset]) (hb hby at_412) rfl _ (pw_lload X59.here hx (hb hby at_414) rfl _ (pw_iconst X59.here hx (v := (1 : Int32)) (hb hby at_416) rfl _ (pw_lload X59.here hx (hb hby at_417) rfl _ (pw_iconst X59.here hx (v := (0 : Int32)) (hb hby at_419) rfl _ (pw_iload X59.here hx (hb hby at_420) rfl _ k)))))) ?_
             refine Goes.step (fun _ k => pw_lload X59.here hx (hb hby at_422) rfl _ (pw_iconst X59.here hx (v := (2 : Int32)) (hb hby at_424) rfl _ (pw_iload X59.here hx (hb hby at_425) rfl _ k))) ?_
             obtain ⟨_, _, ⟨T60, L60, k60, n60⟩, -, X60, ⟨Lc60, hQ60, l60, y60, z60⟩, st60⟩ := Jvm.LawKit.callS X59 hx (y := (⟨"com/example/errantry/errantry/staff/CompletionBoundsCheapestPinLaw", "ahead", "(JIJIIJII)I"⟩ : MethodName)) hown (mvT hZ (own_w84 hw)) (mvT hZ (own_w85 hw)) (mvT hZ (own_w5 hw)) (mvT hZ (own_w86 hw)) (by decide) (backOf (W := 0) (rm11 l Z a0 hw [] ct1 (1 : Int32) ct0 (0 : Int32) ee0 ct2 (2 : Int32) ee2 T49.heap n0 O_49 ) hZ (own_w86 hw) (own_w5 hw) (by decide) (by decide)) (g := (mkF m 427 #[.val (.long i0), .second, .val (.long i1), .second, .val (.long i2), .second, .val (.int i3), .val (.long i4), .second, .val (.int i5), .val (.long ct0), .second, .val (.long ct1), .second, .val (.long ct2), .second, .val (.int mb0), .val (.int mb1), .val (.int mb2), .val (.int p0), .val (.int p1), .val (.int p2), .val (.ref b4), .val (.int n), .val (.long mx2), .second, .val (.long rm), .second, .val (.ref b9), .val (.ref b11), .val (.ref b15), .val (.ref b21), .val (.int mo49), .val (.int kk), .val (.long (B49.getD kk.toNatClampNeg 0)), .second, .val (.int ee0), .val (.int ee1), .val (.int ee2), .val (.int (own_ahd ct0 (0 : Int32) ct1 (1 : Int32) ee1 ct2 (2 : Int32) ee2)), .unset, .unset, .unset, .unset] [(.int ee2), (.int 2), (.long ct2), (.int ee0), (.int 0), (.long ct0), (.int 1), (.long ct1)])) rfl (by rw [hml]; rfl) (argsL := [(.long ct1), (.int 1), (.long ct0), (.int 0), (.int ee0), (.long ct2), (.int 2), (.int ee2)]) (rest := []) (lenOf pd_11 rfl) rfl (by show 2 * 0 + _ ≤ _; exact Nat.le_of_eq rfl) (hb hby at_427) (fun _ _ => ⟨rfl, eh59, (by decide : 15 + 0 ≤ _), (by decide : 115 + 0 ≤ _)⟩)
             dsimp only [Pt.U, Pt.locs, Pt.cells, Pt.slots] at X60 l60 y60 z60 st60 hQ60
             subst l60 y60 z60
             obtain ⟨rfl, Nq60, eh60⟩ := hQ60
             have N60 := Fr.app N59 Nq60
             refine Goes.step (B := T60.setTop (mkF m 430 #[.val (.long i0), .second, .val (.long i1), .second, .val (.long i2), .second, .val (.int i3), .val (.long i4), .second, .val (.int i5), .val (.long ct0), .second, .val (.long ct1), .second, .val (.long ct2), .second, .val (.int mb0), .val (.int mb1), .val (.int mb2), .val (.int p0), .val (.int p1), .val (.int p2), .val (.ref b4), .val (.int n), .val (.long mx2), .second, .val (.long rm), .second, .val (.ref b9), .val (.ref b11), .val (.ref b15), .val (.ref b21), .val (.int mo49), .val (.int kk), .val (.long (B49.getD kk.toNatClampNeg 0)), .second, .val (.int ee0), .val (.int ee1), .val (.int ee2), .val (.int (own_ahd ct0 (0 : Int32) ct1 (1 : Int32) ee1 ct2 (2 : Int32) ee2)), .unset, .unset, .unset, .unset] [(.int (own_ahd ct1 (1 : Int32) ct0 (0 : Int32) ee0 ct2 (2 : Int32) ee2))])) st60 ?_
             refine Goes.step (fun _ k => pw_istore X60.here hx (l' := #[.val (.long i0), .second, .val (.long i1), .second, .val (.long i2), .second, .val (.int i3), .val (.long i4), .second, .val (.int i5), .val (.long ct0), .second, .val (.long ct1), .second, .val (.long ct2), .second, .val (.int mb0), .val (.int mb1), .val (.int mb2), .val (.int p0), .val (.int p1), .val (.int p2), .val (.ref b4), .val (.int n), .val (.long mx2), .second, .val (.long rm), .second, .val (.ref b9), .val (.ref b11), .val (.ref b15), .val (.ref b21), .val (.int mo49), .val (.int kk), .val (.long (B49.getD kk.toNatClampNeg 0)), .second, .val (.int ee0), .val (.int ee1), .val (.int ee2), .val (.int (own_ahd ct0 (0 : Int32) ct1 (1 : Int32) ee1 ct2 (2 : Int32) ee2)), .val (.int (own_ahd ct1 (1 : Int32) ct0 (0 : Int32) ee0 ct2 (2 : Int32) ee2)), .unset, .unset, .unset]) (hb hby at_430) rfl _ (pw_lload X60.here hx (hb hby at_432) rfl _ (pw_iconst X60.here hx (v := (2 : Int32)) (hb hby at_434) rfl _ (pw_lload X60.here hx (hb hby at_435) rfl _ (pw_iconst X60.here hx (v := (0 : Int32)) (hb hby at_437) rfl _ (pw_iload X60.here hx (hb hby at_438) rfl _ k)))))) ?_
             refine Goes.step (fun _ k => pw_lload X60.here hx (hb hby at_440) rfl _ (pw_iconst X60.here hx (v := (1 : Int32)) (hb hby at_442) rfl _ (pw_iload X60.here hx (hb hby at_443) rfl _ k))) ?_
             obtain ⟨_, _, ⟨T61, L61, k61, n61⟩, -, X61, ⟨Lc61, hQ61, l61, y61, z61⟩, st61⟩ := Jvm.LawKit.callS X60 hx (y := (⟨"com/example/errantry/errantry/staff/CompletionBoundsCheapestPinLaw", "ahead", "(JIJIIJII)I"⟩ : MethodName)) hown (mvT hZ (own_w84 hw)) (mvT hZ (own_w85 hw)) (mvT hZ (own_w5 hw)) (mvT hZ (own_w86 hw)) (by decide) (backOf (W := 0) (rm11 l Z a0 hw [] ct2 (2 : Int32) ct0 (0 : Int32) ee0 ct1 (1 : Int32) ee1 T49.heap n0 O_49 ) hZ (own_w86 hw) (own_w5 hw) (by decide) (by decide)) (g := (mkF m 445 #[.val (.long i0), .second, .val (.long i1), .second, .val (.long i2), .second, .val (.int i3), .val (.long i4), .second, .val (.int i5), .val (.long ct0), .second, .val (.long ct1), .second, .val (.long ct2), .second, .val (.int mb0), .val (.int mb1), .val (.int mb2), .val (.int p0), .val (.int p1), .val (.int p2), .val (.ref b4), .val (.int n), .val (.long mx2), .second, .val (.long rm), .second, .val (.ref b9), .val (.ref b11), .val (.ref b15), .val (.ref b21), .val (.int mo49), .val (.int kk), .val (.long (B49.getD kk.toNatClampNeg 0)), .second, .val (.int ee0), .val (.int ee1), .val (.int ee2), .val (.int (own_ahd ct0 (0 : Int32) ct1 (1 : Int32) ee1 ct2 (2 : Int32) ee2)), .val (.int (own_ahd ct1 (1 : Int32) ct0 (0 : Int32) ee0 ct2 (2 : Int32) ee2)), .unset, .unset, .unset] [(.int ee1), (.int 1), (.long ct1), (.int ee0), (.int 0), (.long ct0), (.int 2), (.long ct2)])) rfl (by rw [hml]; rfl) (argsL := [(.long ct2), (.int 2), (.long ct0), (.int 0), (.int ee0), (.long ct1), (.int 1), (.int ee1)]) (rest := []) (lenOf pd_11 rfl) rfl (by show 2 * 0 + _ ≤ _; exact Nat.le_of_eq rfl) (hb hby at_445) (fun _ _ => ⟨rfl, eh60, (by decide : 15 + 0 ≤ _), (by decide : 115 + 0 ≤ _)⟩)
             dsimp only [Pt.U, Pt.locs, Pt.cells, Pt.slots] at X61 l61 y61 z61 st61 hQ61
             subst l61 y61 z61
             obtain ⟨rfl, Nq61, eh61⟩ := hQ61
             have N61 := Fr.app N60 Nq61
             refine Goes.step (B := T61.setTop (mkF m 448 #[.val (.long i0), .second, .val (.long i1), .second, .val (.long i2), .second, .val (.int i3), .val (.long i4), .second, .val (.int i5), .val (.long ct0), .second, .val (.long ct1), .second, .val (.long ct2), .second, .val (.int mb0), .val (.int mb1), .val (.int mb2), .val (.int p0), .val (.int p1), .val (.int p2), .val (.ref b4), .val (.int n), .val (.long mx2), .second, .val (.long rm), .second, .val (.ref b9), .val (.ref b11), .val (.ref b15), .val (.ref b21), .val (.int mo49), .val (.int kk), .val (.long (B49.getD kk.toNatClampNeg 0)), .second, .val (.int ee0), .val (.int ee1), .val (.int ee2), .val (.int (own_ahd ct0 (0 : Int32) ct1 (1 : Int32) ee1 ct2 (2 : Int32) ee2)), .val (.int (own_ahd ct1 (1 : Int32) ct0 (0 : Int32) ee0 ct2 (2 : Int32) ee2)), .unset, .unset, .unset] [(.int (own_ahd ct2 (2 : Int32) ct0 (0 : Int32) ee0 ct1 (1 : Int32) ee1))])) st61 ?_
             refine Goes.step (fun _ k => pw_istore X61.here hx (l' := #[.val (.long i0), .second, .val (.long i1), .second, .val (.long i2), .second, .val (.int i3), .val (.long i4), .second, .val (.int i5), .val (.long ct0), .second, .val (.long ct1), .second, .val (.long ct2), .second, .val (.int mb0), .val (.int mb1), .val (.int mb2), .val (.int p0), .val (.int p1), .val (.int p2), .val (.ref b4), .val (.int n), .val (.long mx2), .second, .val (.long rm), .second, .val (.ref b9), .val (.ref b11), .val (.ref b15), .val (.ref b21), .val (.int mo49), .val (.int kk), .val (.long (B49.getD kk.toNatClampNeg 0)), .second, .val (.int ee0), .val (.int ee1), .val (.int ee2), .val (.int (own_ahd ct0 (0 : Int32) ct1 (1 : Int32) ee1 ct2 (2 : Int32) ee2)), .val (.int (own_ahd ct1 (1 : Int32) ct0 (0 : Int32) ee0 ct2 (2 : Int32) ee2)), .val (.int (own_ahd ct2 (2 : Int32) ct0 (0 : Int32) ee0 ct1 (1 : Int32) ee1)), .unset, .unset]) (hb hby at_448) rfl _ (pw_lload X61.here hx (hb hby at_450) rfl _ (pw_iload X61.here hx (hb hby at_452) rfl _ (pw_iload X61.here hx (hb hby at_454) rfl _ (pw_iload X61.here hx (hb hby at_456) rfl _ k))))) ?_
             obtain ⟨_, _, ⟨T62, L62, k62, n62⟩, -, X62, ⟨Lc62, hQ62, l62, y62, z62⟩, st62⟩ := Jvm.LawKit.callS X61 hx (y := (⟨"com/example/errantry/errantry/staff/CompletionBoundsCheapestPinLaw", "taken", "(III)J"⟩ : MethodName)) hown (mvT hZ (own_w87 hw)) (mvT hZ (own_w88 hw)) (mvT hZ (own_w5 hw)) (mvT hZ (own_w89 hw)) (by decide) (backOf (W := 2) (rm12 l Z a0 hw [] kk ee0 (own_ahd ct0 (0 : Int32) ct1 (1 : Int32) ee1 ct2 (2 : Int32) ee2) T49.heap n0 O_49 ) hZ (own_w89 hw) (own_w5 hw) (by decide) (by decide)) (g := (mkF m 458 #[.val (.long i0), .second, .val (.long i1), .second, .val (.long i2), .second, .val (.int i3), .val (.long i4), .second, .val (.int i5), .val (.long ct0), .second, .val (.long ct1), .second, .val (.long ct2), .second, .val (.int mb0), .val (.int mb1), .val (.int mb2), .val (.int p0), .val (.int p1), .val (.int p2), .val (.ref b4), .val (.int n), .val (.long mx2), .second, .val (.long rm), .second, .val (.ref b9), .val (.ref b11), .val (.ref b15), .val (.ref b21), .val (.int mo49), .val (.int kk), .val (.long (B49.getD kk.toNatClampNeg 0)), .second, .val (.int ee0), .val (.int ee1), .val (.int ee2), .val (.int (own_ahd ct0 (0 : Int32) ct1 (1 : Int32) ee1 ct2 (2 : Int32) ee2)), .val (.int (own_ahd ct1 (1 : Int32) ct0 (0 : Int32) ee0 ct2 (2 : Int32) ee2)), .val (.int (own_ahd ct2 (2 : Int32) ct0 (0 : Int32) ee0 ct1 (1 : Int32) ee1)), .unset, .unset] [(.int (own_ahd ct0 (0 : Int32) ct1 (1 : Int32) ee1 ct2 (2 : Int32) ee2)), (.int ee0), (.int kk), (.long ct0)])) rfl (by rw [hml]; rfl) (argsL := [(.int kk), (.int ee0), (.int (own_ahd ct0 (0 : Int32) ct1 (1 : Int32) ee1 ct2 (2 : Int32) ee2))]) (rest := [(.long ct0)]) (lenOf pd_12 rfl) rfl (by show 2 * 0 + _ ≤ _; exact Nat.le_of_eq rfl) (hb hby at_458) (fun _ _ => ⟨rfl, eh61, (by decide : 15 + 0 ≤ _), (by decide : 115 + 0 ≤ _)⟩)
             dsimp only [Pt.U, Pt.locs, Pt.cells, Pt.slots] at X62 l62 y62 z62 st62 hQ62
             subst l62 y62 z62
             obtain ⟨rfl, Nq62, eh62⟩ := hQ62
             have N62 := Fr.app N61 Nq62
             refine Goes.step (B := T62.setTop (mkF m 461 #[.val (.long i0), .second, .val (.long i1), .second, .val (.long i2), .second, .val (.int i3), .val (.long i4), .second, .val (.int i5), .val (.long ct0), .second, .val (.long ct1), .second, .val (.long ct2), .second, .val (.int mb0), .val (.int mb1), .val (.int mb2), .val (.int p0), .val (.int p1), .val (.int p2), .val (.ref b4), .val (.int n), .val (.long mx2), .second, .val (.long rm), .second, .val (.ref b9), .val (.ref b11), .val (.ref b15), .val (.ref b21), .val (.int mo49), .val (.int kk), .val (.long (B49.getD kk.toNatClampNeg 0)), .second, .val (.int ee0), .val (.int ee1), .val (.int ee2), .val (.int (own_ahd ct0 (0 : Int32) ct1 (1 : Int32) ee1 ct2 (2 : Int32) ee2)), .val (.int (own_ahd ct1 (1 : Int32) ct0 (0 : Int32) ee0 ct2 (2 : Int32) ee2)), .val (.int (own_ahd ct2 (2 : Int32) ct0 (0 : Int32) ee0 ct1 (1 : Int32) ee1)), .unset, .unset] [(.long ((own_minI ee0 (own_maxI (0 : Int32) (kk - (own_ahd ct0 (0 : Int32) ct1 (1 : Int32) ee1 ct2 (2 : Int32) ee2)))).toInt64)), (.long ct0)])) st62 ?_
             refine Goes.step (B := T62.setTop (mkF m 462 #[.val (.long i0), .second, .val (.long i1), .second, .val (.long i2), .second, .val (.int i3), .val (.long i4), .second, .val (.int i5), .val (.long ct0), .second, .val (.long ct1), .second, .val (.long ct2), .second, .val (.int mb0), .val (.int mb1), .val (.int mb2), .val (.int p0), .val (.int p1), .val (.int p2), .val (.ref b4), .val (.int n), .val (.long mx2), .second, .val (.long rm), .second, .val (.ref b9), .val (.ref b11), .val (.ref b15), .val (.ref b21), .val (.int mo49), .val (.int kk), .val (.long (B49.getD kk.toNatClampNeg 0)), .second, .val (.int ee0), .val (.int ee1), .val (.int ee2), .val (.int (own_ahd ct0 (0 : Int32) ct1 (1 : Int32) ee1 ct2 (2 : Int32) ee2)), .val (.int (own_ahd ct1 (1 : Int32) ct0 (0 : Int32) ee0 ct2 (2 : Int32) ee2)), .val (.int (own_ahd ct2 (2 : Int32) ct0 (0 : Int32) ee0 ct1 (1 : Int32) ee1)), .unset, .unset] [(.long (ct0 * ((own_minI ee0 (own_maxI (0 : Int32) (kk - (own_ahd ct0 (0 : Int32) ct1 (1 : Int32) ee1 ct2 (2 : Int32) ee2)))).toInt64)))])) (fun _ k => XS.lmul X62.here hx rfl (hb hby at_461) rfl k) ?_
             refine Goes.step (fun _ k => pw_lload X62.here hx (hb hby at_462) rfl _ (pw_iload X62.here hx (hb hby at_464) rfl _ (pw_iload X62.here hx (hb hby at_466) rfl _ (pw_iload X62.here hx (hb hby at_468) rfl _ k)))) ?_
             obtain ⟨_, _, ⟨T63, L63, k63, n63⟩, -, X63, ⟨Lc63, hQ63, l63, y63, z63⟩, st63⟩ := Jvm.LawKit.callS X62 hx (y := (⟨"com/example/errantry/errantry/staff/CompletionBoundsCheapestPinLaw", "taken", "(III)J"⟩ : MethodName)) hown (mvT hZ (own_w87 hw)) (mvT hZ (own_w88 hw)) (mvT hZ (own_w5 hw)) (mvT hZ (own_w89 hw)) (by decide) (backOf (W := 4) (rm12 l Z a0 hw [] kk ee1 (own_ahd ct1 (1 : Int32) ct0 (0 : Int32) ee0 ct2 (2 : Int32) ee2) T49.heap n0 O_49 ) hZ (own_w89 hw) (own_w5 hw) (by decide) (by decide)) (g := (mkF m 470 #[.val (.long i0), .second, .val (.long i1), .second, .val (.long i2), .second, .val (.int i3), .val (.long i4), .second, .val (.int i5), .val (.long ct0), .second, .val (.long ct1), .second, .val (.long ct2), .second, .val (.int mb0), .val (.int mb1), .val (.int mb2), .val (.int p0), .val (.int p1), .val (.int p2), .val (.ref b4), .val (.int n), .val (.long mx2), .second, .val (.long rm), .second, .val (.ref b9), .val (.ref b11), .val (.ref b15), .val (.ref b21), .val (.int mo49), .val (.int kk), .val (.long (B49.getD kk.toNatClampNeg 0)), .second, .val (.int ee0), .val (.int ee1), .val (.int ee2), .val (.int (own_ahd ct0 (0 : Int32) ct1 (1 : Int32) ee1 ct2 (2 : Int32) ee2)), .val (.int (own_ahd ct1 (1 : Int32) ct0 (0 : Int32) ee0 ct2 (2 : Int32) ee2)), .val (.int (own_ahd ct2 (2 : Int32) ct0 (0 : Int32) ee0 ct1 (1 : Int32) ee1)), .unset, .unset] [(.int (own_ahd ct1 (1 : Int32) ct0 (0 : Int32) ee0 ct2 (2 : Int32) ee2)), (.int ee1), (.int kk), (.long ct1), (.long (ct0 * ((own_minI ee0 (own_maxI (0 : Int32) (kk - (own_ahd ct0 (0 : Int32) ct1 (1 : Int32) ee1 ct2 (2 : Int32) ee2)))).toInt64)))])) rfl (by rw [hml]; rfl) (argsL := [(.int kk), (.int ee1), (.int (own_ahd ct1 (1 : Int32) ct0 (0 : Int32) ee0 ct2 (2 : Int32) ee2))]) (rest := [(.long ct1), (.long (ct0 * ((own_minI ee0 (own_maxI (0 : Int32) (kk - (own_ahd ct0 (0 : Int32) ct1 (1 : Int32) ee1 ct2 (2 : Int32) ee2)))).toInt64)))]) (lenOf pd_12 rfl) rfl (by show 2 * 0 + _ ≤ _; exact Nat.le_of_eq rfl) (hb hby at_470) (fun _ _ => ⟨rfl, eh62, (by decide : 15 + 0 ≤ _), (by decide : 115 + 0 ≤ _)⟩)
             dsimp only [Pt.U, Pt.locs, Pt.cells, Pt.slots] at X63 l63 y63 z63 st63 hQ63
             subst l63 y63 z63
             obtain ⟨rfl, Nq63, eh63⟩ := hQ63
             have N63 := Fr.app N62 Nq63
             refine Goes.step (B := T63.setTop (mkF m 473 #[.val (.long i0), .second, .val (.long i1), .second, .val (.long i2), .second, .val (.int i3), .val (.long i4), .second, .val (.int i5), .val (.long ct0), .second, .val (.long ct1), .second, .val (.long ct2), .second, .val (.int mb0), .val (.int mb1), .val (.int mb2), .val (.int p0), .val (.int p1), .val (.int p2), .val (.ref b4), .val (.int n), .val (.long mx2), .second, .val (.long rm), .second, .val (.ref b9), .val (.ref b11), .val (.ref b15), .val (.ref b21), .val (.int mo49), .val (.int kk), .val (.long (B49.getD kk.toNatClampNeg 0)), .second, .val (.int ee0), .val (.int ee1), .val (.int ee2), .val (.int (own_ahd ct0 (0 : Int32) ct1 (1 : Int32) ee1 ct2 (2 : Int32) ee2)), .val (.int (own_ahd ct1 (1 : Int32) ct0 (0 : Int32) ee0 ct2 (2 : Int32) ee2)), .val (.int (own_ahd ct2 (2 : Int32) ct0 (0 : Int32) ee0 ct1 (1 : Int32) ee1)), .unset, .unset] [(.long ((own_minI ee1 (own_maxI (0 : Int32) (kk - (own_ahd ct1 (1 : Int32) ct0 (0 : Int32) ee0 ct2 (2 : Int32) ee2)))).toInt64)), (.long ct1), (.long (ct0 * ((own_minI ee0 (own_maxI (0 : Int32) (kk - (own_ahd ct0 (0 : Int32) ct1 (1 : Int32) ee1 ct2 (2 : Int32) ee2)))).toInt64)))])) st63 ?_
             refine Goes.step (B := T63.setTop (mkF m 474 #[.val (.long i0), .second, .val (.long i1), .second, .val (.long i2), .second, .val (.int i3), .val (.long i4), .second, .val (.int i5), .val (.long ct0), .second, .val (.long ct1), .second, .val (.long ct2), .second, .val (.int mb0), .val (.int mb1), .val (.int mb2), .val (.int p0), .val (.int p1), .val (.int p2), .val (.ref b4), .val (.int n), .val (.long mx2), .second, .val (.long rm), .second, .val (.ref b9), .val (.ref b11), .val (.ref b15), .val (.ref b21), .val (.int mo49), .val (.int kk), .val (.long (B49.getD kk.toNatClampNeg 0)), .second, .val (.int ee0), .val (.int ee1), .val (.int ee2), .val (.int (own_ahd ct0 (0 : Int32) ct1 (1 : Int32) ee1 ct2 (2 : Int32) ee2)), .val (.int (own_ahd ct1 (1 : Int32) ct0 (0 : Int32) ee0 ct2 (2 : Int32) ee2)), .val (.int (own_ahd ct2 (2 : Int32) ct0 (0 : Int32) ee0 ct1 (1 : Int32) ee1)), .unset, .unset] [(.long (ct1 * ((own_minI ee1 (own_maxI (0 : Int32) (kk - (own_ahd ct1 (1 : Int32) ct0 (0 : Int32) ee0 ct2 (2 : Int32) ee2)))).toInt64))), (.long (ct0 * ((own_minI ee0 (own_maxI (0 : Int32) (kk - (own_ahd ct0 (0 : Int32) ct1 (1 : Int32) ee1 ct2 (2 : Int32) ee2)))).toInt64)))])) (fun _ k => XS.lmul X63.here hx rfl (hb hby at_473) rfl k) ?_
             refine Goes.step (B := T63.setTop (mkF m 475 #[.val (.long i0), .second, .val (.long i1), .second, .val (.long i2), .second, .val (.int i3), .val (.long i4), .second, .val (.int i5), .val (.long ct0), .second, .val (.long ct1), .second, .val (.long ct2), .second, .val (.int mb0), .val (.int mb1), .val (.int mb2), .val (.int p0), .val (.int p1), .val (.int p2), .val (.ref b4), .val (.int n), .val (.long mx2), .second, .val (.long rm), .second, .val (.ref b9), .val (.ref b11), .val (.ref b15), .val (.ref b21), .val (.int mo49), .val (.int kk), .val (.long (B49.getD kk.toNatClampNeg 0)), .second, .val (.int ee0), .val (.int ee1), .val (.int ee2), .val (.int (own_ahd ct0 (0 : Int32) ct1 (1 : Int32) ee1 ct2 (2 : Int32) ee2)), .val (.int (own_ahd ct1 (1 : Int32) ct0 (0 : Int32) ee0 ct2 (2 : Int32) ee2)), .val (.int (own_ahd ct2 (2 : Int32) ct0 (0 : Int32) ee0 ct1 (1 : Int32) ee1)), .unset, .unset] [(.long ((ct0 * ((own_minI ee0 (own_maxI (0 : Int32) (kk - (own_ahd ct0 (0 : Int32) ct1 (1 : Int32) ee1 ct2 (2 : Int32) ee2)))).toInt64)) + (ct1 * ((own_minI ee1 (own_maxI (0 : Int32) (kk - (own_ahd ct1 (1 : Int32) ct0 (0 : Int32) ee0 ct2 (2 : Int32) ee2)))).toInt64))))])) (fun _ k => XS.ladd X63.here hx rfl (hb hby at_474) rfl k) ?_
             refine Goes.step (fun _ k => pw_lload X63.here hx (hb hby at_475) rfl _ (pw_iload X63.here hx (hb hby at_477) rfl _ (pw_iload X63.here hx (hb hby at_479) rfl _ (pw_iload X63.here hx (hb hby at_481) rfl _ k)))) ?_
             obtain ⟨_, _, ⟨T64, L64, k64, n64⟩, -, X64, ⟨Lc64, hQ64, l64, y64, z64⟩, st64⟩ := Jvm.LawKit.callS X63 hx (y := (⟨"com/example/errantry/errantry/staff/CompletionBoundsCheapestPinLaw", "taken", "(III)J"⟩ : MethodName)) hown (mvT hZ (own_w87 hw)) (mvT hZ (own_w88 hw)) (mvT hZ (own_w5 hw)) (mvT hZ (own_w89 hw)) (by decide) (backOf (W := 4) (rm12 l Z a0 hw [] kk ee2 (own_ahd ct2 (2 : Int32) ct0 (0 : Int32) ee0 ct1 (1 : Int32) ee1) T49.heap n0 O_49 ) hZ (own_w89 hw) (own_w5 hw) (by decide) (by decide)) (g := (mkF m 483 #[.val (.long i0), .second, .val (.long i1), .second, .val (.long i2), .second, .val (.int i3), .val (.long i4), .second, .val (.int i5), .val (.long ct0), .second, .val (.long ct1), .second, .val (.long ct2), .second, .val (.int mb0), .val (.int mb1), .val (.int mb2), .val (.int p0), .val (.int p1), .val (.int p2), .val (.ref b4), .val (.int n), .val (.long mx2), .second, .val (.long rm), .second, .val (.ref b9), .val (.ref b11), .val (.ref b15), .val (.ref b21), .val (.int mo49), .val (.int kk), .val (.long (B49.getD kk.toNatClampNeg 0)), .second, .val (.int ee0), .val (.int ee1), .val (.int ee2), .val (.int (own_ahd ct0 (0 : Int32) ct1 (1 : Int32) ee1 ct2 (2 : Int32) ee2)), .val (.int (own_ahd ct1 (1 : Int32) ct0 (0 : Int32) ee0 ct2 (2 : Int32) ee2)), .val (.int (own_ahd ct2 (2 : Int32) ct0 (0 : Int32) ee0 ct1 (1 : Int32) ee1)), .unset, .unset] [(.int (own_ahd ct2 (2 : Int32) ct0 (0 : Int32) ee0 ct1 (1 : Int32) ee1)), (.int ee2), (.int kk), (.long ct2), (.long ((ct0 * ((own_minI ee0 (own_maxI (0 : Int32) (kk - (own_ahd ct0 (0 : Int32) ct1 (1 : Int32) ee1 ct2 (2 : Int32) ee2)))).toInt64)) + (ct1 * ((own_minI ee1 (own_maxI (0 : Int32) (kk - (own_ahd ct1 (1 : Int32) ct0 (0 : Int32) ee0 ct2 (2 : Int32) ee2)))).toInt64))))])) rfl (by rw [hml]; rfl) (argsL := [(.int kk), (.int ee2), (.int (own_ahd ct2 (2 : Int32) ct0 (0 : Int32) ee0 ct1 (1 : Int32) ee1))]) (rest := [(.long ct2), (.long ((ct0 * ((own_minI ee0 (own_maxI (0 : Int32) (kk - (own_ahd ct0 (0 : Int32) ct1 (1 : Int32) ee1 ct2 (2 : Int32) ee2)))).toInt64)) + (ct1 * ((own_minI ee1 (own_maxI (0 : Int32) (kk - (own_ahd ct1 (1 : Int32) ct0 (0 : Int32) ee0 ct2 (2 : Int32) ee2)))).toInt64))))]) (lenOf pd_12 rfl) rfl (by show 2 * 0 + _ ≤ _; exact Nat.le_of_eq rfl) (hb hby at_483) (fun _ _ => ⟨rfl, eh63, (by decide : 15 + 0 ≤ _), (by decide : 115 + 0 ≤ _)⟩)
             dsimp only [Pt.U, Pt.locs, Pt.cells, Pt.slots] at X64 l64 y64 z64 st64 hQ64
             subst l64 y64 z64
             obtain ⟨rfl, Nq64, eh64⟩ := hQ64
             have N64 := Fr.app N63 Nq64
             refine Goes.step (B := T64.setTop (mkF m 486 #[.val (.long i0), .second, .val (.long i1), .second, .val (.long i2), .second, .val (.int i3), .val (.long i4), .second, .val (.int i5), .val (.long ct0), .second, .val (.long ct1), .second, .val (.long ct2), .second, .val (.int mb0), .val (.int mb1), .val (.int mb2), .val (.int p0), .val (.int p1), .val (.int p2), .val (.ref b4), .val (.int n), .val (.long mx2), .second, .val (.long rm), .second, .val (.ref b9), .val (.ref b11), .val (.ref b15), .val (.ref b21), .val (.int mo49), .val (.int kk), .val (.long (B49.getD kk.toNatClampNeg 0)), .second, .val (.int ee0), .val (.int ee1), .val (.int ee2), .val (.int (own_ahd ct0 (0 : Int32) ct1 (1 : Int32) ee1 ct2 (2 : Int32) ee2)), .val (.int (own_ahd ct1 (1 : Int32) ct0 (0 : Int32) ee0 ct2 (2 : Int32) ee2)), .val (.int (own_ahd ct2 (2 : Int32) ct0 (0 : Int32) ee0 ct1 (1 : Int32) ee1)), .unset, .unset] [(.long ((own_minI ee2 (own_maxI (0 : Int32) (kk - (own_ahd ct2 (2 : Int32) ct0 (0 : Int32) ee0 ct1 (1 : Int32) ee1)))).toInt64)), (.long ct2), (.long ((ct0 * ((own_minI ee0 (own_maxI (0 : Int32) (kk - (own_ahd ct0 (0 : Int32) ct1 (1 : Int32) ee1 ct2 (2 : Int32) ee2)))).toInt64)) + (ct1 * ((own_minI ee1 (own_maxI (0 : Int32) (kk - (own_ahd ct1 (1 : Int32) ct0 (0 : Int32) ee0 ct2 (2 : Int32) ee2)))).toInt64))))])) st64 ?_
             refine Goes.step (B := T64.setTop (mkF m 487 #[.val (.long i0), .second, .val (.long i1), .second, .val (.long i2), .second, .val (.int i3), .val (.long i4), .second, .val (.int i5), .val (.long ct0), .second, .val (.long ct1), .second, .val (.long ct2), .second, .val (.int mb0), .val (.int mb1), .val (.int mb2), .val (.int p0), .val (.int p1), .val (.int p2), .val (.ref b4), .val (.int n), .val (.long mx2), .second, .val (.long rm), .second, .val (.ref b9), .val (.ref b11), .val (.ref b15), .val (.ref b21), .val (.int mo49), .val (.int kk), .val (.long (B49.getD kk.toNatClampNeg 0)), .second, .val (.int ee0), .val (.int ee1), .val (.int ee2), .val (.int (own_ahd ct0 (0 : Int32) ct1 (1 : Int32) ee1 ct2 (2 : Int32) ee2)), .val (.int (own_ahd ct1 (1 : Int32) ct0 (0 : Int32) ee0 ct2 (2 : Int32) ee2)), .val (.int (own_ahd ct2 (2 : Int32) ct0 (0 : Int32) ee0 ct1 (1 : Int32) ee1)), .unset, .unset] [(.long (ct2 * ((own_minI ee2 (own_maxI (0 : Int32) (kk - (own_ahd ct2 (2 : Int32) ct0 (0 : Int32) ee0 ct1 (1 : Int32) ee1)))).toInt64))), (.long ((ct0 * ((own_minI ee0 (own_maxI (0 : Int32) (kk - (own_ahd ct0 (0 : Int32) ct1 (1 : Int32) ee1 ct2 (2 : Int32) ee2)))).toInt64)) + (ct1 * ((own_minI ee1 (own_maxI (0 : Int32) (kk - (own_ahd ct1 (1 : Int32) ct0 (0 : Int32) ee0 ct2 (2 : Int32) ee2)))).toInt64))))])) (fun _ k => XS.lmul X64.here hx rfl (hb hby at_486) rfl k) ?_
             refine Goes.step (B := T64.setTop (mkF m 488 #[.val (.long i0), .second, .val (.long i1), .second, .val (.long i2), .second, .val (.int i3), .val (.long i4), .second, .val (.int i5), .val (.long ct0), .second, .val (.long ct1), .second, .val (.long ct2), .second, .val (.int mb0), .val (.int mb1), .val (.int mb2), .val (.int p0), .val (.int p1), .val (.int p2), .val (.ref b4), .val (.int n), .val (.long mx2), .second, .val (.long rm), .second, .val (.ref b9), .val (.ref b11), .val (.ref b15), .val (.ref b21), .val (.int mo49), .val (.int kk), .val (.long (B49.getD kk.toNatClampNeg 0)), .second, .val (.int ee0), .val (.int ee1), .val (.int ee2), .val (.int (own_ahd ct0 (0 : Int32) ct1 (1 : Int32) ee1 ct2 (2 : Int32) ee2)), .val (.int (own_ahd ct1 (1 : Int32) ct0 (0 : Int32) ee0 ct2 (2 : Int32) ee2)), .val (.int (own_ahd ct2 (2 : Int32) ct0 (0 : Int32) ee0 ct1 (1 : Int32) ee1)), .unset, .unset] [(.long (((ct0 * ((own_minI ee0 (own_maxI (0 : Int32) (kk - (own_ahd ct0 (0 : Int32) ct1 (1 : Int32) ee1 ct2 (2 : Int32) ee2)))).toInt64)) + (ct1 * ((own_minI ee1 (own_maxI (0 : Int32) (kk - (own_ahd ct1 (1 : Int32) ct0 (0 : Int32) ee0 ct2 (2 : Int32) ee2)))).toInt64))) + (ct2 * ((own_minI ee2 (own_maxI (0 : Int32) (kk - (own_ahd ct2 (2 : Int32) ct0 (0 : Int32) ee0 ct1 (1 : Int32) ee1)))).toInt64))))])) (fun _ k => XS.ladd X64.here hx rfl (hb hby at_487) rfl k) ?_
             refine Goes.step (fun _ k => pw_lstore X64.here hx (l' := #[.val (.long i0), .second, .val (.long i1), .second, .val (.long i2), .second, .val (.int i3), .val (.long i4), .second, .val (.int i5), .val (.long ct0), .second, .val (.long ct1), .second, .val (.long ct2), .second, .val (.int mb0), .val (.int mb1), .val (.int mb2), .val (.int p0), .val (.int p1), .val (.int p2), .val (.ref b4), .val (.int n), .val (.long mx2), .second, .val (.long rm), .second, .val (.ref b9), .val (.ref b11), .val (.ref b15), .val (.ref b21), .val (.int mo49), .val (.int kk), .val (.long (B49.getD kk.toNatClampNeg 0)), .second, .val (.int ee0), .val (.int ee1), .val (.int ee2), .val (.int (own_ahd ct0 (0 : Int32) ct1 (1 : Int32) ee1 ct2 (2 : Int32) ee2)), .val (.int (own_ahd ct1 (1 : Int32) ct0 (0 : Int32) ee0 ct2 (2 : Int32) ee2)), .val (.int (own_ahd ct2 (2 : Int32) ct0 (0 : Int32) ee0 ct1 (1 : Int32) ee1)), .val (.long (((ct0 * ((own_minI ee0 (own_maxI (0 : Int32) (kk - (own_ahd ct0 (0 : Int32) ct1 (1 : Int32) ee1 ct2 (2 : Int32) ee2)))).toInt64)) + (ct1 * ((own_minI ee1 (own_maxI (0 : Int32) (kk - (own_ahd ct1 (1 : Int32) ct0 (0 : Int32) ee0 ct2 (2 : Int32) ee2)))).toInt64))) + (ct2 * ((own_minI ee2 (own_maxI (0 : Int32) (kk - (own_ahd ct2 (2 : Int32) ct0 (0 : Int32) ee0 ct1 (1 : Int32) ee1)))).toInt64)))), .second]) (hb hby at_488) rfl _ k) ?_
             have hfin := own_end hC0 hC1 hC2 hM0 hM1 hM2 hsel hR49 hCh49 ma49 mb49_ mc49 hkb hee0 hee1 hee2
             refine Goes.step (fun _ k => pw_lload X64.here hx (hb hby at_490) rfl _ (pw_lload X64.here hx (hb hby at_492) rfl _ k)) ?_
             refine Goes.step (B := T64.setTop (mkF m 495 #[.val (.long i0), .second, .val (.long i1), .second, .val (.long i2), .second, .val (.int i3), .val (.long i4), .second, .val (.int i5), .val (.long ct0), .second, .val (.long ct1), .second, .val (.long ct2), .second, .val (.int mb0), .val (.int mb1), .val (.int mb2), .val (.int p0), .val (.int p1), .val (.int p2), .val (.ref b4), .val (.int n), .val (.long mx2), .second, .val (.long rm), .second, .val (.ref b9), .val (.ref b11), .val (.ref b15), .val (.ref b21), .val (.int mo49), .val (.int kk), .val (.long (B49.getD kk.toNatClampNeg 0)), .second, .val (.int ee0), .val (.int ee1), .val (.int ee2), .val (.int (own_ahd ct0 (0 : Int32) ct1 (1 : Int32) ee1 ct2 (2 : Int32) ee2)), .val (.int (own_ahd ct1 (1 : Int32) ct0 (0 : Int32) ee0 ct2 (2 : Int32) ee2)), .val (.int (own_ahd ct2 (2 : Int32) ct0 (0 : Int32) ee0 ct1 (1 : Int32) ee1)), .val (.long (((ct0 * ((own_minI ee0 (own_maxI (0 : Int32) (kk - (own_ahd ct0 (0 : Int32) ct1 (1 : Int32) ee1 ct2 (2 : Int32) ee2)))).toInt64)) + (ct1 * ((own_minI ee1 (own_maxI (0 : Int32) (kk - (own_ahd ct1 (1 : Int32) ct0 (0 : Int32) ee0 ct2 (2 : Int32) ee2)))).toInt64))) + (ct2 * ((own_minI ee2 (own_maxI (0 : Int32) (kk - (own_ahd ct2 (2 : Int32) ct0 (0 : Int32) ee0 ct1 (1 : Int32) ee1)))).toInt64)))), .second] [(.int (lcmpW (B49.getD kk.toNatClampNeg 0) (((ct0 * ((own_minI ee0 (own_maxI (0 : Int32) (kk - (own_ahd ct0 (0 : Int32) ct1 (1 : Int32) ee1 ct2 (2 : Int32) ee2)))).toInt64)) + (ct1 * ((own_minI ee1 (own_maxI (0 : Int32) (kk - (own_ahd ct1 (1 : Int32) ct0 (0 : Int32) ee0 ct2 (2 : Int32) ee2)))).toInt64))) + (ct2 * ((own_minI ee2 (own_maxI (0 : Int32) (kk - (own_ahd ct2 (2 : Int32) ct0 (0 : Int32) ee0 ct1 (1 : Int32) ee1)))).toInt64)))))])) (fun _ k => XS.lcmp X64.here hx rfl (hb hby at_494) rfl k) ?_
             refine Goes.step (fun _ k => pw_ifNo X64.here hx (hb hby at_495) ((if0 _ _).trans (teq ((lw_eq _ _).mpr hfin)).2) _ (pw_iconst X64.here hx (v := (1 : Int32)) (hb hby at_498) rfl _ (pw_goto X64.here hx (pc' := 503) (hb hby at_499) (by decide) (by decide) _ k))) ?_
             exact Goes.retN X64 hx eh64 (t := .boolean) Bd.returns (by simp) hlk (hb hby at_503) (by decide) (by decide) (⟨rfl, N64⟩)
            refine Goes.step (fun _ k => pw_iload X55.here hx (hb hby at_383) rfl _ k) ?_
            by_cases hc385_64 : p2 = (0 : Int32)
            · refine Goes.step (fun _ k => pw_ifYes X55.here hx (pc' := 393) (hb hby at_385) ((if0 _ _).trans (teq hc385_64).1) (by decide) (by decide) _ (pw_iconst X55.here hx (v := (0 : Int32)) (hb hby at_393) rfl _ (pw_istore X55.here hx (l' := #[.val (.long i0), .second, .val (.long i1), .second, .val (.long i2), .second, .val (.int i3), .val (.long i4), .second, .val (.int i5), .val (.long ct0), .second, .val (.long ct1), .second, .val (.long ct2), .second, .val (.int mb0), .val (.int mb1), .val (.int mb2), .val (.int p0), .val (.int p1), .val (.int p2), .val (.ref b4), .val (.int n), .val (.long mx2), .second, .val (.long rm), .second, .val (.ref b9), .val (.ref b11), .val (.ref b15), .val (.ref b21), .val (.int mo49), .val (.int kk), .val (.long (B49.getD kk.toNatClampNeg 0)), .second, .val (.int ee0), .val (.int ee1), .val (.int 0), .unset, .unset, .unset, .unset, .unset]) (hb hby at_394) rfl _ k))) ?_
              exact J58 (0 : Int32) (by rw [own_e, if_pos hc385_64])
            · refine Goes.step (fun _ k => pw_ifNo X55.here hx (hb hby at_385) ((if0 _ _).trans (feq hc385_64).1) _ (pw_iload X55.here hx (hb hby at_388) rfl _ (pw_goto X55.here hx (pc' := 394) (hb hby at_390) (by decide) (by decide) _ (pw_istore X55.here hx (l' := #[.val (.long i0), .second, .val (.long i1), .second, .val (.long i2), .second, .val (.int i3), .val (.long i4), .second, .val (.int i5), .val (.long ct0), .second, .val (.long ct1), .second, .val (.long ct2), .second, .val (.int mb0), .val (.int mb1), .val (.int mb2), .val (.int p0), .val (.int p1), .val (.int p2), .val (.ref b4), .val (.int n), .val (.long mx2), .second, .val (.long rm), .second, .val (.ref b9), .val (.ref b11), .val (.ref b15), .val (.ref b21), .val (.int mo49), .val (.int kk), .val (.long (B49.getD kk.toNatClampNeg 0)), .second, .val (.int ee0), .val (.int ee1), .val (.int mb2), .unset, .unset, .unset, .unset, .unset]) (hb hby at_394) rfl _ k)))) ?_
              exact J58 mb2 (by rw [own_e, if_neg hc385_64])
           refine Goes.step (fun _ k => pw_iload X55.here hx (hb hby at_370) rfl _ k) ?_
           by_cases hc372_65 : p1 = (0 : Int32)
           · refine Goes.step (fun _ k => pw_ifYes X55.here hx (pc' := 380) (hb hby at_372) ((if0 _ _).trans (teq hc372_65).1) (by decide) (by decide) _ (pw_iconst X55.here hx (v := (0 : Int32)) (hb hby at_380) rfl _ (pw_istore X55.here hx (l' := #[.val (.long i0), .second, .val (.long i1), .second, .val (.long i2), .second, .val (.int i3), .val (.long i4), .second, .val (.int i5), .val (.long ct0), .second, .val (.long ct1), .second, .val (.long ct2), .second, .val (.int mb0), .val (.int mb1), .val (.int mb2), .val (.int p0), .val (.int p1), .val (.int p2), .val (.ref b4), .val (.int n), .val (.long mx2), .second, .val (.long rm), .second, .val (.ref b9), .val (.ref b11), .val (.ref b15), .val (.ref b21), .val (.int mo49), .val (.int kk), .val (.long (B49.getD kk.toNatClampNeg 0)), .second, .val (.int ee0), .val (.int 0), .unset, .unset, .unset, .unset, .unset, .unset]) (hb hby at_381) rfl _ k))) ?_
             exact J57 (0 : Int32) (by rw [own_e, if_pos hc372_65])
           · refine Goes.step (fun _ k => pw_ifNo X55.here hx (hb hby at_372) ((if0 _ _).trans (feq hc372_65).1) _ (pw_iload X55.here hx (hb hby at_375) rfl _ (pw_goto X55.here hx (pc' := 381) (hb hby at_377) (by decide) (by decide) _ (pw_istore X55.here hx (l' := #[.val (.long i0), .second, .val (.long i1), .second, .val (.long i2), .second, .val (.int i3), .val (.long i4), .second, .val (.int i5), .val (.long ct0), .second, .val (.long ct1), .second, .val (.long ct2), .second, .val (.int mb0), .val (.int mb1), .val (.int mb2), .val (.int p0), .val (.int p1), .val (.int p2), .val (.ref b4), .val (.int n), .val (.long mx2), .second, .val (.long rm), .second, .val (.ref b9), .val (.ref b11), .val (.ref b15), .val (.ref b21), .val (.int mo49), .val (.int kk), .val (.long (B49.getD kk.toNatClampNeg 0)), .second, .val (.int ee0), .val (.int mb1), .unset, .unset, .unset, .unset, .unset, .unset]) (hb hby at_381) rfl _ k)))) ?_
             exact J57 mb1 (by rw [own_e, if_neg hc372_65])
          refine Goes.step (fun _ k => pw_iload X55.here hx (hb hby at_357) rfl _ k) ?_
          by_cases hc359_66 : p0 = (0 : Int32)
          · refine Goes.step (fun _ k => pw_ifYes X55.here hx (pc' := 367) (hb hby at_359) ((if0 _ _).trans (teq hc359_66).1) (by decide) (by decide) _ (pw_iconst X55.here hx (v := (0 : Int32)) (hb hby at_367) rfl _ (pw_istore X55.here hx (l' := #[.val (.long i0), .second, .val (.long i1), .second, .val (.long i2), .second, .val (.int i3), .val (.long i4), .second, .val (.int i5), .val (.long ct0), .second, .val (.long ct1), .second, .val (.long ct2), .second, .val (.int mb0), .val (.int mb1), .val (.int mb2), .val (.int p0), .val (.int p1), .val (.int p2), .val (.ref b4), .val (.int n), .val (.long mx2), .second, .val (.long rm), .second, .val (.ref b9), .val (.ref b11), .val (.ref b15), .val (.ref b21), .val (.int mo49), .val (.int kk), .val (.long (B49.getD kk.toNatClampNeg 0)), .second, .val (.int 0), .unset, .unset, .unset, .unset, .unset, .unset, .unset]) (hb hby at_368) rfl _ k))) ?_
            exact J56 (0 : Int32) (by rw [own_e, if_pos hc359_66])
          · refine Goes.step (fun _ k => pw_ifNo X55.here hx (hb hby at_359) ((if0 _ _).trans (feq hc359_66).1) _ (pw_iload X55.here hx (hb hby at_362) rfl _ (pw_goto X55.here hx (pc' := 368) (hb hby at_364) (by decide) (by decide) _ (pw_istore X55.here hx (l' := #[.val (.long i0), .second, .val (.long i1), .second, .val (.long i2), .second, .val (.int i3), .val (.long i4), .second, .val (.int i5), .val (.long ct0), .second, .val (.long ct1), .second, .val (.long ct2), .second, .val (.int mb0), .val (.int mb1), .val (.int mb2), .val (.int p0), .val (.int p1), .val (.int p2), .val (.ref b4), .val (.int n), .val (.long mx2), .second, .val (.long rm), .second, .val (.ref b9), .val (.ref b11), .val (.ref b15), .val (.ref b21), .val (.int mo49), .val (.int kk), .val (.long (B49.getD kk.toNatClampNeg 0)), .second, .val (.int mb0), .unset, .unset, .unset, .unset, .unset, .unset, .unset]) (hb hby at_368) rfl _ k)))) ?_
            exact J56 mb0 (by rw [own_e, if_neg hc359_66])
         rcases own_six ct0 ct1 ct2 with ⟨ps0, ps1, ps2⟩ | ⟨ps0, ps1, ps2⟩ | ⟨ps0, ps1, ps2⟩ | ⟨ps0, ps1, ps2⟩ | ⟨ps0, ps1, ps2⟩ | ⟨ps0, ps1, ps2⟩
         · refine Goes.step (fun _ k => pw_aload X9.here hx (hb hby at_212) rfl rfl _ (pw_lload X9.here hx (hb hby at_214) rfl _ (pw_iconst X9.here hx (v := (0 : Int32)) (hb hby at_216) rfl _ (pw_lload X9.here hx (hb hby at_217) rfl _ (pw_iconst X9.here hx (v := (1 : Int32)) (hb hby at_219) rfl _ (pw_lload X9.here hx (hb hby at_220) rfl _ k)))))) ?_
           refine Goes.step (fun _ k => pw_iconst X9.here hx (v := (2 : Int32)) (hb hby at_222) rfl _ k) ?_
           obtain ⟨_, _, ⟨T68, L68, k68, n68⟩, -, X68, ⟨Lc68, hQ68, l68, y68, z68⟩, st68⟩ := Jvm.LawKit.callS X9 hx (y := (⟨"com/example/errantry/errantry/staff/CompletionBoundsCheapestPinLaw", "position", "(JIJIJI)I"⟩ : MethodName)) hown (mvT hZ (own_w3 hw)) (mvT hZ (own_w4 hw)) (mvT hZ (own_w5 hw)) (mvT hZ (own_w6 hw)) (by decide) (backOf (W := 1) (rm1 l Z a0 hw [] ct0 (0 : Int32) ct1 (1 : Int32) ct2 (2 : Int32) h9 n0 O_9 ) hZ (own_w6 hw) (own_w5 hw) (by decide) (by decide)) (g := (mkF m 223 #[.val (.long i0), .second, .val (.long i1), .second, .val (.long i2), .second, .val (.int i3), .val (.long i4), .second, .val (.int i5), .val (.long ct0), .second, .val (.long ct1), .second, .val (.long ct2), .second, .val (.int mb0), .val (.int mb1), .val (.int mb2), .val (.int p0), .val (.int p1), .val (.int p2), .val (.ref b4), .val (.int n), .val (.long mx2), .second, .val (.long rm), .second, .val (.ref b9), .unset, .unset, .unset, .unset, .unset, .unset, .unset, .unset, .unset, .unset, .unset, .unset, .unset, .unset, .unset] [(.int 2), (.long ct2), (.int 1), (.long ct1), (.int 0), (.long ct0), (.ref b9)])) rfl (by rw [hml]; rfl) (argsL := [(.long ct0), (.int 0), (.long ct1), (.int 1), (.long ct2), (.int 2)]) (rest := [(.ref b9)]) (lenOf pd_13 rfl) rfl (by show 2 * 0 + _ ≤ _; exact Nat.le_of_eq rfl) (hb hby at_223) (fun _ _ => ⟨rfl, e9, (by decide : 2 + 0 ≤ _), (by decide : 6 + 0 ≤ _)⟩)
           dsimp only [Pt.U, Pt.locs, Pt.cells, Pt.slots] at X68 l68 y68 z68 st68 hQ68
           subst l68 y68 z68
           obtain ⟨rfl, Nq68, eh68⟩ := hQ68
           have N68 := Fr.app Nj8 Nq68
           refine Goes.step (B := T68.setTop (mkF m 226 #[.val (.long i0), .second, .val (.long i1), .second, .val (.long i2), .second, .val (.int i3), .val (.long i4), .second, .val (.int i5), .val (.long ct0), .second, .val (.long ct1), .second, .val (.long ct2), .second, .val (.int mb0), .val (.int mb1), .val (.int mb2), .val (.int p0), .val (.int p1), .val (.int p2), .val (.ref b4), .val (.int n), .val (.long mx2), .second, .val (.long rm), .second, .val (.ref b9), .unset, .unset, .unset, .unset, .unset, .unset, .unset, .unset, .unset, .unset, .unset, .unset, .unset, .unset, .unset] [(.int (own_psn ct0 (0 : Int32) ct1 (1 : Int32) ct2 (2 : Int32))), (.ref b9)])) st68 ?_
           rw [ps0]
           refine Goes.step (fun _ k => pw_iconst X68.here hx (v := (0 : Int32)) (hb hby at_226) rfl _ k) ?_
           obtain ⟨c69, Ar69, q69, Sz69, Nn69, Hs69, Gs69⟩ := id V_b9
           have hin69 : ¬ ((0 : Int32) < 0 ∨ c69.slots.size ≤ ((0 : Int32)).toNatClampNeg) := inb_of Sz69 ⟨by decide, by decide⟩
           obtain ⟨T69, h69, X69, e69, W69, st69⟩ := stI X68 hx hZ eh68 Ar69 (j := (0 : Int32)) hin69 (g := (mkF m 227 #[.val (.long i0), .second, .val (.long i1), .second, .val (.long i2), .second, .val (.int i3), .val (.long i4), .second, .val (.int i5), .val (.long ct0), .second, .val (.long ct1), .second, .val (.long ct2), .second, .val (.int mb0), .val (.int mb1), .val (.int mb2), .val (.int p0), .val (.int p1), .val (.int p2), .val (.ref b4), .val (.int n), .val (.long mx2), .second, .val (.long rm), .second, .val (.ref b9), .unset, .unset, .unset, .unset, .unset, .unset, .unset, .unset, .unset, .unset, .unset, .unset, .unset, .unset, .unset] [(.int 0), (.int 0), (.ref b9)])) rfl rfl (hb hby at_227)
           have V69 : Arv Z h69 b9 k9 .int (3 : Int32) [(.int 0), (.int 0), (.int 0)] (.int 0) := Arv.set Ar69 q69 Sz69 Nn69 Hs69 Gs69 rfl W69 0 rfl (Nat.le_of_ble_eq_true rfl)
           have N69 := Fr.snoc X69 N68 g_b9
           have O_69 := O_9.wr W69 g_b9
           refine Goes.step (B := T69.setTop (mkF m 228 #[.val (.long i0), .second, .val (.long i1), .second, .val (.long i2), .second, .val (.int i3), .val (.long i4), .second, .val (.int i5), .val (.long ct0), .second, .val (.long ct1), .second, .val (.long ct2), .second, .val (.int mb0), .val (.int mb1), .val (.int mb2), .val (.int p0), .val (.int p1), .val (.int p2), .val (.ref b4), .val (.int n), .val (.long mx2), .second, .val (.long rm), .second, .val (.ref b9), .unset, .unset, .unset, .unset, .unset, .unset, .unset, .unset, .unset, .unset, .unset, .unset, .unset, .unset, .unset] [])) st69 ?_
           refine Goes.step (fun _ k => pw_aload X69.here hx (hb hby at_228) rfl rfl _ (pw_lload X69.here hx (hb hby at_230) rfl _ (pw_iconst X69.here hx (v := (1 : Int32)) (hb hby at_232) rfl _ (pw_lload X69.here hx (hb hby at_233) rfl _ (pw_iconst X69.here hx (v := (0 : Int32)) (hb hby at_235) rfl _ (pw_lload X69.here hx (hb hby at_236) rfl _ k)))))) ?_
           refine Goes.step (fun _ k => pw_iconst X69.here hx (v := (2 : Int32)) (hb hby at_238) rfl _ k) ?_
           obtain ⟨_, _, ⟨T70, L70, k70, n70⟩, -, X70, ⟨Lc70, hQ70, l70, y70, z70⟩, st70⟩ := Jvm.LawKit.callS X69 hx (y := (⟨"com/example/errantry/errantry/staff/CompletionBoundsCheapestPinLaw", "position", "(JIJIJI)I"⟩ : MethodName)) hown (mvT hZ (own_w3 hw)) (mvT hZ (own_w4 hw)) (mvT hZ (own_w5 hw)) (mvT hZ (own_w6 hw)) (by decide) (backOf (W := 1) (rm1 l Z a0 hw [] ct1 (1 : Int32) ct0 (0 : Int32) ct2 (2 : Int32) h69 n0 O_69 ) hZ (own_w6 hw) (own_w5 hw) (by decide) (by decide)) (g := (mkF m 239 #[.val (.long i0), .second, .val (.long i1), .second, .val (.long i2), .second, .val (.int i3), .val (.long i4), .second, .val (.int i5), .val (.long ct0), .second, .val (.long ct1), .second, .val (.long ct2), .second, .val (.int mb0), .val (.int mb1), .val (.int mb2), .val (.int p0), .val (.int p1), .val (.int p2), .val (.ref b4), .val (.int n), .val (.long mx2), .second, .val (.long rm), .second, .val (.ref b9), .unset, .unset, .unset, .unset, .unset, .unset, .unset, .unset, .unset, .unset, .unset, .unset, .unset, .unset, .unset] [(.int 2), (.long ct2), (.int 0), (.long ct0), (.int 1), (.long ct1), (.ref b9)])) rfl (by rw [hml]; rfl) (argsL := [(.long ct1), (.int 1), (.long ct0), (.int 0), (.long ct2), (.int 2)]) (rest := [(.ref b9)]) (lenOf pd_13 rfl) rfl (by show 2 * 0 + _ ≤ _; exact Nat.le_of_eq rfl) (hb hby at_239) (fun _ _ => ⟨rfl, e69, (by decide : 2 + 0 ≤ _), (by decide : 6 + 0 ≤ _)⟩)
           dsimp only [Pt.U, Pt.locs, Pt.cells, Pt.slots] at X70 l70 y70 z70 st70 hQ70
           subst l70 y70 z70
           obtain ⟨rfl, Nq70, eh70⟩ := hQ70
           have N70 := Fr.app N69 Nq70
           refine Goes.step (B := T70.setTop (mkF m 242 #[.val (.long i0), .second, .val (.long i1), .second, .val (.long i2), .second, .val (.int i3), .val (.long i4), .second, .val (.int i5), .val (.long ct0), .second, .val (.long ct1), .second, .val (.long ct2), .second, .val (.int mb0), .val (.int mb1), .val (.int mb2), .val (.int p0), .val (.int p1), .val (.int p2), .val (.ref b4), .val (.int n), .val (.long mx2), .second, .val (.long rm), .second, .val (.ref b9), .unset, .unset, .unset, .unset, .unset, .unset, .unset, .unset, .unset, .unset, .unset, .unset, .unset, .unset, .unset] [(.int (own_psn ct1 (1 : Int32) ct0 (0 : Int32) ct2 (2 : Int32))), (.ref b9)])) st70 ?_
           rw [ps1]
           refine Goes.step (fun _ k => pw_iconst X70.here hx (v := (1 : Int32)) (hb hby at_242) rfl _ k) ?_
           obtain ⟨c71, Ar71, q71, Sz71, Nn71, Hs71, Gs71⟩ := id V69
           have hin71 : ¬ ((1 : Int32) < 0 ∨ c71.slots.size ≤ ((1 : Int32)).toNatClampNeg) := inb_of Sz71 ⟨by decide, by decide⟩
           obtain ⟨T71, h71, X71, e71, W71, st71⟩ := stI X70 hx hZ eh70 Ar71 (j := (1 : Int32)) hin71 (g := (mkF m 243 #[.val (.long i0), .second, .val (.long i1), .second, .val (.long i2), .second, .val (.int i3), .val (.long i4), .second, .val (.int i5), .val (.long ct0), .second, .val (.long ct1), .second, .val (.long ct2), .second, .val (.int mb0), .val (.int mb1), .val (.int mb2), .val (.int p0), .val (.int p1), .val (.int p2), .val (.ref b4), .val (.int n), .val (.long mx2), .second, .val (.long rm), .second, .val (.ref b9), .unset, .unset, .unset, .unset, .unset, .unset, .unset, .unset, .unset, .unset, .unset, .unset, .unset, .unset, .unset] [(.int 1), (.int 1), (.ref b9)])) rfl rfl (hb hby at_243)
           have V71 : Arv Z h71 b9 k9 .int (3 : Int32) [(.int 0), (.int 1), (.int 0)] (.int 0) := Arv.set Ar71 q71 Sz71 Nn71 Hs71 Gs71 rfl W71 1 rfl (Nat.le_of_ble_eq_true rfl)
           have N71 := Fr.snoc X71 N70 g_b9
           have O_71 := O_69.wr W71 g_b9
           refine Goes.step (B := T71.setTop (mkF m 244 #[.val (.long i0), .second, .val (.long i1), .second, .val (.long i2), .second, .val (.int i3), .val (.long i4), .second, .val (.int i5), .val (.long ct0), .second, .val (.long ct1), .second, .val (.long ct2), .second, .val (.int mb0), .val (.int mb1), .val (.int mb2), .val (.int p0), .val (.int p1), .val (.int p2), .val (.ref b4), .val (.int n), .val (.long mx2), .second, .val (.long rm), .second, .val (.ref b9), .unset, .unset, .unset, .unset, .unset, .unset, .unset, .unset, .unset, .unset, .unset, .unset, .unset, .unset, .unset] [])) st71 ?_
           refine Goes.step (fun _ k => pw_aload X71.here hx (hb hby at_244) rfl rfl _ (pw_lload X71.here hx (hb hby at_246) rfl _ (pw_iconst X71.here hx (v := (2 : Int32)) (hb hby at_248) rfl _ (pw_lload X71.here hx (hb hby at_249) rfl _ (pw_iconst X71.here hx (v := (0 : Int32)) (hb hby at_251) rfl _ (pw_lload X71.here hx (hb hby at_252) rfl _ k)))))) ?_
           refine Goes.step (fun _ k => pw_iconst X71.here hx (v := (1 : Int32)) (hb hby at_254) rfl _ k) ?_
           obtain ⟨_, _, ⟨T72, L72, k72, n72⟩, -, X72, ⟨Lc72, hQ72, l72, y72, z72⟩, st72⟩ := Jvm.LawKit.callS X71 hx (y := (⟨"com/example/errantry/errantry/staff/CompletionBoundsCheapestPinLaw", "position", "(JIJIJI)I"⟩ : MethodName)) hown (mvT hZ (own_w3 hw)) (mvT hZ (own_w4 hw)) (mvT hZ (own_w5 hw)) (mvT hZ (own_w6 hw)) (by decide) (backOf (W := 1) (rm1 l Z a0 hw [] ct2 (2 : Int32) ct0 (0 : Int32) ct1 (1 : Int32) h71 n0 O_71 ) hZ (own_w6 hw) (own_w5 hw) (by decide) (by decide)) (g := (mkF m 255 #[.val (.long i0), .second, .val (.long i1), .second, .val (.long i2), .second, .val (.int i3), .val (.long i4), .second, .val (.int i5), .val (.long ct0), .second, .val (.long ct1), .second, .val (.long ct2), .second, .val (.int mb0), .val (.int mb1), .val (.int mb2), .val (.int p0), .val (.int p1), .val (.int p2), .val (.ref b4), .val (.int n), .val (.long mx2), .second, .val (.long rm), .second, .val (.ref b9), .unset, .unset, .unset, .unset, .unset, .unset, .unset, .unset, .unset, .unset, .unset, .unset, .unset, .unset, .unset] [(.int 1), (.long ct1), (.int 0), (.long ct0), (.int 2), (.long ct2), (.ref b9)])) rfl (by rw [hml]; rfl) (argsL := [(.long ct2), (.int 2), (.long ct0), (.int 0), (.long ct1), (.int 1)]) (rest := [(.ref b9)]) (lenOf pd_13 rfl) rfl (by show 2 * 0 + _ ≤ _; exact Nat.le_of_eq rfl) (hb hby at_255) (fun _ _ => ⟨rfl, e71, (by decide : 2 + 0 ≤ _), (by decide : 6 + 0 ≤ _)⟩)
           dsimp only [Pt.U, Pt.locs, Pt.cells, Pt.slots] at X72 l72 y72 z72 st72 hQ72
           subst l72 y72 z72
           obtain ⟨rfl, Nq72, eh72⟩ := hQ72
           have N72 := Fr.app N71 Nq72
           refine Goes.step (B := T72.setTop (mkF m 258 #[.val (.long i0), .second, .val (.long i1), .second, .val (.long i2), .second, .val (.int i3), .val (.long i4), .second, .val (.int i5), .val (.long ct0), .second, .val (.long ct1), .second, .val (.long ct2), .second, .val (.int mb0), .val (.int mb1), .val (.int mb2), .val (.int p0), .val (.int p1), .val (.int p2), .val (.ref b4), .val (.int n), .val (.long mx2), .second, .val (.long rm), .second, .val (.ref b9), .unset, .unset, .unset, .unset, .unset, .unset, .unset, .unset, .unset, .unset, .unset, .unset, .unset, .unset, .unset] [(.int (own_psn ct2 (2 : Int32) ct0 (0 : Int32) ct1 (1 : Int32))), (.ref b9)])) st72 ?_
           rw [ps2]
           refine Goes.step (fun _ k => pw_iconst X72.here hx (v := (2 : Int32)) (hb hby at_258) rfl _ k) ?_
           obtain ⟨c73, Ar73, q73, Sz73, Nn73, Hs73, Gs73⟩ := id V71
           have hin73 : ¬ ((2 : Int32) < 0 ∨ c73.slots.size ≤ ((2 : Int32)).toNatClampNeg) := inb_of Sz73 ⟨by decide, by decide⟩
           obtain ⟨T73, h73, X73, e73, W73, st73⟩ := stI X72 hx hZ eh72 Ar73 (j := (2 : Int32)) hin73 (g := (mkF m 259 #[.val (.long i0), .second, .val (.long i1), .second, .val (.long i2), .second, .val (.int i3), .val (.long i4), .second, .val (.int i5), .val (.long ct0), .second, .val (.long ct1), .second, .val (.long ct2), .second, .val (.int mb0), .val (.int mb1), .val (.int mb2), .val (.int p0), .val (.int p1), .val (.int p2), .val (.ref b4), .val (.int n), .val (.long mx2), .second, .val (.long rm), .second, .val (.ref b9), .unset, .unset, .unset, .unset, .unset, .unset, .unset, .unset, .unset, .unset, .unset, .unset, .unset, .unset, .unset] [(.int 2), (.int 2), (.ref b9)])) rfl rfl (hb hby at_259)
           have V73 : Arv Z h73 b9 k9 .int (3 : Int32) [(.int 0), (.int 1), (.int 2)] (.int 0) := Arv.set Ar73 q73 Sz73 Nn73 Hs73 Gs73 rfl W73 2 rfl (Nat.le_of_ble_eq_true rfl)
           have N73 := Fr.snoc X73 N72 g_b9
           have O_73 := O_71.wr W73 g_b9
           refine Goes.step (B := T73.setTop (mkF m 260 #[.val (.long i0), .second, .val (.long i1), .second, .val (.long i2), .second, .val (.int i3), .val (.long i4), .second, .val (.int i5), .val (.long ct0), .second, .val (.long ct1), .second, .val (.long ct2), .second, .val (.int mb0), .val (.int mb1), .val (.int mb2), .val (.int p0), .val (.int p1), .val (.int p2), .val (.ref b4), .val (.int n), .val (.long mx2), .second, .val (.long rm), .second, .val (.ref b9), .unset, .unset, .unset, .unset, .unset, .unset, .unset, .unset, .unset, .unset, .unset, .unset, .unset, .unset, .unset] [])) st73 ?_
           have f74 := ((((fj8_0.ext E9).other W69 ne_b4_b9).other W71 ne_b4_b9).other W73 ne_b4_b9)
           exact J10 _ _ _ (0 : Int32) (1 : Int32) (2 : Int32) X73 e73 O_73 N73 f74 V73 (own_perms _ _ _ (Or.inl ⟨rfl, rfl, rfl⟩))
         · refine Goes.step (fun _ k => pw_aload X9.here hx (hb hby at_212) rfl rfl _ (pw_lload X9.here hx (hb hby at_214) rfl _ (pw_iconst X9.here hx (v := (0 : Int32)) (hb hby at_216) rfl _ (pw_lload X9.here hx (hb hby at_217) rfl _ (pw_iconst X9.here hx (v := (1 : Int32)) (hb hby at_219) rfl _ (pw_lload X9.here hx (hb hby at_220) rfl _ k)))))) ?_
           refine Goes.step (fun _ k => pw_iconst X9.here hx (v := (2 : Int32)) (hb hby at_222) rfl _ k) ?_
           obtain ⟨_, _, ⟨T75, L75, k75, n75⟩, -, X75, ⟨Lc75, hQ75, l75, y75, z75⟩, st75⟩ := Jvm.LawKit.callS X9 hx (y := (⟨"com/example/errantry/errantry/staff/CompletionBoundsCheapestPinLaw", "position", "(JIJIJI)I"⟩ : MethodName)) hown (mvT hZ (own_w3 hw)) (mvT hZ (own_w4 hw)) (mvT hZ (own_w5 hw)) (mvT hZ (own_w6 hw)) (by decide) (backOf (W := 1) (rm1 l Z a0 hw [] ct0 (0 : Int32) ct1 (1 : Int32) ct2 (2 : Int32) h9 n0 O_9 ) hZ (own_w6 hw) (own_w5 hw) (by decide) (by decide)) (g := (mkF m 223 #[.val (.long i0), .second, .val (.long i1), .second, .val (.long i2), .second, .val (.int i3), .val (.long i4), .second, .val (.int i5), .val (.long ct0), .second, .val (.long ct1), .second, .val (.long ct2), .second, .val (.int mb0), .val (.int mb1), .val (.int mb2), .val (.int p0), .val (.int p1), .val (.int p2), .val (.ref b4), .val (.int n), .val (.long mx2), .second, .val (.long rm), .second, .val (.ref b9), .unset, .unset, .unset, .unset, .unset, .unset, .unset, .unset, .unset, .unset, .unset, .unset, .unset, .unset, .unset] [(.int 2), (.long ct2), (.int 1), (.long ct1), (.int 0), (.long ct0), (.ref b9)])) rfl (by rw [hml]; rfl) (argsL := [(.long ct0), (.int 0), (.long ct1), (.int 1), (.long ct2), (.int 2)]) (rest := [(.ref b9)]) (lenOf pd_13 rfl) rfl (by show 2 * 0 + _ ≤ _; exact Nat.le_of_eq rfl) (hb hby at_223) (fun _ _ => ⟨rfl, e9, (by decide : 2 + 0 ≤ _), (by decide : 6 + 0 ≤ _)⟩)
           dsimp only [Pt.U, Pt.locs, Pt.cells, Pt.slots] at X75 l75 y75 z75 st75 hQ75
           subst l75 y75 z75
           obtain ⟨rfl, Nq75, eh75⟩ := hQ75
           have N75 := Fr.app Nj8 Nq75
           refine Goes.step (B := T75.setTop (mkF m 226 #[.val (.long i0), .second, .val (.long i1), .second, .val (.long i2), .second, .val (.int i3), .val (.long i4), .second, .val (.int i5), .val (.long ct0), .second, .val (.long ct1), .second, .val (.long ct2), .second, .val (.int mb0), .val (.int mb1), .val (.int mb2), .val (.int p0), .val (.int p1), .val (.int p2), .val (.ref b4), .val (.int n), .val (.long mx2), .second, .val (.long rm), .second, .val (.ref b9), .unset, .unset, .unset, .unset, .unset, .unset, .unset, .unset, .unset, .unset, .unset, .unset, .unset, .unset, .unset] [(.int (own_psn ct0 (0 : Int32) ct1 (1 : Int32) ct2 (2 : Int32))), (.ref b9)])) st75 ?_
           rw [ps0]
           refine Goes.step (fun _ k => pw_iconst X75.here hx (v := (0 : Int32)) (hb hby at_226) rfl _ k) ?_
           obtain ⟨c76, Ar76, q76, Sz76, Nn76, Hs76, Gs76⟩ := id V_b9
           have hin76 : ¬ ((0 : Int32) < 0 ∨ c76.slots.size ≤ ((0 : Int32)).toNatClampNeg) := inb_of Sz76 ⟨by decide, by decide⟩
           obtain ⟨T76, h76, X76, e76, W76, st76⟩ := stI X75 hx hZ eh75 Ar76 (j := (0 : Int32)) hin76 (g := (mkF m 227 #[.val (.long i0), .second, .val (.long i1), .second, .val (.long i2), .second, .val (.int i3), .val (.long i4), .second, .val (.int i5), .val (.long ct0), .second, .val (.long ct1), .second, .val (.long ct2), .second, .val (.int mb0), .val (.int mb1), .val (.int mb2), .val (.int p0), .val (.int p1), .val (.int p2), .val (.ref b4), .val (.int n), .val (.long mx2), .second, .val (.long rm), .second, .val (.ref b9), .unset, .unset, .unset, .unset, .unset, .unset, .unset, .unset, .unset, .unset, .unset, .unset, .unset, .unset, .unset] [(.int 0), (.int 0), (.ref b9)])) rfl rfl (hb hby at_227)
           have V76 : Arv Z h76 b9 k9 .int (3 : Int32) [(.int 0), (.int 0), (.int 0)] (.int 0) := Arv.set Ar76 q76 Sz76 Nn76 Hs76 Gs76 rfl W76 0 rfl (Nat.le_of_ble_eq_true rfl)
           have N76 := Fr.snoc X76 N75 g_b9
           have O_76 := O_9.wr W76 g_b9
           refine Goes.step (B := T76.setTop (mkF m 228 #[.val (.long i0), .second, .val (.long i1), .second, .val (.long i2), .second, .val (.int i3), .val (.long i4), .second, .val (.int i5), .val (.long ct0), .second, .val (.long ct1), .second, .val (.long ct2), .second, .val (.int mb0), .val (.int mb1), .val (.int mb2), .val (.int p0), .val (.int p1), .val (.int p2), .val (.ref b4), .val (.int n), .val (.long mx2), .second, .val (.long rm), .second, .val (.ref b9), .unset, .unset, .unset, .unset, .unset, .unset, .unset, .unset, .unset, .unset, .unset, .unset, .unset, .unset, .unset] [])) st76 ?_
           refine Goes.step (fun _ k => pw_aload X76.here hx (hb hby at_228) rfl rfl _ (pw_lload X76.here hx (hb hby at_230) rfl _ (pw_iconst X76.here hx (v := (1 : Int32)) (hb hby at_232) rfl _ (pw_lload X76.here hx (hb hby at_233) rfl _ (pw_iconst X76.here hx (v := (0 : Int32)) (hb hby at_235) rfl _ (pw_lload X76.here hx (hb hby at_236) rfl _ k)))))) ?_
           refine Goes.step (fun _ k => pw_iconst X76.here hx (v := (2 : Int32)) (hb hby at_238) rfl _ k) ?_
           obtain ⟨_, _, ⟨T77, L77, k77, n77⟩, -, X77, ⟨Lc77, hQ77, l77, y77, z77⟩, st77⟩ := Jvm.LawKit.callS X76 hx (y := (⟨"com/example/errantry/errantry/staff/CompletionBoundsCheapestPinLaw", "position", "(JIJIJI)I"⟩ : MethodName)) hown (mvT hZ (own_w3 hw)) (mvT hZ (own_w4 hw)) (mvT hZ (own_w5 hw)) (mvT hZ (own_w6 hw)) (by decide) (backOf (W := 1) (rm1 l Z a0 hw [] ct1 (1 : Int32) ct0 (0 : Int32) ct2 (2 : Int32) h76 n0 O_76 ) hZ (own_w6 hw) (own_w5 hw) (by decide) (by decide)) (g := (mkF m 239 #[.val (.long i0), .second, .val (.long i1), .second, .val (.long i2), .second, .val (.int i3), .val (.long i4), .second, .val (.int i5), .val (.long ct0), .second, .val (.long ct1), .second, .val (.long ct2), .second, .val (.int mb0), .val (.int mb1), .val (.int mb2), .val (.int p0), .val (.int p1), .val (.int p2), .val (.ref b4), .val (.int n), .val (.long mx2), .second, .val (.long rm), .second, .val (.ref b9), .unset, .unset, .unset, .unset, .unset, .unset, .unset, .unset, .unset, .unset, .unset, .unset, .unset, .unset, .unset] [(.int 2), (.long ct2), (.int 0), (.long ct0), (.int 1), (.long ct1), (.ref b9)])) rfl (by rw [hml]; rfl) (argsL := [(.long ct1), (.int 1), (.long ct0), (.int 0), (.long ct2), (.int 2)]) (rest := [(.ref b9)]) (lenOf pd_13 rfl) rfl (by show 2 * 0 + _ ≤ _; exact Nat.le_of_eq rfl) (hb hby at_239) (fun _ _ => ⟨rfl, e76, (by decide : 2 + 0 ≤ _), (by decide : 6 + 0 ≤ _)⟩)
           dsimp only [Pt.U, Pt.locs, Pt.cells, Pt.slots] at X77 l77 y77 z77 st77 hQ77
           subst l77 y77 z77
           obtain ⟨rfl, Nq77, eh77⟩ := hQ77
           have N77 := Fr.app N76 Nq77
           refine Goes.step (B := T77.setTop (mkF m 242 #[.val (.long i0), .second, .val (.long i1), .second, .val (.long i2), .second, .val (.int i3), .val (.long i4), .second, .val (.int i5), .val (.long ct0), .second, .val (.long ct1), .second, .val (.long ct2), .second, .val (.int mb0), .val (.int mb1), .val (.int mb2), .val (.int p0), .val (.int p1), .val (.int p2), .val (.ref b4), .val (.int n), .val (.long mx2), .second, .val (.long rm), .second, .val (.ref b9), .unset, .unset, .unset, .unset, .unset, .unset, .unset, .unset, .unset, .unset, .unset, .unset, .unset, .unset, .unset] [(.int (own_psn ct1 (1 : Int32) ct0 (0 : Int32) ct2 (2 : Int32))), (.ref b9)])) st77 ?_
           rw [ps1]
           refine Goes.step (fun _ k => pw_iconst X77.here hx (v := (1 : Int32)) (hb hby at_242) rfl _ k) ?_
           obtain ⟨c78, Ar78, q78, Sz78, Nn78, Hs78, Gs78⟩ := id V76
           have hin78 : ¬ ((2 : Int32) < 0 ∨ c78.slots.size ≤ ((2 : Int32)).toNatClampNeg) := inb_of Sz78 ⟨by decide, by decide⟩
           obtain ⟨T78, h78, X78, e78, W78, st78⟩ := stI X77 hx hZ eh77 Ar78 (j := (2 : Int32)) hin78 (g := (mkF m 243 #[.val (.long i0), .second, .val (.long i1), .second, .val (.long i2), .second, .val (.int i3), .val (.long i4), .second, .val (.int i5), .val (.long ct0), .second, .val (.long ct1), .second, .val (.long ct2), .second, .val (.int mb0), .val (.int mb1), .val (.int mb2), .val (.int p0), .val (.int p1), .val (.int p2), .val (.ref b4), .val (.int n), .val (.long mx2), .second, .val (.long rm), .second, .val (.ref b9), .unset, .unset, .unset, .unset, .unset, .unset, .unset, .unset, .unset, .unset, .unset, .unset, .unset, .unset, .unset] [(.int 1), (.int 2), (.ref b9)])) rfl rfl (hb hby at_243)
           have V78 : Arv Z h78 b9 k9 .int (3 : Int32) [(.int 0), (.int 0), (.int 1)] (.int 0) := Arv.set Ar78 q78 Sz78 Nn78 Hs78 Gs78 rfl W78 2 rfl (Nat.le_of_ble_eq_true rfl)
           have N78 := Fr.snoc X78 N77 g_b9
           have O_78 := O_76.wr W78 g_b9
           refine Goes.step (B := T78.setTop (mkF m 244 #[.val (.long i0), .second, .val (.long i1), .second, .val (.long i2), .second, .val (.int i3), .val (.long i4), .second, .val (.int i5), .val (.long ct0), .second, .val (.long ct1), .second, .val (.long ct2), .second, .val (.int mb0), .val (.int mb1), .val (.int mb2), .val (.int p0), .val (.int p1), .val (.int p2), .val (.ref b4), .val (.int n), .val (.long mx2), .second, .val (.long rm), .second, .val (.ref b9), .unset, .unset, .unset, .unset, .unset, .unset, .unset, .unset, .unset, .unset, .unset, .unset, .unset, .unset, .unset] [])) st78 ?_
           refine Goes.step (fun _ k => pw_aload X78.here hx (hb hby at_244) rfl rfl _ (pw_lload X78.here hx (hb hby at_246) rfl _ (pw_iconst X78.here hx (v := (2 : Int32)) (hb hby at_248) rfl _ (pw_lload X78.here hx (hb hby at_249) rfl _ (pw_iconst X78.here hx (v := (0 : Int32)) (hb hby at_251) rfl _ (pw_lload X78.here hx (hb hby at_252) rfl _ k)))))) ?_
           refine Goes.step (fun _ k => pw_iconst X78.here hx (v := (1 : Int32)) (hb hby at_254) rfl _ k) ?_
           obtain ⟨_, _, ⟨T79, L79, k79, n79⟩, -, X79, ⟨Lc79, hQ79, l79, y79, z79⟩, st79⟩ := Jvm.LawKit.callS X78 hx (y := (⟨"com/example/errantry/errantry/staff/CompletionBoundsCheapestPinLaw", "position", "(JIJIJI)I"⟩ : MethodName)) hown (mvT hZ (own_w3 hw)) (mvT hZ (own_w4 hw)) (mvT hZ (own_w5 hw)) (mvT hZ (own_w6 hw)) (by decide) (backOf (W := 1) (rm1 l Z a0 hw [] ct2 (2 : Int32) ct0 (0 : Int32) ct1 (1 : Int32) h78 n0 O_78 ) hZ (own_w6 hw) (own_w5 hw) (by decide) (by decide)) (g := (mkF m 255 #[.val (.long i0), .second, .val (.long i1), .second, .val (.long i2), .second, .val (.int i3), .val (.long i4), .second, .val (.int i5), .val (.long ct0), .second, .val (.long ct1), .second, .val (.long ct2), .second, .val (.int mb0), .val (.int mb1), .val (.int mb2), .val (.int p0), .val (.int p1), .val (.int p2), .val (.ref b4), .val (.int n), .val (.long mx2), .second, .val (.long rm), .second, .val (.ref b9), .unset, .unset, .unset, .unset, .unset, .unset, .unset, .unset, .unset, .unset, .unset, .unset, .unset, .unset, .unset] [(.int 1), (.long ct1), (.int 0), (.long ct0), (.int 2), (.long ct2), (.ref b9)])) rfl (by rw [hml]; rfl) (argsL := [(.long ct2), (.int 2), (.long ct0), (.int 0), (.long ct1), (.int 1)]) (rest := [(.ref b9)]) (lenOf pd_13 rfl) rfl (by show 2 * 0 + _ ≤ _; exact Nat.le_of_eq rfl) (hb hby at_255) (fun _ _ => ⟨rfl, e78, (by decide : 2 + 0 ≤ _), (by decide : 6 + 0 ≤ _)⟩)
           dsimp only [Pt.U, Pt.locs, Pt.cells, Pt.slots] at X79 l79 y79 z79 st79 hQ79
           subst l79 y79 z79
           obtain ⟨rfl, Nq79, eh79⟩ := hQ79
           have N79 := Fr.app N78 Nq79
           refine Goes.step (B := T79.setTop (mkF m 258 #[.val (.long i0), .second, .val (.long i1), .second, .val (.long i2), .second, .val (.int i3), .val (.long i4), .second, .val (.int i5), .val (.long ct0), .second, .val (.long ct1), .second, .val (.long ct2), .second, .val (.int mb0), .val (.int mb1), .val (.int mb2), .val (.int p0), .val (.int p1), .val (.int p2), .val (.ref b4), .val (.int n), .val (.long mx2), .second, .val (.long rm), .second, .val (.ref b9), .unset, .unset, .unset, .unset, .unset, .unset, .unset, .unset, .unset, .unset, .unset, .unset, .unset, .unset, .unset] [(.int (own_psn ct2 (2 : Int32) ct0 (0 : Int32) ct1 (1 : Int32))), (.ref b9)])) st79 ?_
           rw [ps2]
           refine Goes.step (fun _ k => pw_iconst X79.here hx (v := (2 : Int32)) (hb hby at_258) rfl _ k) ?_
           obtain ⟨c80, Ar80, q80, Sz80, Nn80, Hs80, Gs80⟩ := id V78
           have hin80 : ¬ ((1 : Int32) < 0 ∨ c80.slots.size ≤ ((1 : Int32)).toNatClampNeg) := inb_of Sz80 ⟨by decide, by decide⟩
           obtain ⟨T80, h80, X80, e80, W80, st80⟩ := stI X79 hx hZ eh79 Ar80 (j := (1 : Int32)) hin80 (g := (mkF m 259 #[.val (.long i0), .second, .val (.long i1), .second, .val (.long i2), .second, .val (.int i3), .val (.long i4), .second, .val (.int i5), .val (.long ct0), .second, .val (.long ct1), .second, .val (.long ct2), .second, .val (.int mb0), .val (.int mb1), .val (.int mb2), .val (.int p0), .val (.int p1), .val (.int p2), .val (.ref b4), .val (.int n), .val (.long mx2), .second, .val (.long rm), .second, .val (.ref b9), .unset, .unset, .unset, .unset, .unset, .unset, .unset, .unset, .unset, .unset, .unset, .unset, .unset, .unset, .unset] [(.int 2), (.int 1), (.ref b9)])) rfl rfl (hb hby at_259)
           have V80 : Arv Z h80 b9 k9 .int (3 : Int32) [(.int 0), (.int 2), (.int 1)] (.int 0) := Arv.set Ar80 q80 Sz80 Nn80 Hs80 Gs80 rfl W80 1 rfl (Nat.le_of_ble_eq_true rfl)
           have N80 := Fr.snoc X80 N79 g_b9
           have O_80 := O_78.wr W80 g_b9
           refine Goes.step (B := T80.setTop (mkF m 260 #[.val (.long i0), .second, .val (.long i1), .second, .val (.long i2), .second, .val (.int i3), .val (.long i4), .second, .val (.int i5), .val (.long ct0), .second, .val (.long ct1), .second, .val (.long ct2), .second, .val (.int mb0), .val (.int mb1), .val (.int mb2), .val (.int p0), .val (.int p1), .val (.int p2), .val (.ref b4), .val (.int n), .val (.long mx2), .second, .val (.long rm), .second, .val (.ref b9), .unset, .unset, .unset, .unset, .unset, .unset, .unset, .unset, .unset, .unset, .unset, .unset, .unset, .unset, .unset] [])) st80 ?_
           have f81 := ((((fj8_0.ext E9).other W76 ne_b4_b9).other W78 ne_b4_b9).other W80 ne_b4_b9)
           exact J10 _ _ _ (0 : Int32) (2 : Int32) (1 : Int32) X80 e80 O_80 N80 f81 V80 (own_perms _ _ _ (Or.inr (Or.inl ⟨rfl, rfl, rfl⟩)))
         · refine Goes.step (fun _ k => pw_aload X9.here hx (hb hby at_212) rfl rfl _ (pw_lload X9.here hx (hb hby at_214) rfl _ (pw_iconst X9.here hx (v := (0 : Int32)) (hb hby at_216) rfl _ (pw_lload X9.here hx (hb hby at_217) rfl _ (pw_iconst X9.here hx (v := (1 : Int32)) (hb hby at_219) rfl _ (pw_lload X9.here hx (hb hby at_220) rfl _ k)))))) ?_
           refine Goes.step (fun _ k => pw_iconst X9.here hx (v := (2 : Int32)) (hb hby at_222) rfl _ k) ?_
           obtain ⟨_, _, ⟨T82, L82, k82, n82⟩, -, X82, ⟨Lc82, hQ82, l82, y82, z82⟩, st82⟩ := Jvm.LawKit.callS X9 hx (y := (⟨"com/example/errantry/errantry/staff/CompletionBoundsCheapestPinLaw", "position", "(JIJIJI)I"⟩ : MethodName)) hown (mvT hZ (own_w3 hw)) (mvT hZ (own_w4 hw)) (mvT hZ (own_w5 hw)) (mvT hZ (own_w6 hw)) (by decide) (backOf (W := 1) (rm1 l Z a0 hw [] ct0 (0 : Int32) ct1 (1 : Int32) ct2 (2 : Int32) h9 n0 O_9 ) hZ (own_w6 hw) (own_w5 hw) (by decide) (by decide)) (g := (mkF m 223 #[.val (.long i0), .second, .val (.long i1), .second, .val (.long i2), .second, .val (.int i3), .val (.long i4), .second, .val (.int i5), .val (.long ct0), .second, .val (.long ct1), .second, .val (.long ct2), .second, .val (.int mb0), .val (.int mb1), .val (.int mb2), .val (.int p0), .val (.int p1), .val (.int p2), .val (.ref b4), .val (.int n), .val (.long mx2), .second, .val (.long rm), .second, .val (.ref b9), .unset, .unset, .unset, .unset, .unset, .unset, .unset, .unset, .unset, .unset, .unset, .unset, .unset, .unset, .unset] [(.int 2), (.long ct2), (.int 1), (.long ct1), (.int 0), (.long ct0), (.ref b9)])) rfl (by rw [hml]; rfl) (argsL := [(.long ct0), (.int 0), (.long ct1), (.int 1), (.long ct2), (.int 2)]) (rest := [(.ref b9)]) (lenOf pd_13 rfl) rfl (by show 2 * 0 + _ ≤ _; exact Nat.le_of_eq rfl) (hb hby at_223) (fun _ _ => ⟨rfl, e9, (by decide : 2 + 0 ≤ _), (by decide : 6 + 0 ≤ _)⟩)
           dsimp only [Pt.U, Pt.locs, Pt.cells, Pt.slots] at X82 l82 y82 z82 st82 hQ82
           subst l82 y82 z82
           obtain ⟨rfl, Nq82, eh82⟩ := hQ82
           have N82 := Fr.app Nj8 Nq82
           refine Goes.step (B := T82.setTop (mkF m 226 #[.val (.long i0), .second, .val (.long i1), .second, .val (.long i2), .second, .val (.int i3), .val (.long i4), .second, .val (.int i5), .val (.long ct0), .second, .val (.long ct1), .second, .val (.long ct2), .second, .val (.int mb0), .val (.int mb1), .val (.int mb2), .val (.int p0), .val (.int p1), .val (.int p2), .val (.ref b4), .val (.int n), .val (.long mx2), .second, .val (.long rm), .second, .val (.ref b9), .unset, .unset, .unset, .unset, .unset, .unset, .unset, .unset, .unset, .unset, .unset, .unset, .unset, .unset, .unset] [(.int (own_psn ct0 (0 : Int32) ct1 (1 : Int32) ct2 (2 : Int32))), (.ref b9)])) st82 ?_
           rw [ps0]
           refine Goes.step (fun _ k => pw_iconst X82.here hx (v := (0 : Int32)) (hb hby at_226) rfl _ k) ?_
           obtain ⟨c83, Ar83, q83, Sz83, Nn83, Hs83, Gs83⟩ := id V_b9
           have hin83 : ¬ ((1 : Int32) < 0 ∨ c83.slots.size ≤ ((1 : Int32)).toNatClampNeg) := inb_of Sz83 ⟨by decide, by decide⟩
           obtain ⟨T83, h83, X83, e83, W83, st83⟩ := stI X82 hx hZ eh82 Ar83 (j := (1 : Int32)) hin83 (g := (mkF m 227 #[.val (.long i0), .second, .val (.long i1), .second, .val (.long i2), .second, .val (.int i3), .val (.long i4), .second, .val (.int i5), .val (.long ct0), .second, .val (.long ct1), .second, .val (.long ct2), .second, .val (.int mb0), .val (.int mb1), .val (.int mb2), .val (.int p0), .val (.int p1), .val (.int p2), .val (.ref b4), .val (.int n), .val (.long mx2), .second, .val (.long rm), .second, .val (.ref b9), .unset, .unset, .unset, .unset, .unset, .unset, .unset, .unset, .unset, .unset, .unset, .unset, .unset, .unset, .unset] [(.int 0), (.int 1), (.ref b9)])) rfl rfl (hb hby at_227)
           have V83 : Arv Z h83 b9 k9 .int (3 : Int32) [(.int 0), (.int 0), (.int 0)] (.int 0) := Arv.set Ar83 q83 Sz83 Nn83 Hs83 Gs83 rfl W83 1 rfl (Nat.le_of_ble_eq_true rfl)
           have N83 := Fr.snoc X83 N82 g_b9
           have O_83 := O_9.wr W83 g_b9
           refine Goes.step (B := T83.setTop (mkF m 228 #[.val (.long i0), .second, .val (.long i1), .second, .val (.long i2), .second, .val (.int i3), .val (.long i4), .second, .val (.int i5), .val (.long ct0), .second, .val (.long ct1), .second, .val (.long ct2), .second, .val (.int mb0), .val (.int mb1), .val (.int mb2), .val (.int p0), .val (.int p1), .val (.int p2), .val (.ref b4), .val (.int n), .val (.long mx2), .second, .val (.long rm), .second, .val (.ref b9), .unset, .unset, .unset, .unset, .unset, .unset, .unset, .unset, .unset, .unset, .unset, .unset, .unset, .unset, .unset] [])) st83 ?_
           refine Goes.step (fun _ k => pw_aload X83.here hx (hb hby at_228) rfl rfl _ (pw_lload X83.here hx (hb hby at_230) rfl _ (pw_iconst X83.here hx (v := (1 : Int32)) (hb hby at_232) rfl _ (pw_lload X83.here hx (hb hby at_233) rfl _ (pw_iconst X83.here hx (v := (0 : Int32)) (hb hby at_235) rfl _ (pw_lload X83.here hx (hb hby at_236) rfl _ k)))))) ?_
           refine Goes.step (fun _ k => pw_iconst X83.here hx (v := (2 : Int32)) (hb hby at_238) rfl _ k) ?_
           obtain ⟨_, _, ⟨T84, L84, k84, n84⟩, -, X84, ⟨Lc84, hQ84, l84, y84, z84⟩, st84⟩ := Jvm.LawKit.callS X83 hx (y := (⟨"com/example/errantry/errantry/staff/CompletionBoundsCheapestPinLaw", "position", "(JIJIJI)I"⟩ : MethodName)) hown (mvT hZ (own_w3 hw)) (mvT hZ (own_w4 hw)) (mvT hZ (own_w5 hw)) (mvT hZ (own_w6 hw)) (by decide) (backOf (W := 1) (rm1 l Z a0 hw [] ct1 (1 : Int32) ct0 (0 : Int32) ct2 (2 : Int32) h83 n0 O_83 ) hZ (own_w6 hw) (own_w5 hw) (by decide) (by decide)) (g := (mkF m 239 #[.val (.long i0), .second, .val (.long i1), .second, .val (.long i2), .second, .val (.int i3), .val (.long i4), .second, .val (.int i5), .val (.long ct0), .second, .val (.long ct1), .second, .val (.long ct2), .second, .val (.int mb0), .val (.int mb1), .val (.int mb2), .val (.int p0), .val (.int p1), .val (.int p2), .val (.ref b4), .val (.int n), .val (.long mx2), .second, .val (.long rm), .second, .val (.ref b9), .unset, .unset, .unset, .unset, .unset, .unset, .unset, .unset, .unset, .unset, .unset, .unset, .unset, .unset, .unset] [(.int 2), (.long ct2), (.int 0), (.long ct0), (.int 1), (.long ct1), (.ref b9)])) rfl (by rw [hml]; rfl) (argsL := [(.long ct1), (.int 1), (.long ct0), (.int 0), (.long ct2), (.int 2)]) (rest := [(.ref b9)]) (lenOf pd_13 rfl) rfl (by show 2 * 0 + _ ≤ _; exact Nat.le_of_eq rfl) (hb hby at_239) (fun _ _ => ⟨rfl, e83, (by decide : 2 + 0 ≤ _), (by decide : 6 + 0 ≤ _)⟩)
           dsimp only [Pt.U, Pt.locs, Pt.cells, Pt.slots] at X84 l84 y84 z84 st84 hQ84
           subst l84 y84 z84
           obtain ⟨rfl, Nq84, eh84⟩ := hQ84
           have N84 := Fr.app N83 Nq84
           refine Goes.step (B := T84.setTop (mkF m 242 #[.val (.long i0), .second, .val (.long i1), .second, .val (.long i2), .second, .val (.int i3), .val (.long i4), .second, .val (.int i5), .val (.long ct0), .second, .val (.long ct1), .second, .val (.long ct2), .second, .val (.int mb0), .val (.int mb1), .val (.int mb2), .val (.int p0), .val (.int p1), .val (.int p2), .val (.ref b4), .val (.int n), .val (.long mx2), .second, .val (.long rm), .second, .val (.ref b9), .unset, .unset, .unset, .unset, .unset, .unset, .unset, .unset, .unset, .unset, .unset, .unset, .unset, .unset, .unset] [(.int (own_psn ct1 (1 : Int32) ct0 (0 : Int32) ct2 (2 : Int32))), (.ref b9)])) st84 ?_
           rw [ps1]
           refine Goes.step (fun _ k => pw_iconst X84.here hx (v := (1 : Int32)) (hb hby at_242) rfl _ k) ?_
           obtain ⟨c85, Ar85, q85, Sz85, Nn85, Hs85, Gs85⟩ := id V83
           have hin85 : ¬ ((0 : Int32) < 0 ∨ c85.slots.size ≤ ((0 : Int32)).toNatClampNeg) := inb_of Sz85 ⟨by decide, by decide⟩
           obtain ⟨T85, h85, X85, e85, W85, st85⟩ := stI X84 hx hZ eh84 Ar85 (j := (0 : Int32)) hin85 (g := (mkF m 243 #[.val (.long i0), .second, .val (.long i1), .second, .val (.long i2), .second, .val (.int i3), .val (.long i4), .second, .val (.int i5), .val (.long ct0), .second, .val (.long ct1), .second, .val (.long ct2), .second, .val (.int mb0), .val (.int mb1), .val (.int mb2), .val (.int p0), .val (.int p1), .val (.int p2), .val (.ref b4), .val (.int n), .val (.long mx2), .second, .val (.long rm), .second, .val (.ref b9), .unset, .unset, .unset, .unset, .unset, .unset, .unset, .unset, .unset, .unset, .unset, .unset, .unset, .unset, .unset] [(.int 1), (.int 0), (.ref b9)])) rfl rfl (hb hby at_243)
           have V85 : Arv Z h85 b9 k9 .int (3 : Int32) [(.int 1), (.int 0), (.int 0)] (.int 0) := Arv.set Ar85 q85 Sz85 Nn85 Hs85 Gs85 rfl W85 0 rfl (Nat.le_of_ble_eq_true rfl)
           have N85 := Fr.snoc X85 N84 g_b9
           have O_85 := O_83.wr W85 g_b9
           refine Goes.step (B := T85.setTop (mkF m 244 #[.val (.long i0), .second, .val (.long i1), .second, .val (.long i2), .second, .val (.int i3), .val (.long i4), .second, .val (.int i5), .val (.long ct0), .second, .val (.long ct1), .second, .val (.long ct2), .second, .val (.int mb0), .val (.int mb1), .val (.int mb2), .val (.int p0), .val (.int p1), .val (.int p2), .val (.ref b4), .val (.int n), .val (.long mx2), .second, .val (.long rm), .second, .val (.ref b9), .unset, .unset, .unset, .unset, .unset, .unset, .unset, .unset, .unset, .unset, .unset, .unset, .unset, .unset, .unset] [])) st85 ?_
           refine Goes.step (fun _ k => pw_aload X85.here hx (hb hby at_244) rfl rfl _ (pw_lload X85.here hx (hb hby at_246) rfl _ (pw_iconst X85.here hx (v := (2 : Int32)) (hb hby at_248) rfl _ (pw_lload X85.here hx (hb hby at_249) rfl _ (pw_iconst X85.here hx (v := (0 : Int32)) (hb hby at_251) rfl _ (pw_lload X85.here hx (hb hby at_252) rfl _ k)))))) ?_
           refine Goes.step (fun _ k => pw_iconst X85.here hx (v := (1 : Int32)) (hb hby at_254) rfl _ k) ?_
           obtain ⟨_, _, ⟨T86, L86, k86, n86⟩, -, X86, ⟨Lc86, hQ86, l86, y86, z86⟩, st86⟩ := Jvm.LawKit.callS X85 hx (y := (⟨"com/example/errantry/errantry/staff/CompletionBoundsCheapestPinLaw", "position", "(JIJIJI)I"⟩ : MethodName)) hown (mvT hZ (own_w3 hw)) (mvT hZ (own_w4 hw)) (mvT hZ (own_w5 hw)) (mvT hZ (own_w6 hw)) (by decide) (backOf (W := 1) (rm1 l Z a0 hw [] ct2 (2 : Int32) ct0 (0 : Int32) ct1 (1 : Int32) h85 n0 O_85 ) hZ (own_w6 hw) (own_w5 hw) (by decide) (by decide)) (g := (mkF m 255 #[.val (.long i0), .second, .val (.long i1), .second, .val (.long i2), .second, .val (.int i3), .val (.long i4), .second, .val (.int i5), .val (.long ct0), .second, .val (.long ct1), .second, .val (.long ct2), .second, .val (.int mb0), .val (.int mb1), .val (.int mb2), .val (.int p0), .val (.int p1), .val (.int p2), .val (.ref b4), .val (.int n), .val (.long mx2), .second, .val (.long rm), .second, .val (.ref b9), .unset, .unset, .unset, .unset, .unset, .unset, .unset, .unset, .unset, .unset, .unset, .unset, .unset, .unset, .unset] [(.int 1), (.long ct1), (.int 0), (.long ct0), (.int 2), (.long ct2), (.ref b9)])) rfl (by rw [hml]; rfl) (argsL := [(.long ct2), (.int 2), (.long ct0), (.int 0), (.long ct1), (.int 1)]) (rest := [(.ref b9)]) (lenOf pd_13 rfl) rfl (by show 2 * 0 + _ ≤ _; exact Nat.le_of_eq rfl) (hb hby at_255) (fun _ _ => ⟨rfl, e85, (by decide : 2 + 0 ≤ _), (by decide : 6 + 0 ≤ _)⟩)
           dsimp only [Pt.U, Pt.locs, Pt.cells, Pt.slots] at X86 l86 y86 z86 st86 hQ86
           subst l86 y86 z86
           obtain ⟨rfl, Nq86, eh86⟩ := hQ86
           have N86 := Fr.app N85 Nq86
           refine Goes.step (B := T86.setTop (mkF m 258 #[.val (.long i0), .second, .val (.long i1), .second, .val (.long i2), .second, .val (.int i3), .val (.long i4), .second, .val (.int i5), .val (.long ct0), .second, .val (.long ct1), .second, .val (.long ct2), .second, .val (.int mb0), .val (.int mb1), .val (.int mb2), .val (.int p0), .val (.int p1), .val (.int p2), .val (.ref b4), .val (.int n), .val (.long mx2), .second, .val (.long rm), .second, .val (.ref b9), .unset, .unset, .unset, .unset, .unset, .unset, .unset, .unset, .unset, .unset, .unset, .unset, .unset, .unset, .unset] [(.int (own_psn ct2 (2 : Int32) ct0 (0 : Int32) ct1 (1 : Int32))), (.ref b9)])) st86 ?_
           rw [ps2]
           refine Goes.step (fun _ k => pw_iconst X86.here hx (v := (2 : Int32)) (hb hby at_258) rfl _ k) ?_
           obtain ⟨c87, Ar87, q87, Sz87, Nn87, Hs87, Gs87⟩ := id V85
           have hin87 : ¬ ((2 : Int32) < 0 ∨ c87.slots.size ≤ ((2 : Int32)).toNatClampNeg) := inb_of Sz87 ⟨by decide, by decide⟩
           obtain ⟨T87, h87, X87, e87, W87, st87⟩ := stI X86 hx hZ eh86 Ar87 (j := (2 : Int32)) hin87 (g := (mkF m 259 #[.val (.long i0), .second, .val (.long i1), .second, .val (.long i2), .second, .val (.int i3), .val (.long i4), .second, .val (.int i5), .val (.long ct0), .second, .val (.long ct1), .second, .val (.long ct2), .second, .val (.int mb0), .val (.int mb1), .val (.int mb2), .val (.int p0), .val (.int p1), .val (.int p2), .val (.ref b4), .val (.int n), .val (.long mx2), .second, .val (.long rm), .second, .val (.ref b9), .unset, .unset, .unset, .unset, .unset, .unset, .unset, .unset, .unset, .unset, .unset, .unset, .unset, .unset, .unset] [(.int 2), (.int 2), (.ref b9)])) rfl rfl (hb hby at_259)
           have V87 : Arv Z h87 b9 k9 .int (3 : Int32) [(.int 1), (.int 0), (.int 2)] (.int 0) := Arv.set Ar87 q87 Sz87 Nn87 Hs87 Gs87 rfl W87 2 rfl (Nat.le_of_ble_eq_true rfl)
           have N87 := Fr.snoc X87 N86 g_b9
           have O_87 := O_85.wr W87 g_b9
           refine Goes.step (B := T87.setTop (mkF m 260 #[.val (.long i0), .second, .val (.long i1), .second, .val (.long i2), .second, .val (.int i3), .val (.long i4), .second, .val (.int i5), .val (.long ct0), .second, .val (.long ct1), .second, .val (.long ct2), .second, .val (.int mb0), .val (.int mb1), .val (.int mb2), .val (.int p0), .val (.int p1), .val (.int p2), .val (.ref b4), .val (.int n), .val (.long mx2), .second, .val (.long rm), .second, .val (.ref b9), .unset, .unset, .unset, .unset, .unset, .unset, .unset, .unset, .unset, .unset, .unset, .unset, .unset, .unset, .unset] [])) st87 ?_
           have f88 := ((((fj8_0.ext E9).other W83 ne_b4_b9).other W85 ne_b4_b9).other W87 ne_b4_b9)
           exact J10 _ _ _ (1 : Int32) (0 : Int32) (2 : Int32) X87 e87 O_87 N87 f88 V87 (own_perms _ _ _ (Or.inr (Or.inr (Or.inl ⟨rfl, rfl, rfl⟩))))
         · refine Goes.step (fun _ k => pw_aload X9.here hx (hb hby at_212) rfl rfl _ (pw_lload X9.here hx (hb hby at_214) rfl _ (pw_iconst X9.here hx (v := (0 : Int32)) (hb hby at_216) rfl _ (pw_lload X9.here hx (hb hby at_217) rfl _ (pw_iconst X9.here hx (v := (1 : Int32)) (hb hby at_219) rfl _ (pw_lload X9.here hx (hb hby at_220) rfl _ k)))))) ?_
           refine Goes.step (fun _ k => pw_iconst X9.here hx (v := (2 : Int32)) (hb hby at_222) rfl _ k) ?_
           obtain ⟨_, _, ⟨T89, L89, k89, n89⟩, -, X89, ⟨Lc89, hQ89, l89, y89, z89⟩, st89⟩ := Jvm.LawKit.callS X9 hx (y := (⟨"com/example/errantry/errantry/staff/CompletionBoundsCheapestPinLaw", "position", "(JIJIJI)I"⟩ : MethodName)) hown (mvT hZ (own_w3 hw)) (mvT hZ (own_w4 hw)) (mvT hZ (own_w5 hw)) (mvT hZ (own_w6 hw)) (by decide) (backOf (W := 1) (rm1 l Z a0 hw [] ct0 (0 : Int32) ct1 (1 : Int32) ct2 (2 : Int32) h9 n0 O_9 ) hZ (own_w6 hw) (own_w5 hw) (by decide) (by decide)) (g := (mkF m 223 #[.val (.long i0), .second, .val (.long i1), .second, .val (.long i2), .second, .val (.int i3), .val (.long i4), .second, .val (.int i5), .val (.long ct0), .second, .val (.long ct1), .second, .val (.long ct2), .second, .val (.int mb0), .val (.int mb1), .val (.int mb2), .val (.int p0), .val (.int p1), .val (.int p2), .val (.ref b4), .val (.int n), .val (.long mx2), .second, .val (.long rm), .second, .val (.ref b9), .unset, .unset, .unset, .unset, .unset, .unset, .unset, .unset, .unset, .unset, .unset, .unset, .unset, .unset, .unset] [(.int 2), (.long ct2), (.int 1), (.long ct1), (.int 0), (.long ct0), (.ref b9)])) rfl (by rw [hml]; rfl) (argsL := [(.long ct0), (.int 0), (.long ct1), (.int 1), (.long ct2), (.int 2)]) (rest := [(.ref b9)]) (lenOf pd_13 rfl) rfl (by show 2 * 0 + _ ≤ _; exact Nat.le_of_eq rfl) (hb hby at_223) (fun _ _ => ⟨rfl, e9, (by decide : 2 + 0 ≤ _), (by decide : 6 + 0 ≤ _)⟩)
           dsimp only [Pt.U, Pt.locs, Pt.cells, Pt.slots] at X89 l89 y89 z89 st89 hQ89
           subst l89 y89 z89
           obtain ⟨rfl, Nq89, eh89⟩ := hQ89
           have N89 := Fr.app Nj8 Nq89
           refine Goes.step (B := T89.setTop (mkF m 226 #[.val (.long i0), .second, .val (.long i1), .second, .val (.long i2), .second, .val (.int i3), .val (.long i4), .second, .val (.int i5), .val (.long ct0), .second, .val (.long ct1), .second, .val (.long ct2), .second, .val (.int mb0), .val (.int mb1), .val (.int mb2), .val (.int p0), .val (.int p1), .val (.int p2), .val (.ref b4), .val (.int n), .val (.long mx2), .second, .val (.long rm), .second, .val (.ref b9), .unset, .unset, .unset, .unset, .unset, .unset, .unset, .unset, .unset, .unset, .unset, .unset, .unset, .unset, .unset] [(.int (own_psn ct0 (0 : Int32) ct1 (1 : Int32) ct2 (2 : Int32))), (.ref b9)])) st89 ?_
           rw [ps0]
           refine Goes.step (fun _ k => pw_iconst X89.here hx (v := (0 : Int32)) (hb hby at_226) rfl _ k) ?_
           obtain ⟨c90, Ar90, q90, Sz90, Nn90, Hs90, Gs90⟩ := id V_b9
           have hin90 : ¬ ((1 : Int32) < 0 ∨ c90.slots.size ≤ ((1 : Int32)).toNatClampNeg) := inb_of Sz90 ⟨by decide, by decide⟩
           obtain ⟨T90, h90, X90, e90, W90, st90⟩ := stI X89 hx hZ eh89 Ar90 (j := (1 : Int32)) hin90 (g := (mkF m 227 #[.val (.long i0), .second, .val (.long i1), .second, .val (.long i2), .second, .val (.int i3), .val (.long i4), .second, .val (.int i5), .val (.long ct0), .second, .val (.long ct1), .second, .val (.long ct2), .second, .val (.int mb0), .val (.int mb1), .val (.int mb2), .val (.int p0), .val (.int p1), .val (.int p2), .val (.ref b4), .val (.int n), .val (.long mx2), .second, .val (.long rm), .second, .val (.ref b9), .unset, .unset, .unset, .unset, .unset, .unset, .unset, .unset, .unset, .unset, .unset, .unset, .unset, .unset, .unset] [(.int 0), (.int 1), (.ref b9)])) rfl rfl (hb hby at_227)
           have V90 : Arv Z h90 b9 k9 .int (3 : Int32) [(.int 0), (.int 0), (.int 0)] (.int 0) := Arv.set Ar90 q90 Sz90 Nn90 Hs90 Gs90 rfl W90 1 rfl (Nat.le_of_ble_eq_true rfl)
           have N90 := Fr.snoc X90 N89 g_b9
           have O_90 := O_9.wr W90 g_b9
           refine Goes.step (B := T90.setTop (mkF m 228 #[.val (.long i0), .second, .val (.long i1), .second, .val (.long i2), .second, .val (.int i3), .val (.long i4), .second, .val (.int i5), .val (.long ct0), .second, .val (.long ct1), .second, .val (.long ct2), .second, .val (.int mb0), .val (.int mb1), .val (.int mb2), .val (.int p0), .val (.int p1), .val (.int p2), .val (.ref b4), .val (.int n), .val (.long mx2), .second, .val (.long rm), .second, .val (.ref b9), .unset, .unset, .unset, .unset, .unset, .unset, .unset, .unset, .unset, .unset, .unset, .unset, .unset, .unset, .unset] [])) st90 ?_
           refine Goes.step (fun _ k => pw_aload X90.here hx (hb hby at_228) rfl rfl _ (pw_lload X90.here hx (hb hby at_230) rfl _ (pw_iconst X90.here hx (v := (1 : Int32)) (hb hby at_232) rfl _ (pw_lload X90.here hx (hb hby at_233) rfl _ (pw_iconst X90.here hx (v := (0 : Int32)) (hb hby at_235) rfl _ (pw_lload X90.here hx (hb hby at_236) rfl _ k)))))) ?_
           refine Goes.step (fun _ k => pw_iconst X90.here hx (v := (2 : Int32)) (hb hby at_238) rfl _ k) ?_
           obtain ⟨_, _, ⟨T91, L91, k91, n91⟩, -, X91, ⟨Lc91, hQ91, l91, y91, z91⟩, st91⟩ := Jvm.LawKit.callS X90 hx (y := (⟨"com/example/errantry/errantry/staff/CompletionBoundsCheapestPinLaw", "position", "(JIJIJI)I"⟩ : MethodName)) hown (mvT hZ (own_w3 hw)) (mvT hZ (own_w4 hw)) (mvT hZ (own_w5 hw)) (mvT hZ (own_w6 hw)) (by decide) (backOf (W := 1) (rm1 l Z a0 hw [] ct1 (1 : Int32) ct0 (0 : Int32) ct2 (2 : Int32) h90 n0 O_90 ) hZ (own_w6 hw) (own_w5 hw) (by decide) (by decide)) (g := (mkF m 239 #[.val (.long i0), .second, .val (.long i1), .second, .val (.long i2), .second, .val (.int i3), .val (.long i4), .second, .val (.int i5), .val (.long ct0), .second, .val (.long ct1), .second, .val (.long ct2), .second, .val (.int mb0), .val (.int mb1), .val (.int mb2), .val (.int p0), .val (.int p1), .val (.int p2), .val (.ref b4), .val (.int n), .val (.long mx2), .second, .val (.long rm), .second, .val (.ref b9), .unset, .unset, .unset, .unset, .unset, .unset, .unset, .unset, .unset, .unset, .unset, .unset, .unset, .unset, .unset] [(.int 2), (.long ct2), (.int 0), (.long ct0), (.int 1), (.long ct1), (.ref b9)])) rfl (by rw [hml]; rfl) (argsL := [(.long ct1), (.int 1), (.long ct0), (.int 0), (.long ct2), (.int 2)]) (rest := [(.ref b9)]) (lenOf pd_13 rfl) rfl (by show 2 * 0 + _ ≤ _; exact Nat.le_of_eq rfl) (hb hby at_239) (fun _ _ => ⟨rfl, e90, (by decide : 2 + 0 ≤ _), (by decide : 6 + 0 ≤ _)⟩)
           dsimp only [Pt.U, Pt.locs, Pt.cells, Pt.slots] at X91 l91 y91 z91 st91 hQ91
           subst l91 y91 z91
           obtain ⟨rfl, Nq91, eh91⟩ := hQ91
           have N91 := Fr.app N90 Nq91
           refine Goes.step (B := T91.setTop (mkF m 242 #[.val (.long i0), .second, .val (.long i1), .second, .val (.long i2), .second, .val (.int i3), .val (.long i4), .second, .val (.int i5), .val (.long ct0), .second, .val (.long ct1), .second, .val (.long ct2), .second, .val (.int mb0), .val (.int mb1), .val (.int mb2), .val (.int p0), .val (.int p1), .val (.int p2), .val (.ref b4), .val (.int n), .val (.long mx2), .second, .val (.long rm), .second, .val (.ref b9), .unset, .unset, .unset, .unset, .unset, .unset, .unset, .unset, .unset, .unset, .unset, .unset, .unset, .unset, .unset] [(.int (own_psn ct1 (1 : Int32) ct0 (0 : Int32) ct2 (2 : Int32))), (.ref b9)])) st91 ?_
           rw [ps1]
           refine Goes.step (fun _ k => pw_iconst X91.here hx (v := (1 : Int32)) (hb hby at_242) rfl _ k) ?_
           obtain ⟨c92, Ar92, q92, Sz92, Nn92, Hs92, Gs92⟩ := id V90
           have hin92 : ¬ ((2 : Int32) < 0 ∨ c92.slots.size ≤ ((2 : Int32)).toNatClampNeg) := inb_of Sz92 ⟨by decide, by decide⟩
           obtain ⟨T92, h92, X92, e92, W92, st92⟩ := stI X91 hx hZ eh91 Ar92 (j := (2 : Int32)) hin92 (g := (mkF m 243 #[.val (.long i0), .second, .val (.long i1), .second, .val (.long i2), .second, .val (.int i3), .val (.long i4), .second, .val (.int i5), .val (.long ct0), .second, .val (.long ct1), .second, .val (.long ct2), .second, .val (.int mb0), .val (.int mb1), .val (.int mb2), .val (.int p0), .val (.int p1), .val (.int p2), .val (.ref b4), .val (.int n), .val (.long mx2), .second, .val (.long rm), .second, .val (.ref b9), .unset, .unset, .unset, .unset, .unset, .unset, .unset, .unset, .unset, .unset, .unset, .unset, .unset, .unset, .unset] [(.int 1), (.int 2), (.ref b9)])) rfl rfl (hb hby at_243)
           have V92 : Arv Z h92 b9 k9 .int (3 : Int32) [(.int 0), (.int 0), (.int 1)] (.int 0) := Arv.set Ar92 q92 Sz92 Nn92 Hs92 Gs92 rfl W92 2 rfl (Nat.le_of_ble_eq_true rfl)
           have N92 := Fr.snoc X92 N91 g_b9
           have O_92 := O_90.wr W92 g_b9
           refine Goes.step (B := T92.setTop (mkF m 244 #[.val (.long i0), .second, .val (.long i1), .second, .val (.long i2), .second, .val (.int i3), .val (.long i4), .second, .val (.int i5), .val (.long ct0), .second, .val (.long ct1), .second, .val (.long ct2), .second, .val (.int mb0), .val (.int mb1), .val (.int mb2), .val (.int p0), .val (.int p1), .val (.int p2), .val (.ref b4), .val (.int n), .val (.long mx2), .second, .val (.long rm), .second, .val (.ref b9), .unset, .unset, .unset, .unset, .unset, .unset, .unset, .unset, .unset, .unset, .unset, .unset, .unset, .unset, .unset] [])) st92 ?_
           refine Goes.step (fun _ k => pw_aload X92.here hx (hb hby at_244) rfl rfl _ (pw_lload X92.here hx (hb hby at_246) rfl _ (pw_iconst X92.here hx (v := (2 : Int32)) (hb hby at_248) rfl _ (pw_lload X92.here hx (hb hby at_249) rfl _ (pw_iconst X92.here hx (v := (0 : Int32)) (hb hby at_251) rfl _ (pw_lload X92.here hx (hb hby at_252) rfl _ k)))))) ?_
           refine Goes.step (fun _ k => pw_iconst X92.here hx (v := (1 : Int32)) (hb hby at_254) rfl _ k) ?_
           obtain ⟨_, _, ⟨T93, L93, k93, n93⟩, -, X93, ⟨Lc93, hQ93, l93, y93, z93⟩, st93⟩ := Jvm.LawKit.callS X92 hx (y := (⟨"com/example/errantry/errantry/staff/CompletionBoundsCheapestPinLaw", "position", "(JIJIJI)I"⟩ : MethodName)) hown (mvT hZ (own_w3 hw)) (mvT hZ (own_w4 hw)) (mvT hZ (own_w5 hw)) (mvT hZ (own_w6 hw)) (by decide) (backOf (W := 1) (rm1 l Z a0 hw [] ct2 (2 : Int32) ct0 (0 : Int32) ct1 (1 : Int32) h92 n0 O_92 ) hZ (own_w6 hw) (own_w5 hw) (by decide) (by decide)) (g := (mkF m 255 #[.val (.long i0), .second, .val (.long i1), .second, .val (.long i2), .second, .val (.int i3), .val (.long i4), .second, .val (.int i5), .val (.long ct0), .second, .val (.long ct1), .second, .val (.long ct2), .second, .val (.int mb0), .val (.int mb1), .val (.int mb2), .val (.int p0), .val (.int p1), .val (.int p2), .val (.ref b4), .val (.int n), .val (.long mx2), .second, .val (.long rm), .second, .val (.ref b9), .unset, .unset, .unset, .unset, .unset, .unset, .unset, .unset, .unset, .unset, .unset, .unset, .unset, .unset, .unset] [(.int 1), (.long ct1), (.int 0), (.long ct0), (.int 2), (.long ct2), (.ref b9)])) rfl (by rw [hml]; rfl) (argsL := [(.long ct2), (.int 2), (.long ct0), (.int 0), (.long ct1), (.int 1)]) (rest := [(.ref b9)]) (lenOf pd_13 rfl) rfl (by show 2 * 0 + _ ≤ _; exact Nat.le_of_eq rfl) (hb hby at_255) (fun _ _ => ⟨rfl, e92, (by decide : 2 + 0 ≤ _), (by decide : 6 + 0 ≤ _)⟩)
           dsimp only [Pt.U, Pt.locs, Pt.cells, Pt.slots] at X93 l93 y93 z93 st93 hQ93
           subst l93 y93 z93
           obtain ⟨rfl, Nq93, eh93⟩ := hQ93
           have N93 := Fr.app N92 Nq93
           refine Goes.step (B := T93.setTop (mkF m 258 #[.val (.long i0), .second, .val (.long i1), .second, .val (.long i2), .second, .val (.int i3), .val (.long i4), .second, .val (.int i5), .val (.long ct0), .second, .val (.long ct1), .second, .val (.long ct2), .second, .val (.int mb0), .val (.int mb1), .val (.int mb2), .val (.int p0), .val (.int p1), .val (.int p2), .val (.ref b4), .val (.int n), .val (.long mx2), .second, .val (.long rm), .second, .val (.ref b9), .unset, .unset, .unset, .unset, .unset, .unset, .unset, .unset, .unset, .unset, .unset, .unset, .unset, .unset, .unset] [(.int (own_psn ct2 (2 : Int32) ct0 (0 : Int32) ct1 (1 : Int32))), (.ref b9)])) st93 ?_
           rw [ps2]
           refine Goes.step (fun _ k => pw_iconst X93.here hx (v := (2 : Int32)) (hb hby at_258) rfl _ k) ?_
           obtain ⟨c94, Ar94, q94, Sz94, Nn94, Hs94, Gs94⟩ := id V92
           have hin94 : ¬ ((0 : Int32) < 0 ∨ c94.slots.size ≤ ((0 : Int32)).toNatClampNeg) := inb_of Sz94 ⟨by decide, by decide⟩
           obtain ⟨T94, h94, X94, e94, W94, st94⟩ := stI X93 hx hZ eh93 Ar94 (j := (0 : Int32)) hin94 (g := (mkF m 259 #[.val (.long i0), .second, .val (.long i1), .second, .val (.long i2), .second, .val (.int i3), .val (.long i4), .second, .val (.int i5), .val (.long ct0), .second, .val (.long ct1), .second, .val (.long ct2), .second, .val (.int mb0), .val (.int mb1), .val (.int mb2), .val (.int p0), .val (.int p1), .val (.int p2), .val (.ref b4), .val (.int n), .val (.long mx2), .second, .val (.long rm), .second, .val (.ref b9), .unset, .unset, .unset, .unset, .unset, .unset, .unset, .unset, .unset, .unset, .unset, .unset, .unset, .unset, .unset] [(.int 2), (.int 0), (.ref b9)])) rfl rfl (hb hby at_259)
           have V94 : Arv Z h94 b9 k9 .int (3 : Int32) [(.int 2), (.int 0), (.int 1)] (.int 0) := Arv.set Ar94 q94 Sz94 Nn94 Hs94 Gs94 rfl W94 0 rfl (Nat.le_of_ble_eq_true rfl)
           have N94 := Fr.snoc X94 N93 g_b9
           have O_94 := O_92.wr W94 g_b9
           refine Goes.step (B := T94.setTop (mkF m 260 #[.val (.long i0), .second, .val (.long i1), .second, .val (.long i2), .second, .val (.int i3), .val (.long i4), .second, .val (.int i5), .val (.long ct0), .second, .val (.long ct1), .second, .val (.long ct2), .second, .val (.int mb0), .val (.int mb1), .val (.int mb2), .val (.int p0), .val (.int p1), .val (.int p2), .val (.ref b4), .val (.int n), .val (.long mx2), .second, .val (.long rm), .second, .val (.ref b9), .unset, .unset, .unset, .unset, .unset, .unset, .unset, .unset, .unset, .unset, .unset, .unset, .unset, .unset, .unset] [])) st94 ?_
           have f95 := ((((fj8_0.ext E9).other W90 ne_b4_b9).other W92 ne_b4_b9).other W94 ne_b4_b9)
           exact J10 _ _ _ (2 : Int32) (0 : Int32) (1 : Int32) X94 e94 O_94 N94 f95 V94 (own_perms _ _ _ (Or.inr (Or.inr (Or.inr (Or.inr (Or.inl ⟨rfl, rfl, rfl⟩))))))
         · refine Goes.step (fun _ k => pw_aload X9.here hx (hb hby at_212) rfl rfl _ (pw_lload X9.here hx (hb hby at_214) rfl _ (pw_iconst X9.here hx (v := (0 : Int32)) (hb hby at_216) rfl _ (pw_lload X9.here hx (hb hby at_217) rfl _ (pw_iconst X9.here hx (v := (1 : Int32)) (hb hby at_219) rfl _ (pw_lload X9.here hx (hb hby at_220) rfl _ k)))))) ?_
           refine Goes.step (fun _ k => pw_iconst X9.here hx (v := (2 : Int32)) (hb hby at_222) rfl _ k) ?_
           obtain ⟨_, _, ⟨T96, L96, k96, n96⟩, -, X96, ⟨Lc96, hQ96, l96, y96, z96⟩, st96⟩ := Jvm.LawKit.callS X9 hx (y := (⟨"com/example/errantry/errantry/staff/CompletionBoundsCheapestPinLaw", "position", "(JIJIJI)I"⟩ : MethodName)) hown (mvT hZ (own_w3 hw)) (mvT hZ (own_w4 hw)) (mvT hZ (own_w5 hw)) (mvT hZ (own_w6 hw)) (by decide) (backOf (W := 1) (rm1 l Z a0 hw [] ct0 (0 : Int32) ct1 (1 : Int32) ct2 (2 : Int32) h9 n0 O_9 ) hZ (own_w6 hw) (own_w5 hw) (by decide) (by decide)) (g := (mkF m 223 #[.val (.long i0), .second, .val (.long i1), .second, .val (.long i2), .second, .val (.int i3), .val (.long i4), .second, .val (.int i5), .val (.long ct0), .second, .val (.long ct1), .second, .val (.long ct2), .second, .val (.int mb0), .val (.int mb1), .val (.int mb2), .val (.int p0), .val (.int p1), .val (.int p2), .val (.ref b4), .val (.int n), .val (.long mx2), .second, .val (.long rm), .second, .val (.ref b9), .unset, .unset, .unset, .unset, .unset, .unset, .unset, .unset, .unset, .unset, .unset, .unset, .unset, .unset, .unset] [(.int 2), (.long ct2), (.int 1), (.long ct1), (.int 0), (.long ct0), (.ref b9)])) rfl (by rw [hml]; rfl) (argsL := [(.long ct0), (.int 0), (.long ct1), (.int 1), (.long ct2), (.int 2)]) (rest := [(.ref b9)]) (lenOf pd_13 rfl) rfl (by show 2 * 0 + _ ≤ _; exact Nat.le_of_eq rfl) (hb hby at_223) (fun _ _ => ⟨rfl, e9, (by decide : 2 + 0 ≤ _), (by decide : 6 + 0 ≤ _)⟩)
           dsimp only [Pt.U, Pt.locs, Pt.cells, Pt.slots] at X96 l96 y96 z96 st96 hQ96
           subst l96 y96 z96
           obtain ⟨rfl, Nq96, eh96⟩ := hQ96
           have N96 := Fr.app Nj8 Nq96
           refine Goes.step (B := T96.setTop (mkF m 226 #[.val (.long i0), .second, .val (.long i1), .second, .val (.long i2), .second, .val (.int i3), .val (.long i4), .second, .val (.int i5), .val (.long ct0), .second, .val (.long ct1), .second, .val (.long ct2), .second, .val (.int mb0), .val (.int mb1), .val (.int mb2), .val (.int p0), .val (.int p1), .val (.int p2), .val (.ref b4), .val (.int n), .val (.long mx2), .second, .val (.long rm), .second, .val (.ref b9), .unset, .unset, .unset, .unset, .unset, .unset, .unset, .unset, .unset, .unset, .unset, .unset, .unset, .unset, .unset] [(.int (own_psn ct0 (0 : Int32) ct1 (1 : Int32) ct2 (2 : Int32))), (.ref b9)])) st96 ?_
           rw [ps0]
           refine Goes.step (fun _ k => pw_iconst X96.here hx (v := (0 : Int32)) (hb hby at_226) rfl _ k) ?_
           obtain ⟨c97, Ar97, q97, Sz97, Nn97, Hs97, Gs97⟩ := id V_b9
           have hin97 : ¬ ((2 : Int32) < 0 ∨ c97.slots.size ≤ ((2 : Int32)).toNatClampNeg) := inb_of Sz97 ⟨by decide, by decide⟩
           obtain ⟨T97, h97, X97, e97, W97, st97⟩ := stI X96 hx hZ eh96 Ar97 (j := (2 : Int32)) hin97 (g := (mkF m 227 #[.val (.long i0), .second, .val (.long i1), .second, .val (.long i2), .second, .val (.int i3), .val (.long i4), .second, .val (.int i5), .val (.long ct0), .second, .val (.long ct1), .second, .val (.long ct2), .second, .val (.int mb0), .val (.int mb1), .val (.int mb2), .val (.int p0), .val (.int p1), .val (.int p2), .val (.ref b4), .val (.int n), .val (.long mx2), .second, .val (.long rm), .second, .val (.ref b9), .unset, .unset, .unset, .unset, .unset, .unset, .unset, .unset, .unset, .unset, .unset, .unset, .unset, .unset, .unset] [(.int 0), (.int 2), (.ref b9)])) rfl rfl (hb hby at_227)
           have V97 : Arv Z h97 b9 k9 .int (3 : Int32) [(.int 0), (.int 0), (.int 0)] (.int 0) := Arv.set Ar97 q97 Sz97 Nn97 Hs97 Gs97 rfl W97 2 rfl (Nat.le_of_ble_eq_true rfl)
           have N97 := Fr.snoc X97 N96 g_b9
           have O_97 := O_9.wr W97 g_b9
           refine Goes.step (B := T97.setTop (mkF m 228 #[.val (.long i0), .second, .val (.long i1), .second, .val (.long i2), .second, .val (.int i3), .val (.long i4), .second, .val (.int i5), .val (.long ct0), .second, .val (.long ct1), .second, .val (.long ct2), .second, .val (.int mb0), .val (.int mb1), .val (.int mb2), .val (.int p0), .val (.int p1), .val (.int p2), .val (.ref b4), .val (.int n), .val (.long mx2), .second, .val (.long rm), .second, .val (.ref b9), .unset, .unset, .unset, .unset, .unset, .unset, .unset, .unset, .unset, .unset, .unset, .unset, .unset, .unset, .unset] [])) st97 ?_
           refine Goes.step (fun _ k => pw_aload X97.here hx (hb hby at_228) rfl rfl _ (pw_lload X97.here hx (hb hby at_230) rfl _ (pw_iconst X97.here hx (v := (1 : Int32)) (hb hby at_232) rfl _ (pw_lload X97.here hx (hb hby at_233) rfl _ (pw_iconst X97.here hx (v := (0 : Int32)) (hb hby at_235) rfl _ (pw_lload X97.here hx (hb hby at_236) rfl _ k)))))) ?_
           refine Goes.step (fun _ k => pw_iconst X97.here hx (v := (2 : Int32)) (hb hby at_238) rfl _ k) ?_
           obtain ⟨_, _, ⟨T98, L98, k98, n98⟩, -, X98, ⟨Lc98, hQ98, l98, y98, z98⟩, st98⟩ := Jvm.LawKit.callS X97 hx (y := (⟨"com/example/errantry/errantry/staff/CompletionBoundsCheapestPinLaw", "position", "(JIJIJI)I"⟩ : MethodName)) hown (mvT hZ (own_w3 hw)) (mvT hZ (own_w4 hw)) (mvT hZ (own_w5 hw)) (mvT hZ (own_w6 hw)) (by decide) (backOf (W := 1) (rm1 l Z a0 hw [] ct1 (1 : Int32) ct0 (0 : Int32) ct2 (2 : Int32) h97 n0 O_97 ) hZ (own_w6 hw) (own_w5 hw) (by decide) (by decide)) (g := (mkF m 239 #[.val (.long i0), .second, .val (.long i1), .second, .val (.long i2), .second, .val (.int i3), .val (.long i4), .second, .val (.int i5), .val (.long ct0), .second, .val (.long ct1), .second, .val (.long ct2), .second, .val (.int mb0), .val (.int mb1), .val (.int mb2), .val (.int p0), .val (.int p1), .val (.int p2), .val (.ref b4), .val (.int n), .val (.long mx2), .second, .val (.long rm), .second, .val (.ref b9), .unset, .unset, .unset, .unset, .unset, .unset, .unset, .unset, .unset, .unset, .unset, .unset, .unset, .unset, .unset] [(.int 2), (.long ct2), (.int 0), (.long ct0), (.int 1), (.long ct1), (.ref b9)])) rfl (by rw [hml]; rfl) (argsL := [(.long ct1), (.int 1), (.long ct0), (.int 0), (.long ct2), (.int 2)]) (rest := [(.ref b9)]) (lenOf pd_13 rfl) rfl (by show 2 * 0 + _ ≤ _; exact Nat.le_of_eq rfl) (hb hby at_239) (fun _ _ => ⟨rfl, e97, (by decide : 2 + 0 ≤ _), (by decide : 6 + 0 ≤ _)⟩)
           dsimp only [Pt.U, Pt.locs, Pt.cells, Pt.slots] at X98 l98 y98 z98 st98 hQ98
           subst l98 y98 z98
           obtain ⟨rfl, Nq98, eh98⟩ := hQ98
           have N98 := Fr.app N97 Nq98
           refine Goes.step (B := T98.setTop (mkF m 242 #[.val (.long i0), .second, .val (.long i1), .second, .val (.long i2), .second, .val (.int i3), .val (.long i4), .second, .val (.int i5), .val (.long ct0), .second, .val (.long ct1), .second, .val (.long ct2), .second, .val (.int mb0), .val (.int mb1), .val (.int mb2), .val (.int p0), .val (.int p1), .val (.int p2), .val (.ref b4), .val (.int n), .val (.long mx2), .second, .val (.long rm), .second, .val (.ref b9), .unset, .unset, .unset, .unset, .unset, .unset, .unset, .unset, .unset, .unset, .unset, .unset, .unset, .unset, .unset] [(.int (own_psn ct1 (1 : Int32) ct0 (0 : Int32) ct2 (2 : Int32))), (.ref b9)])) st98 ?_
           rw [ps1]
           refine Goes.step (fun _ k => pw_iconst X98.here hx (v := (1 : Int32)) (hb hby at_242) rfl _ k) ?_
           obtain ⟨c99, Ar99, q99, Sz99, Nn99, Hs99, Gs99⟩ := id V97
           have hin99 : ¬ ((0 : Int32) < 0 ∨ c99.slots.size ≤ ((0 : Int32)).toNatClampNeg) := inb_of Sz99 ⟨by decide, by decide⟩
           obtain ⟨T99, h99, X99, e99, W99, st99⟩ := stI X98 hx hZ eh98 Ar99 (j := (0 : Int32)) hin99 (g := (mkF m 243 #[.val (.long i0), .second, .val (.long i1), .second, .val (.long i2), .second, .val (.int i3), .val (.long i4), .second, .val (.int i5), .val (.long ct0), .second, .val (.long ct1), .second, .val (.long ct2), .second, .val (.int mb0), .val (.int mb1), .val (.int mb2), .val (.int p0), .val (.int p1), .val (.int p2), .val (.ref b4), .val (.int n), .val (.long mx2), .second, .val (.long rm), .second, .val (.ref b9), .unset, .unset, .unset, .unset, .unset, .unset, .unset, .unset, .unset, .unset, .unset, .unset, .unset, .unset, .unset] [(.int 1), (.int 0), (.ref b9)])) rfl rfl (hb hby at_243)
           have V99 : Arv Z h99 b9 k9 .int (3 : Int32) [(.int 1), (.int 0), (.int 0)] (.int 0) := Arv.set Ar99 q99 Sz99 Nn99 Hs99 Gs99 rfl W99 0 rfl (Nat.le_of_ble_eq_true rfl)
           have N99 := Fr.snoc X99 N98 g_b9
           have O_99 := O_97.wr W99 g_b9
           refine Goes.step (B := T99.setTop (mkF m 244 #[.val (.long i0), .second, .val (.long i1), .second, .val (.long i2), .second, .val (.int i3), .val (.long i4), .second, .val (.int i5), .val (.long ct0), .second, .val (.long ct1), .second, .val (.long ct2), .second, .val (.int mb0), .val (.int mb1), .val (.int mb2), .val (.int p0), .val (.int p1), .val (.int p2), .val (.ref b4), .val (.int n), .val (.long mx2), .second, .val (.long rm), .second, .val (.ref b9), .unset, .unset, .unset, .unset, .unset, .unset, .unset, .unset, .unset, .unset, .unset, .unset, .unset, .unset, .unset] [])) st99 ?_
           refine Goes.step (fun _ k => pw_aload X99.here hx (hb hby at_244) rfl rfl _ (pw_lload X99.here hx (hb hby at_246) rfl _ (pw_iconst X99.here hx (v := (2 : Int32)) (hb hby at_248) rfl _ (pw_lload X99.here hx (hb hby at_249) rfl _ (pw_iconst X99.here hx (v := (0 : Int32)) (hb hby at_251) rfl _ (pw_lload X99.here hx (hb hby at_252) rfl _ k)))))) ?_
           refine Goes.step (fun _ k => pw_iconst X99.here hx (v := (1 : Int32)) (hb hby at_254) rfl _ k) ?_
           obtain ⟨_, _, ⟨T100, L100, k100, n100⟩, -, X100, ⟨Lc100, hQ100, l100, y100, z100⟩, st100⟩ := Jvm.LawKit.callS X99 hx (y := (⟨"com/example/errantry/errantry/staff/CompletionBoundsCheapestPinLaw", "position", "(JIJIJI)I"⟩ : MethodName)) hown (mvT hZ (own_w3 hw)) (mvT hZ (own_w4 hw)) (mvT hZ (own_w5 hw)) (mvT hZ (own_w6 hw)) (by decide) (backOf (W := 1) (rm1 l Z a0 hw [] ct2 (2 : Int32) ct0 (0 : Int32) ct1 (1 : Int32) h99 n0 O_99 ) hZ (own_w6 hw) (own_w5 hw) (by decide) (by decide)) (g := (mkF m 255 #[.val (.long i0), .second, .val (.long i1), .second, .val (.long i2), .second, .val (.int i3), .val (.long i4), .second, .val (.int i5), .val (.long ct0), .second, .val (.long ct1), .second, .val (.long ct2), .second, .val (.int mb0), .val (.int mb1), .val (.int mb2), .val (.int p0), .val (.int p1), .val (.int p2), .val (.ref b4), .val (.int n), .val (.long mx2), .second, .val (.long rm), .second, .val (.ref b9), .unset, .unset, .unset, .unset, .unset, .unset, .unset, .unset, .unset, .unset, .unset, .unset, .unset, .unset, .unset] [(.int 1), (.long ct1), (.int 0), (.long ct0), (.int 2), (.long ct2), (.ref b9)])) rfl (by rw [hml]; rfl) (argsL := [(.long ct2), (.int 2), (.long ct0), (.int 0), (.long ct1), (.int 1)]) (rest := [(.ref b9)]) (lenOf pd_13 rfl) rfl (by show 2 * 0 + _ ≤ _; exact Nat.le_of_eq rfl) (hb hby at_255) (fun _ _ => ⟨rfl, e99, (by decide : 2 + 0 ≤ _), (by decide : 6 + 0 ≤ _)⟩)
           dsimp only [Pt.U, Pt.locs, Pt.cells, Pt.slots] at X100 l100 y100 z100 st100 hQ100
           subst l100 y100 z100
           obtain ⟨rfl, Nq100, eh100⟩ := hQ100
           have N100 := Fr.app N99 Nq100
           refine Goes.step (B := T100.setTop (mkF m 258 #[.val (.long i0), .second, .val (.long i1), .second, .val (.long i2), .second, .val (.int i3), .val (.long i4), .second, .val (.int i5), .val (.long ct0), .second, .val (.long ct1), .second, .val (.long ct2), .second, .val (.int mb0), .val (.int mb1), .val (.int mb2), .val (.int p0), .val (.int p1), .val (.int p2), .val (.ref b4), .val (.int n), .val (.long mx2), .second, .val (.long rm), .second, .val (.ref b9), .unset, .unset, .unset, .unset, .unset, .unset, .unset, .unset, .unset, .unset, .unset, .unset, .unset, .unset, .unset] [(.int (own_psn ct2 (2 : Int32) ct0 (0 : Int32) ct1 (1 : Int32))), (.ref b9)])) st100 ?_
           rw [ps2]
           refine Goes.step (fun _ k => pw_iconst X100.here hx (v := (2 : Int32)) (hb hby at_258) rfl _ k) ?_
           obtain ⟨c101, Ar101, q101, Sz101, Nn101, Hs101, Gs101⟩ := id V99
           have hin101 : ¬ ((1 : Int32) < 0 ∨ c101.slots.size ≤ ((1 : Int32)).toNatClampNeg) := inb_of Sz101 ⟨by decide, by decide⟩
           obtain ⟨T101, h101, X101, e101, W101, st101⟩ := stI X100 hx hZ eh100 Ar101 (j := (1 : Int32)) hin101 (g := (mkF m 259 #[.val (.long i0), .second, .val (.long i1), .second, .val (.long i2), .second, .val (.int i3), .val (.long i4), .second, .val (.int i5), .val (.long ct0), .second, .val (.long ct1), .second, .val (.long ct2), .second, .val (.int mb0), .val (.int mb1), .val (.int mb2), .val (.int p0), .val (.int p1), .val (.int p2), .val (.ref b4), .val (.int n), .val (.long mx2), .second, .val (.long rm), .second, .val (.ref b9), .unset, .unset, .unset, .unset, .unset, .unset, .unset, .unset, .unset, .unset, .unset, .unset, .unset, .unset, .unset] [(.int 2), (.int 1), (.ref b9)])) rfl rfl (hb hby at_259)
           have V101 : Arv Z h101 b9 k9 .int (3 : Int32) [(.int 1), (.int 2), (.int 0)] (.int 0) := Arv.set Ar101 q101 Sz101 Nn101 Hs101 Gs101 rfl W101 1 rfl (Nat.le_of_ble_eq_true rfl)
           have N101 := Fr.snoc X101 N100 g_b9
           have O_101 := O_99.wr W101 g_b9
           refine Goes.step (B := T101.setTop (mkF m 260 #[.val (.long i0), .second, .val (.long i1), .second, .val (.long i2), .second, .val (.int i3), .val (.long i4), .second, .val (.int i5), .val (.long ct0), .second, .val (.long ct1), .second, .val (.long ct2), .second, .val (.int mb0), .val (.int mb1), .val (.int mb2), .val (.int p0), .val (.int p1), .val (.int p2), .val (.ref b4), .val (.int n), .val (.long mx2), .second, .val (.long rm), .second, .val (.ref b9), .unset, .unset, .unset, .unset, .unset, .unset, .unset, .unset, .unset, .unset, .unset, .unset, .unset, .unset, .unset] [])) st101 ?_
           have f102 := ((((fj8_0.ext E9).other W97 ne_b4_b9).other W99 ne_b4_b9).other W101 ne_b4_b9)
           exact J10 _ _ _ (1 : Int32) (2 : Int32) (0 : Int32) X101 e101 O_101 N101 f102 V101 (own_perms _ _ _ (Or.inr (Or.inr (Or.inr (Or.inl ⟨rfl, rfl, rfl⟩)))))
         · refine Goes.step (fun _ k => pw_aload X9.here hx (hb hby at_212) rfl rfl _ (pw_lload X9.here hx (hb hby at_214) rfl _ (pw_iconst X9.here hx (v := (0 : Int32)) (hb hby at_216) rfl _ (pw_lload X9.here hx (hb hby at_217) rfl _ (pw_iconst X9.here hx (v := (1 : Int32)) (hb hby at_219) rfl _ (pw_lload X9.here hx (hb hby at_220) rfl _ k)))))) ?_
           refine Goes.step (fun _ k => pw_iconst X9.here hx (v := (2 : Int32)) (hb hby at_222) rfl _ k) ?_
           obtain ⟨_, _, ⟨T103, L103, k103, n103⟩, -, X103, ⟨Lc103, hQ103, l103, y103, z103⟩, st103⟩ := Jvm.LawKit.callS X9 hx (y := (⟨"com/example/errantry/errantry/staff/CompletionBoundsCheapestPinLaw", "position", "(JIJIJI)I"⟩ : MethodName)) hown (mvT hZ (own_w3 hw)) (mvT hZ (own_w4 hw)) (mvT hZ (own_w5 hw)) (mvT hZ (own_w6 hw)) (by decide) (backOf (W := 1) (rm1 l Z a0 hw [] ct0 (0 : Int32) ct1 (1 : Int32) ct2 (2 : Int32) h9 n0 O_9 ) hZ (own_w6 hw) (own_w5 hw) (by decide) (by decide)) (g := (mkF m 223 #[.val (.long i0), .second, .val (.long i1), .second, .val (.long i2), .second, .val (.int i3), .val (.long i4), .second, .val (.int i5), .val (.long ct0), .second, .val (.long ct1), .second, .val (.long ct2), .second, .val (.int mb0), .val (.int mb1), .val (.int mb2), .val (.int p0), .val (.int p1), .val (.int p2), .val (.ref b4), .val (.int n), .val (.long mx2), .second, .val (.long rm), .second, .val (.ref b9), .unset, .unset, .unset, .unset, .unset, .unset, .unset, .unset, .unset, .unset, .unset, .unset, .unset, .unset, .unset] [(.int 2), (.long ct2), (.int 1), (.long ct1), (.int 0), (.long ct0), (.ref b9)])) rfl (by rw [hml]; rfl) (argsL := [(.long ct0), (.int 0), (.long ct1), (.int 1), (.long ct2), (.int 2)]) (rest := [(.ref b9)]) (lenOf pd_13 rfl) rfl (by show 2 * 0 + _ ≤ _; exact Nat.le_of_eq rfl) (hb hby at_223) (fun _ _ => ⟨rfl, e9, (by decide : 2 + 0 ≤ _), (by decide : 6 + 0 ≤ _)⟩)
           dsimp only [Pt.U, Pt.locs, Pt.cells, Pt.slots] at X103 l103 y103 z103 st103 hQ103
           subst l103 y103 z103
           obtain ⟨rfl, Nq103, eh103⟩ := hQ103
           have N103 := Fr.app Nj8 Nq103
           refine Goes.step (B := T103.setTop (mkF m 226 #[.val (.long i0), .second, .val (.long i1), .second, .val (.long i2), .second, .val (.int i3), .val (.long i4), .second, .val (.int i5), .val (.long ct0), .second, .val (.long ct1), .second, .val (.long ct2), .second, .val (.int mb0), .val (.int mb1), .val (.int mb2), .val (.int p0), .val (.int p1), .val (.int p2), .val (.ref b4), .val (.int n), .val (.long mx2), .second, .val (.long rm), .second, .val (.ref b9), .unset, .unset, .unset, .unset, .unset, .unset, .unset, .unset, .unset, .unset, .unset, .unset, .unset, .unset, .unset] [(.int (own_psn ct0 (0 : Int32) ct1 (1 : Int32) ct2 (2 : Int32))), (.ref b9)])) st103 ?_
           rw [ps0]
           refine Goes.step (fun _ k => pw_iconst X103.here hx (v := (0 : Int32)) (hb hby at_226) rfl _ k) ?_
           obtain ⟨c104, Ar104, q104, Sz104, Nn104, Hs104, Gs104⟩ := id V_b9
           have hin104 : ¬ ((2 : Int32) < 0 ∨ c104.slots.size ≤ ((2 : Int32)).toNatClampNeg) := inb_of Sz104 ⟨by decide, by decide⟩
           obtain ⟨T104, h104, X104, e104, W104, st104⟩ := stI X103 hx hZ eh103 Ar104 (j := (2 : Int32)) hin104 (g := (mkF m 227 #[.val (.long i0), .second, .val (.long i1), .second, .val (.long i2), .second, .val (.int i3), .val (.long i4), .second, .val (.int i5), .val (.long ct0), .second, .val (.long ct1), .second, .val (.long ct2), .second, .val (.int mb0), .val (.int mb1), .val (.int mb2), .val (.int p0), .val (.int p1), .val (.int p2), .val (.ref b4), .val (.int n), .val (.long mx2), .second, .val (.long rm), .second, .val (.ref b9), .unset, .unset, .unset, .unset, .unset, .unset, .unset, .unset, .unset, .unset, .unset, .unset, .unset, .unset, .unset] [(.int 0), (.int 2), (.ref b9)])) rfl rfl (hb hby at_227)
           have V104 : Arv Z h104 b9 k9 .int (3 : Int32) [(.int 0), (.int 0), (.int 0)] (.int 0) := Arv.set Ar104 q104 Sz104 Nn104 Hs104 Gs104 rfl W104 2 rfl (Nat.le_of_ble_eq_true rfl)
           have N104 := Fr.snoc X104 N103 g_b9
           have O_104 := O_9.wr W104 g_b9
           refine Goes.step (B := T104.setTop (mkF m 228 #[.val (.long i0), .second, .val (.long i1), .second, .val (.long i2), .second, .val (.int i3), .val (.long i4), .second, .val (.int i5), .val (.long ct0), .second, .val (.long ct1), .second, .val (.long ct2), .second, .val (.int mb0), .val (.int mb1), .val (.int mb2), .val (.int p0), .val (.int p1), .val (.int p2), .val (.ref b4), .val (.int n), .val (.long mx2), .second, .val (.long rm), .second, .val (.ref b9), .unset, .unset, .unset, .unset, .unset, .unset, .unset, .unset, .unset, .unset, .unset, .unset, .unset, .unset, .unset] [])) st104 ?_
           refine Goes.step (fun _ k => pw_aload X104.here hx (hb hby at_228) rfl rfl _ (pw_lload X104.here hx (hb hby at_230) rfl _ (pw_iconst X104.here hx (v := (1 : Int32)) (hb hby at_232) rfl _ (pw_lload X104.here hx (hb hby at_233) rfl _ (pw_iconst X104.here hx (v := (0 : Int32)) (hb hby at_235) rfl _ (pw_lload X104.here hx (hb hby at_236) rfl _ k)))))) ?_
           refine Goes.step (fun _ k => pw_iconst X104.here hx (v := (2 : Int32)) (hb hby at_238) rfl _ k) ?_
           obtain ⟨_, _, ⟨T105, L105, k105, n105⟩, -, X105, ⟨Lc105, hQ105, l105, y105, z105⟩, st105⟩ := Jvm.LawKit.callS X104 hx (y := (⟨"com/example/errantry/errantry/staff/CompletionBoundsCheapestPinLaw", "position", "(JIJIJI)I"⟩ : MethodName)) hown (mvT hZ (own_w3 hw)) (mvT hZ (own_w4 hw)) (mvT hZ (own_w5 hw)) (mvT hZ (own_w6 hw)) (by decide) (backOf (W := 1) (rm1 l Z a0 hw [] ct1 (1 : Int32) ct0 (0 : Int32) ct2 (2 : Int32) h104 n0 O_104 ) hZ (own_w6 hw) (own_w5 hw) (by decide) (by decide)) (g := (mkF m 239 #[.val (.long i0), .second, .val (.long i1), .second, .val (.long i2), .second, .val (.int i3), .val (.long i4), .second, .val (.int i5), .val (.long ct0), .second, .val (.long ct1), .second, .val (.long ct2), .second, .val (.int mb0), .val (.int mb1), .val (.int mb2), .val (.int p0), .val (.int p1), .val (.int p2), .val (.ref b4), .val (.int n), .val (.long mx2), .second, .val (.long rm), .second, .val (.ref b9), .unset, .unset, .unset, .unset, .unset, .unset, .unset, .unset, .unset, .unset, .unset, .unset, .unset, .unset, .unset] [(.int 2), (.long ct2), (.int 0), (.long ct0), (.int 1), (.long ct1), (.ref b9)])) rfl (by rw [hml]; rfl) (argsL := [(.long ct1), (.int 1), (.long ct0), (.int 0), (.long ct2), (.int 2)]) (rest := [(.ref b9)]) (lenOf pd_13 rfl) rfl (by show 2 * 0 + _ ≤ _; exact Nat.le_of_eq rfl) (hb hby at_239) (fun _ _ => ⟨rfl, e104, (by decide : 2 + 0 ≤ _), (by decide : 6 + 0 ≤ _)⟩)
           dsimp only [Pt.U, Pt.locs, Pt.cells, Pt.slots] at X105 l105 y105 z105 st105 hQ105
           subst l105 y105 z105
           obtain ⟨rfl, Nq105, eh105⟩ := hQ105
           have N105 := Fr.app N104 Nq105
           refine Goes.step (B := T105.setTop (mkF m 242 #[.val (.long i0), .second, .val (.long i1), .second, .val (.long i2), .second, .val (.int i3), .val (.long i4), .second, .val (.int i5), .val (.long ct0), .second, .val (.long ct1), .second, .val (.long ct2), .second, .val (.int mb0), .val (.int mb1), .val (.int mb2), .val (.int p0), .val (.int p1), .val (.int p2), .val (.ref b4), .val (.int n), .val (.long mx2), .second, .val (.long rm), .second, .val (.ref b9), .unset, .unset, .unset, .unset, .unset, .unset, .unset, .unset, .unset, .unset, .unset, .unset, .unset, .unset, .unset] [(.int (own_psn ct1 (1 : Int32) ct0 (0 : Int32) ct2 (2 : Int32))), (.ref b9)])) st105 ?_
           rw [ps1]
           refine Goes.step (fun _ k => pw_iconst X105.here hx (v := (1 : Int32)) (hb hby at_242) rfl _ k) ?_
           obtain ⟨c106, Ar106, q106, Sz106, Nn106, Hs106, Gs106⟩ := id V104
           have hin106 : ¬ ((1 : Int32) < 0 ∨ c106.slots.size ≤ ((1 : Int32)).toNatClampNeg) := inb_of Sz106 ⟨by decide, by decide⟩
           obtain ⟨T106, h106, X106, e106, W106, st106⟩ := stI X105 hx hZ eh105 Ar106 (j := (1 : Int32)) hin106 (g := (mkF m 243 #[.val (.long i0), .second, .val (.long i1), .second, .val (.long i2), .second, .val (.int i3), .val (.long i4), .second, .val (.int i5), .val (.long ct0), .second, .val (.long ct1), .second, .val (.long ct2), .second, .val (.int mb0), .val (.int mb1), .val (.int mb2), .val (.int p0), .val (.int p1), .val (.int p2), .val (.ref b4), .val (.int n), .val (.long mx2), .second, .val (.long rm), .second, .val (.ref b9), .unset, .unset, .unset, .unset, .unset, .unset, .unset, .unset, .unset, .unset, .unset, .unset, .unset, .unset, .unset] [(.int 1), (.int 1), (.ref b9)])) rfl rfl (hb hby at_243)
           have V106 : Arv Z h106 b9 k9 .int (3 : Int32) [(.int 0), (.int 1), (.int 0)] (.int 0) := Arv.set Ar106 q106 Sz106 Nn106 Hs106 Gs106 rfl W106 1 rfl (Nat.le_of_ble_eq_true rfl)
           have N106 := Fr.snoc X106 N105 g_b9
           have O_106 := O_104.wr W106 g_b9
           refine Goes.step (B := T106.setTop (mkF m 244 #[.val (.long i0), .second, .val (.long i1), .second, .val (.long i2), .second, .val (.int i3), .val (.long i4), .second, .val (.int i5), .val (.long ct0), .second, .val (.long ct1), .second, .val (.long ct2), .second, .val (.int mb0), .val (.int mb1), .val (.int mb2), .val (.int p0), .val (.int p1), .val (.int p2), .val (.ref b4), .val (.int n), .val (.long mx2), .second, .val (.long rm), .second, .val (.ref b9), .unset, .unset, .unset, .unset, .unset, .unset, .unset, .unset, .unset, .unset, .unset, .unset, .unset, .unset, .unset] [])) st106 ?_
           refine Goes.step (fun _ k => pw_aload X106.here hx (hb hby at_244) rfl rfl _ (pw_lload X106.here hx (hb hby at_246) rfl _ (pw_iconst X106.here hx (v := (2 : Int32)) (hb hby at_248) rfl _ (pw_lload X106.here hx (hb hby at_249) rfl _ (pw_iconst X106.here hx (v := (0 : Int32)) (hb hby at_251) rfl _ (pw_lload X106.here hx (hb hby at_252) rfl _ k)))))) ?_
           refine Goes.step (fun _ k => pw_iconst X106.here hx (v := (1 : Int32)) (hb hby at_254) rfl _ k) ?_
           obtain ⟨_, _, ⟨T107, L107, k107, n107⟩, -, X107, ⟨Lc107, hQ107, l107, y107, z107⟩, st107⟩ := Jvm.LawKit.callS X106 hx (y := (⟨"com/example/errantry/errantry/staff/CompletionBoundsCheapestPinLaw", "position", "(JIJIJI)I"⟩ : MethodName)) hown (mvT hZ (own_w3 hw)) (mvT hZ (own_w4 hw)) (mvT hZ (own_w5 hw)) (mvT hZ (own_w6 hw)) (by decide) (backOf (W := 1) (rm1 l Z a0 hw [] ct2 (2 : Int32) ct0 (0 : Int32) ct1 (1 : Int32) h106 n0 O_106 ) hZ (own_w6 hw) (own_w5 hw) (by decide) (by decide)) (g := (mkF m 255 #[.val (.long i0), .second, .val (.long i1), .second, .val (.long i2), .second, .val (.int i3), .val (.long i4), .second, .val (.int i5), .val (.long ct0), .second, .val (.long ct1), .second, .val (.long ct2), .second, .val (.int mb0), .val (.int mb1), .val (.int mb2), .val (.int p0), .val (.int p1), .val (.int p2), .val (.ref b4), .val (.int n), .val (.long mx2), .second, .val (.long rm), .second, .val (.ref b9), .unset, .unset, .unset, .unset, .unset, .unset, .unset, .unset, .unset, .unset, .unset, .unset, .unset, .unset, .unset] [(.int 1), (.long ct1), (.int 0), (.long ct0), (.int 2), (.long ct2), (.ref b9)])) rfl (by rw [hml]; rfl) (argsL := [(.long ct2), (.int 2), (.long ct0), (.int 0), (.long ct1), (.int 1)]) (rest := [(.ref b9)]) (lenOf pd_13 rfl) rfl (by show 2 * 0 + _ ≤ _; exact Nat.le_of_eq rfl) (hb hby at_255) (fun _ _ => ⟨rfl, e106, (by decide : 2 + 0 ≤ _), (by decide : 6 + 0 ≤ _)⟩)
           dsimp only [Pt.U, Pt.locs, Pt.cells, Pt.slots] at X107 l107 y107 z107 st107 hQ107
           subst l107 y107 z107
           obtain ⟨rfl, Nq107, eh107⟩ := hQ107
           have N107 := Fr.app N106 Nq107
           refine Goes.step (B := T107.setTop (mkF m 258 #[.val (.long i0), .second, .val (.long i1), .second, .val (.long i2), .second, .val (.int i3), .val (.long i4), .second, .val (.int i5), .val (.long ct0), .second, .val (.long ct1), .second, .val (.long ct2), .second, .val (.int mb0), .val (.int mb1), .val (.int mb2), .val (.int p0), .val (.int p1), .val (.int p2), .val (.ref b4), .val (.int n), .val (.long mx2), .second, .val (.long rm), .second, .val (.ref b9), .unset, .unset, .unset, .unset, .unset, .unset, .unset, .unset, .unset, .unset, .unset, .unset, .unset, .unset, .unset] [(.int (own_psn ct2 (2 : Int32) ct0 (0 : Int32) ct1 (1 : Int32))), (.ref b9)])) st107 ?_
           rw [ps2]
           refine Goes.step (fun _ k => pw_iconst X107.here hx (v := (2 : Int32)) (hb hby at_258) rfl _ k) ?_
           obtain ⟨c108, Ar108, q108, Sz108, Nn108, Hs108, Gs108⟩ := id V106
           have hin108 : ¬ ((0 : Int32) < 0 ∨ c108.slots.size ≤ ((0 : Int32)).toNatClampNeg) := inb_of Sz108 ⟨by decide, by decide⟩
           obtain ⟨T108, h108, X108, e108, W108, st108⟩ := stI X107 hx hZ eh107 Ar108 (j := (0 : Int32)) hin108 (g := (mkF m 259 #[.val (.long i0), .second, .val (.long i1), .second, .val (.long i2), .second, .val (.int i3), .val (.long i4), .second, .val (.int i5), .val (.long ct0), .second, .val (.long ct1), .second, .val (.long ct2), .second, .val (.int mb0), .val (.int mb1), .val (.int mb2), .val (.int p0), .val (.int p1), .val (.int p2), .val (.ref b4), .val (.int n), .val (.long mx2), .second, .val (.long rm), .second, .val (.ref b9), .unset, .unset, .unset, .unset, .unset, .unset, .unset, .unset, .unset, .unset, .unset, .unset, .unset, .unset, .unset] [(.int 2), (.int 0), (.ref b9)])) rfl rfl (hb hby at_259)
           have V108 : Arv Z h108 b9 k9 .int (3 : Int32) [(.int 2), (.int 1), (.int 0)] (.int 0) := Arv.set Ar108 q108 Sz108 Nn108 Hs108 Gs108 rfl W108 0 rfl (Nat.le_of_ble_eq_true rfl)
           have N108 := Fr.snoc X108 N107 g_b9
           have O_108 := O_106.wr W108 g_b9
           refine Goes.step (B := T108.setTop (mkF m 260 #[.val (.long i0), .second, .val (.long i1), .second, .val (.long i2), .second, .val (.int i3), .val (.long i4), .second, .val (.int i5), .val (.long ct0), .second, .val (.long ct1), .second, .val (.long ct2), .second, .val (.int mb0), .val (.int mb1), .val (.int mb2), .val (.int p0), .val (.int p1), .val (.int p2), .val (.ref b4), .val (.int n), .val (.long mx2), .second, .val (.long rm), .second, .val (.ref b9), .unset, .unset, .unset, .unset, .unset, .unset, .unset, .unset, .unset, .unset, .unset, .unset, .unset, .unset, .unset] [])) st108 ?_
           have f109 := ((((fj8_0.ext E9).other W104 ne_b4_b9).other W106 ne_b4_b9).other W108 ne_b4_b9)
           exact J10 _ _ _ (2 : Int32) (1 : Int32) (0 : Int32) X108 e108 O_108 N108 f109 V108 (own_perms _ _ _ (Or.inr (Or.inr (Or.inr (Or.inr (Or.inr (⟨rfl, rfl, rfl⟩)))))))
        refine Goes.step (fun _ k => pw_iload Xj7.here hx (hb hby at_182) rfl _ k) ?_
        by_cases hc184_109 : p2 = (0 : Int32)
        · refine Goes.step (fun _ k => pw_ifYes Xj7.here hx (pc' := 196) (hb hby at_184) ((if0 _ _).trans (teq hc184_109).1) (by decide) (by decide) _ k) ?_
          exact J8 _ _ _ mx1 Xj7 ej7 Oj7 Nj7 fj7_0 hx_182
        · refine Goes.step (fun _ k => pw_ifNo Xj7.here hx (hb hby at_184) ((if0 _ _).trans (feq hc184_109).1) _ (pw_lload Xj7.here hx (hb hby at_187) rfl _ (pw_lload Xj7.here hx (hb hby at_189) rfl _ k))) ?_
          obtain ⟨_, _, ⟨T111, L111, k111, n111⟩, -, X111, ⟨Lc111, hQ111, l111, y111, z111⟩, st111⟩ := Jvm.LawKit.callS Xj7 hx (y := (⟨"java/lang/Math", "max", "(JJ)J"⟩ : MethodName)) hown (mvT hZ (own_w97 hw)) (mvT hZ (own_w98 hw)) (mvT hZ (own_w92 hw)) (mvT hZ (own_w99 hw)) (by decide) (backOf (W := 0) (rm15 l Z a0 hw [] mx1 ct2 Hj7 n0 Oj7 ) hZ (own_w99 hw) (own_w92 hw) (by decide) (by decide)) (g := (mkF m 191 #[.val (.long i0), .second, .val (.long i1), .second, .val (.long i2), .second, .val (.int i3), .val (.long i4), .second, .val (.int i5), .val (.long ct0), .second, .val (.long ct1), .second, .val (.long ct2), .second, .val (.int mb0), .val (.int mb1), .val (.int mb2), .val (.int p0), .val (.int p1), .val (.int p2), .val (.ref b4), .val (.int n), .val (.long mx1), .second, .unset, .unset, .unset, .unset, .unset, .unset, .unset, .unset, .unset, .unset, .unset, .unset, .unset, .unset, .unset, .unset, .unset, .unset] [(.long ct2), (.long mx1)])) rfl (by rw [hml]; rfl) (argsL := [(.long mx1), (.long ct2)]) (rest := []) (lenOf pd_2 rfl) rfl (by show 2 * 0 + _ ≤ _; exact Nat.le_of_eq rfl) (hb hby at_191) (fun _ _ => ⟨rfl, ej7, (by decide : 1 + 0 ≤ _), (by decide : 3 + 0 ≤ _)⟩)
          dsimp only [Pt.U, Pt.locs, Pt.cells, Pt.slots] at X111 l111 y111 z111 st111 hQ111
          subst l111 y111 z111
          obtain ⟨rfl, Nq111, eh111⟩ := hQ111
          have N111 := Fr.app Nj7 Nq111
          refine Goes.step (B := T111.setTop (mkF m 194 #[.val (.long i0), .second, .val (.long i1), .second, .val (.long i2), .second, .val (.int i3), .val (.long i4), .second, .val (.int i5), .val (.long ct0), .second, .val (.long ct1), .second, .val (.long ct2), .second, .val (.int mb0), .val (.int mb1), .val (.int mb2), .val (.int p0), .val (.int p1), .val (.int p2), .val (.ref b4), .val (.int n), .val (.long mx1), .second, .unset, .unset, .unset, .unset, .unset, .unset, .unset, .unset, .unset, .unset, .unset, .unset, .unset, .unset, .unset, .unset, .unset, .unset] [(.long (own_maxJ mx1 ct2))])) st111 ?_
          refine Goes.step (fun _ k => pw_lstore X111.here hx (l' := #[.val (.long i0), .second, .val (.long i1), .second, .val (.long i2), .second, .val (.int i3), .val (.long i4), .second, .val (.int i5), .val (.long ct0), .second, .val (.long ct1), .second, .val (.long ct2), .second, .val (.int mb0), .val (.int mb1), .val (.int mb2), .val (.int p0), .val (.int p1), .val (.int p2), .val (.ref b4), .val (.int n), .val (.long (own_maxJ mx1 ct2)), .second, .unset, .unset, .unset, .unset, .unset, .unset, .unset, .unset, .unset, .unset, .unset, .unset, .unset, .unset, .unset, .unset, .unset, .unset]) (hb hby at_194) rfl _ k) ?_
          exact J8 _ _ _ (own_maxJ mx1 ct2) X111 eh111 Oj7 N111 fj7_0 (own_mxb hx_182 hC2)
       refine Goes.step (fun _ k => pw_iload Xj6.here hx (hb hby at_168) rfl _ k) ?_
       by_cases hc170_111 : p1 = (0 : Int32)
       · refine Goes.step (fun _ k => pw_ifYes Xj6.here hx (pc' := 182) (hb hby at_170) ((if0 _ _).trans (teq hc170_111).1) (by decide) (by decide) _ k) ?_
         exact J7 _ _ _ mx0 Xj6 ej6 Oj6 Nj6 fj6_0 hx_168
       · refine Goes.step (fun _ k => pw_ifNo Xj6.here hx (hb hby at_170) ((if0 _ _).trans (feq hc170_111).1) _ (pw_lload Xj6.here hx (hb hby at_173) rfl _ (pw_lload Xj6.here hx (hb hby at_175) rfl _ k))) ?_
         obtain ⟨_, _, ⟨T113, L113, k113, n113⟩, -, X113, ⟨Lc113, hQ113, l113, y113, z113⟩, st113⟩ := Jvm.LawKit.callS Xj6 hx (y := (⟨"java/lang/Math", "max", "(JJ)J"⟩ : MethodName)) hown (mvT hZ (own_w97 hw)) (mvT hZ (own_w98 hw)) (mvT hZ (own_w92 hw)) (mvT hZ (own_w99 hw)) (by decide) (backOf (W := 0) (rm15 l Z a0 hw [] mx0 ct1 Hj6 n0 Oj6 ) hZ (own_w99 hw) (own_w92 hw) (by decide) (by decide)) (g := (mkF m 177 #[.val (.long i0), .second, .val (.long i1), .second, .val (.long i2), .second, .val (.int i3), .val (.long i4), .second, .val (.int i5), .val (.long ct0), .second, .val (.long ct1), .second, .val (.long ct2), .second, .val (.int mb0), .val (.int mb1), .val (.int mb2), .val (.int p0), .val (.int p1), .val (.int p2), .val (.ref b4), .val (.int n), .val (.long mx0), .second, .unset, .unset, .unset, .unset, .unset, .unset, .unset, .unset, .unset, .unset, .unset, .unset, .unset, .unset, .unset, .unset, .unset, .unset] [(.long ct1), (.long mx0)])) rfl (by rw [hml]; rfl) (argsL := [(.long mx0), (.long ct1)]) (rest := []) (lenOf pd_2 rfl) rfl (by show 2 * 0 + _ ≤ _; exact Nat.le_of_eq rfl) (hb hby at_177) (fun _ _ => ⟨rfl, ej6, (by decide : 1 + 0 ≤ _), (by decide : 3 + 0 ≤ _)⟩)
         dsimp only [Pt.U, Pt.locs, Pt.cells, Pt.slots] at X113 l113 y113 z113 st113 hQ113
         subst l113 y113 z113
         obtain ⟨rfl, Nq113, eh113⟩ := hQ113
         have N113 := Fr.app Nj6 Nq113
         refine Goes.step (B := T113.setTop (mkF m 180 #[.val (.long i0), .second, .val (.long i1), .second, .val (.long i2), .second, .val (.int i3), .val (.long i4), .second, .val (.int i5), .val (.long ct0), .second, .val (.long ct1), .second, .val (.long ct2), .second, .val (.int mb0), .val (.int mb1), .val (.int mb2), .val (.int p0), .val (.int p1), .val (.int p2), .val (.ref b4), .val (.int n), .val (.long mx0), .second, .unset, .unset, .unset, .unset, .unset, .unset, .unset, .unset, .unset, .unset, .unset, .unset, .unset, .unset, .unset, .unset, .unset, .unset] [(.long (own_maxJ mx0 ct1))])) st113 ?_
         refine Goes.step (fun _ k => pw_lstore X113.here hx (l' := #[.val (.long i0), .second, .val (.long i1), .second, .val (.long i2), .second, .val (.int i3), .val (.long i4), .second, .val (.int i5), .val (.long ct0), .second, .val (.long ct1), .second, .val (.long ct2), .second, .val (.int mb0), .val (.int mb1), .val (.int mb2), .val (.int p0), .val (.int p1), .val (.int p2), .val (.ref b4), .val (.int n), .val (.long (own_maxJ mx0 ct1)), .second, .unset, .unset, .unset, .unset, .unset, .unset, .unset, .unset, .unset, .unset, .unset, .unset, .unset, .unset, .unset, .unset, .unset, .unset]) (hb hby at_180) rfl _ k) ?_
         exact J7 _ _ _ (own_maxJ mx0 ct1) X113 eh113 Oj6 N113 fj6_0 (own_mxb hx_168 hC1)
      refine Goes.step (fun _ k => pw_iload Xj5.here hx (hb hby at_154) rfl _ k) ?_
      by_cases hc156_113 : p0 = (0 : Int32)
      · refine Goes.step (fun _ k => pw_ifYes Xj5.here hx (pc' := 168) (hb hby at_156) ((if0 _ _).trans (teq hc156_113).1) (by decide) (by decide) _ k) ?_
        exact J6 _ _ _ (0 : Int64) Xj5 ej5 Oj5 Nj5 fj5_0 ⟨by decide, by decide⟩
      · refine Goes.step (fun _ k => pw_ifNo Xj5.here hx (hb hby at_156) ((if0 _ _).trans (feq hc156_113).1) _ (pw_lload Xj5.here hx (hb hby at_159) rfl _ (pw_lload Xj5.here hx (hb hby at_161) rfl _ k))) ?_
        obtain ⟨_, _, ⟨T115, L115, k115, n115⟩, -, X115, ⟨Lc115, hQ115, l115, y115, z115⟩, st115⟩ := Jvm.LawKit.callS Xj5 hx (y := (⟨"java/lang/Math", "max", "(JJ)J"⟩ : MethodName)) hown (mvT hZ (own_w97 hw)) (mvT hZ (own_w98 hw)) (mvT hZ (own_w92 hw)) (mvT hZ (own_w99 hw)) (by decide) (backOf (W := 0) (rm15 l Z a0 hw [] (0 : Int64) ct0 Hj5 n0 Oj5 ) hZ (own_w99 hw) (own_w92 hw) (by decide) (by decide)) (g := (mkF m 163 #[.val (.long i0), .second, .val (.long i1), .second, .val (.long i2), .second, .val (.int i3), .val (.long i4), .second, .val (.int i5), .val (.long ct0), .second, .val (.long ct1), .second, .val (.long ct2), .second, .val (.int mb0), .val (.int mb1), .val (.int mb2), .val (.int p0), .val (.int p1), .val (.int p2), .val (.ref b4), .val (.int n), .val (.long 0), .second, .unset, .unset, .unset, .unset, .unset, .unset, .unset, .unset, .unset, .unset, .unset, .unset, .unset, .unset, .unset, .unset, .unset, .unset] [(.long ct0), (.long 0)])) rfl (by rw [hml]; rfl) (argsL := [(.long 0), (.long ct0)]) (rest := []) (lenOf pd_2 rfl) rfl (by show 2 * 0 + _ ≤ _; exact Nat.le_of_eq rfl) (hb hby at_163) (fun _ _ => ⟨rfl, ej5, (by decide : 1 + 0 ≤ _), (by decide : 3 + 0 ≤ _)⟩)
        dsimp only [Pt.U, Pt.locs, Pt.cells, Pt.slots] at X115 l115 y115 z115 st115 hQ115
        subst l115 y115 z115
        obtain ⟨rfl, Nq115, eh115⟩ := hQ115
        have N115 := Fr.app Nj5 Nq115
        refine Goes.step (B := T115.setTop (mkF m 166 #[.val (.long i0), .second, .val (.long i1), .second, .val (.long i2), .second, .val (.int i3), .val (.long i4), .second, .val (.int i5), .val (.long ct0), .second, .val (.long ct1), .second, .val (.long ct2), .second, .val (.int mb0), .val (.int mb1), .val (.int mb2), .val (.int p0), .val (.int p1), .val (.int p2), .val (.ref b4), .val (.int n), .val (.long 0), .second, .unset, .unset, .unset, .unset, .unset, .unset, .unset, .unset, .unset, .unset, .unset, .unset, .unset, .unset, .unset, .unset, .unset, .unset] [(.long (own_maxJ (0 : Int64) ct0))])) st115 ?_
        refine Goes.step (fun _ k => pw_lstore X115.here hx (l' := #[.val (.long i0), .second, .val (.long i1), .second, .val (.long i2), .second, .val (.int i3), .val (.long i4), .second, .val (.int i5), .val (.long ct0), .second, .val (.long ct1), .second, .val (.long ct2), .second, .val (.int mb0), .val (.int mb1), .val (.int mb2), .val (.int p0), .val (.int p1), .val (.int p2), .val (.ref b4), .val (.int n), .val (.long (own_maxJ (0 : Int64) ct0)), .second, .unset, .unset, .unset, .unset, .unset, .unset, .unset, .unset, .unset, .unset, .unset, .unset, .unset, .unset, .unset, .unset, .unset, .unset]) (hb hby at_166) rfl _ k) ?_
        exact J6 _ _ _ (own_maxJ (0 : Int64) ct0) X115 eh115 Oj5 N115 fj5_0 (own_mxb ⟨by decide, by decide⟩ hC0)
     rcases hp0 with rfl | rfl
     · rcases hp1 with rfl | rfl
       · rcases hp2 with rfl | rfl
         · refine Goes.step (fun _ k => pw_iload X4.here hx (hb hby at_109) rfl _ (pw_ifYes X4.here hx (pc' := 123) (hb hby at_111) ((if0 _ _).trans (teq (by decide)).1) (by decide) (by decide) _ (pw_iload X4.here hx (hb hby at_123) rfl _ (pw_ifYes X4.here hx (pc' := 137) (hb hby at_125) ((if0 _ _).trans (teq (by decide)).1) (by decide) (by decide) _ (pw_iload X4.here hx (hb hby at_137) rfl _ (pw_ifYes X4.here hx (pc' := 151) (hb hby at_139) ((if0 _ _).trans (teq (by decide)).1) (by decide) (by decide) _ k)))))) ?_
           exact J5 _ _ _ (0 : Int32) (0 : Int32) (0 : Int32) (0 : Int32) X4 e4 O_4 N0 V_b4 (Or.inl ⟨rfl, rfl, rfl, rfl⟩)
         · refine Goes.step (fun _ k => pw_iload X4.here hx (hb hby at_109) rfl _ (pw_ifYes X4.here hx (pc' := 123) (hb hby at_111) ((if0 _ _).trans (teq (by decide)).1) (by decide) (by decide) _ (pw_iload X4.here hx (hb hby at_123) rfl _ (pw_ifYes X4.here hx (pc' := 137) (hb hby at_125) ((if0 _ _).trans (teq (by decide)).1) (by decide) (by decide) _ (pw_iload X4.here hx (hb hby at_137) rfl _ (pw_ifNo X4.here hx (hb hby at_139) ((if0 _ _).trans (feq (by decide)).1) _ k)))))) ?_
           refine Goes.step (fun _ k => pw_aload X4.here hx (hb hby at_142) rfl rfl _ (pw_iload X4.here hx (hb hby at_144) rfl _ (pw_iconst X4.here hx (v := (2 : Int32)) (hb hby at_146) rfl _ k))) ?_
           obtain ⟨c116, Ar116, q116, Sz116, Nn116, Hs116, Gs116⟩ := id V_b4
           have hin116 : ¬ ((0 : Int32) < 0 ∨ c116.slots.size ≤ ((0 : Int32)).toNatClampNeg) := inb_of Sz116 ⟨by decide, by decide⟩
           obtain ⟨T116, h116, X116, e116, W116, st116⟩ := stI X4 hx hZ e4 Ar116 (j := (0 : Int32)) hin116 (g := (mkF m 147 #[.val (.long i0), .second, .val (.long i1), .second, .val (.long i2), .second, .val (.int i3), .val (.long i4), .second, .val (.int i5), .val (.long ct0), .second, .val (.long ct1), .second, .val (.long ct2), .second, .val (.int mb0), .val (.int mb1), .val (.int mb2), .val (.int 0), .val (.int 0), .val (.int 1), .val (.ref b4), .val (.int 0), .unset, .unset, .unset, .unset, .unset, .unset, .unset, .unset, .unset, .unset, .unset, .unset, .unset, .unset, .unset, .unset, .unset, .unset, .unset, .unset] [(.int 2), (.int 0), (.ref b4)])) rfl rfl (hb hby at_147)
           have V116 : Arv Z h116 b4 k4 .int (3 : Int32) [(.int 2), (.int 0), (.int 0)] (.int 0) := Arv.set Ar116 q116 Sz116 Nn116 Hs116 Gs116 rfl W116 0 rfl (Nat.le_of_ble_eq_true rfl)
           have N116 := Fr.snoc X116 N0 g_b4
           have O_116 := O_4.wr W116 g_b4
           refine Goes.step (B := T116.setTop (mkF m 148 #[.val (.long i0), .second, .val (.long i1), .second, .val (.long i2), .second, .val (.int i3), .val (.long i4), .second, .val (.int i5), .val (.long ct0), .second, .val (.long ct1), .second, .val (.long ct2), .second, .val (.int mb0), .val (.int mb1), .val (.int mb2), .val (.int 0), .val (.int 0), .val (.int 1), .val (.ref b4), .val (.int 0), .unset, .unset, .unset, .unset, .unset, .unset, .unset, .unset, .unset, .unset, .unset, .unset, .unset, .unset, .unset, .unset, .unset, .unset, .unset, .unset] [])) st116 ?_
           refine Goes.step (fun _ k => pw_iinc X116.here hx (l' := #[.val (.long i0), .second, .val (.long i1), .second, .val (.long i2), .second, .val (.int i3), .val (.long i4), .second, .val (.int i5), .val (.long ct0), .second, .val (.long ct1), .second, .val (.long ct2), .second, .val (.int mb0), .val (.int mb1), .val (.int mb2), .val (.int 0), .val (.int 0), .val (.int 1), .val (.ref b4), .val (.int 1), .unset, .unset, .unset, .unset, .unset, .unset, .unset, .unset, .unset, .unset, .unset, .unset, .unset, .unset, .unset, .unset, .unset, .unset, .unset, .unset]) (hb hby at_148) rfl rfl _ k) ?_
           exact J5 _ _ _ (1 : Int32) (2 : Int32) (0 : Int32) (0 : Int32) X116 e116 O_116 N116 V116 (Or.inr (Or.inr (Or.inr (Or.inl ⟨rfl, rfl, rfl, rfl, rfl⟩))))
       · rcases hp2 with rfl | rfl
         · refine Goes.step (fun _ k => pw_iload X4.here hx (hb hby at_109) rfl _ (pw_ifYes X4.here hx (pc' := 123) (hb hby at_111) ((if0 _ _).trans (teq (by decide)).1) (by decide) (by decide) _ (pw_iload X4.here hx (hb hby at_123) rfl _ (pw_ifNo X4.here hx (hb hby at_125) ((if0 _ _).trans (feq (by decide)).1) _ (pw_aload X4.here hx (hb hby at_128) rfl rfl _ (pw_iload X4.here hx (hb hby at_130) rfl _ k)))))) ?_
           refine Goes.step (fun _ k => pw_iconst X4.here hx (v := (1 : Int32)) (hb hby at_132) rfl _ k) ?_
           obtain ⟨c117, Ar117, q117, Sz117, Nn117, Hs117, Gs117⟩ := id V_b4
           have hin117 : ¬ ((0 : Int32) < 0 ∨ c117.slots.size ≤ ((0 : Int32)).toNatClampNeg) := inb_of Sz117 ⟨by decide, by decide⟩
           obtain ⟨T117, h117, X117, e117, W117, st117⟩ := stI X4 hx hZ e4 Ar117 (j := (0 : Int32)) hin117 (g := (mkF m 133 #[.val (.long i0), .second, .val (.long i1), .second, .val (.long i2), .second, .val (.int i3), .val (.long i4), .second, .val (.int i5), .val (.long ct0), .second, .val (.long ct1), .second, .val (.long ct2), .second, .val (.int mb0), .val (.int mb1), .val (.int mb2), .val (.int 0), .val (.int 1), .val (.int 0), .val (.ref b4), .val (.int 0), .unset, .unset, .unset, .unset, .unset, .unset, .unset, .unset, .unset, .unset, .unset, .unset, .unset, .unset, .unset, .unset, .unset, .unset, .unset, .unset] [(.int 1), (.int 0), (.ref b4)])) rfl rfl (hb hby at_133)
           have V117 : Arv Z h117 b4 k4 .int (3 : Int32) [(.int 1), (.int 0), (.int 0)] (.int 0) := Arv.set Ar117 q117 Sz117 Nn117 Hs117 Gs117 rfl W117 0 rfl (Nat.le_of_ble_eq_true rfl)
           have N117 := Fr.snoc X117 N0 g_b4
           have O_117 := O_4.wr W117 g_b4
           refine Goes.step (B := T117.setTop (mkF m 134 #[.val (.long i0), .second, .val (.long i1), .second, .val (.long i2), .second, .val (.int i3), .val (.long i4), .second, .val (.int i5), .val (.long ct0), .second, .val (.long ct1), .second, .val (.long ct2), .second, .val (.int mb0), .val (.int mb1), .val (.int mb2), .val (.int 0), .val (.int 1), .val (.int 0), .val (.ref b4), .val (.int 0), .unset, .unset, .unset, .unset, .unset, .unset, .unset, .unset, .unset, .unset, .unset, .unset, .unset, .unset, .unset, .unset, .unset, .unset, .unset, .unset] [])) st117 ?_
           refine Goes.step (fun _ k => pw_iinc X117.here hx (l' := #[.val (.long i0), .second, .val (.long i1), .second, .val (.long i2), .second, .val (.int i3), .val (.long i4), .second, .val (.int i5), .val (.long ct0), .second, .val (.long ct1), .second, .val (.long ct2), .second, .val (.int mb0), .val (.int mb1), .val (.int mb2), .val (.int 0), .val (.int 1), .val (.int 0), .val (.ref b4), .val (.int 1), .unset, .unset, .unset, .unset, .unset, .unset, .unset, .unset, .unset, .unset, .unset, .unset, .unset, .unset, .unset, .unset, .unset, .unset, .unset, .unset]) (hb hby at_134) rfl rfl _ (pw_iload X117.here hx (hb hby at_137) rfl _ (pw_ifYes X117.here hx (pc' := 151) (hb hby at_139) ((if0 _ _).trans (teq (by decide)).1) (by decide) (by decide) _ k))) ?_
           exact J5 _ _ _ (1 : Int32) (1 : Int32) (0 : Int32) (0 : Int32) X117 e117 O_117 N117 V117 (Or.inr (Or.inr (Or.inl ⟨rfl, rfl, rfl, rfl, rfl⟩)))
         · refine Goes.step (fun _ k => pw_iload X4.here hx (hb hby at_109) rfl _ (pw_ifYes X4.here hx (pc' := 123) (hb hby at_111) ((if0 _ _).trans (teq (by decide)).1) (by decide) (by decide) _ (pw_iload X4.here hx (hb hby at_123) rfl _ (pw_ifNo X4.here hx (hb hby at_125) ((if0 _ _).trans (feq (by decide)).1) _ (pw_aload X4.here hx (hb hby at_128) rfl rfl _ (pw_iload X4.here hx (hb hby at_130) rfl _ k)))))) ?_
           refine Goes.step (fun _ k => pw_iconst X4.here hx (v := (1 : Int32)) (hb hby at_132) rfl _ k) ?_
           obtain ⟨c118, Ar118, q118, Sz118, Nn118, Hs118, Gs118⟩ := id V_b4
           have hin118 : ¬ ((0 : Int32) < 0 ∨ c118.slots.size ≤ ((0 : Int32)).toNatClampNeg) := inb_of Sz118 ⟨by decide, by decide⟩
           obtain ⟨T118, h118, X118, e118, W118, st118⟩ := stI X4 hx hZ e4 Ar118 (j := (0 : Int32)) hin118 (g := (mkF m 133 #[.val (.long i0), .second, .val (.long i1), .second, .val (.long i2), .second, .val (.int i3), .val (.long i4), .second, .val (.int i5), .val (.long ct0), .second, .val (.long ct1), .second, .val (.long ct2), .second, .val (.int mb0), .val (.int mb1), .val (.int mb2), .val (.int 0), .val (.int 1), .val (.int 1), .val (.ref b4), .val (.int 0), .unset, .unset, .unset, .unset, .unset, .unset, .unset, .unset, .unset, .unset, .unset, .unset, .unset, .unset, .unset, .unset, .unset, .unset, .unset, .unset] [(.int 1), (.int 0), (.ref b4)])) rfl rfl (hb hby at_133)
           have V118 : Arv Z h118 b4 k4 .int (3 : Int32) [(.int 1), (.int 0), (.int 0)] (.int 0) := Arv.set Ar118 q118 Sz118 Nn118 Hs118 Gs118 rfl W118 0 rfl (Nat.le_of_ble_eq_true rfl)
           have N118 := Fr.snoc X118 N0 g_b4
           have O_118 := O_4.wr W118 g_b4
           refine Goes.step (B := T118.setTop (mkF m 134 #[.val (.long i0), .second, .val (.long i1), .second, .val (.long i2), .second, .val (.int i3), .val (.long i4), .second, .val (.int i5), .val (.long ct0), .second, .val (.long ct1), .second, .val (.long ct2), .second, .val (.int mb0), .val (.int mb1), .val (.int mb2), .val (.int 0), .val (.int 1), .val (.int 1), .val (.ref b4), .val (.int 0), .unset, .unset, .unset, .unset, .unset, .unset, .unset, .unset, .unset, .unset, .unset, .unset, .unset, .unset, .unset, .unset, .unset, .unset, .unset, .unset] [])) st118 ?_
           refine Goes.step (fun _ k => pw_iinc X118.here hx (l' := #[.val (.long i0), .second, .val (.long i1), .second, .val (.long i2), .second, .val (.int i3), .val (.long i4), .second, .val (.int i5), .val (.long ct0), .second, .val (.long ct1), .second, .val (.long ct2), .second, .val (.int mb0), .val (.int mb1), .val (.int mb2), .val (.int 0), .val (.int 1), .val (.int 1), .val (.ref b4), .val (.int 1), .unset, .unset, .unset, .unset, .unset, .unset, .unset, .unset, .unset, .unset, .unset, .unset, .unset, .unset, .unset, .unset, .unset, .unset, .unset, .unset]) (hb hby at_134) rfl rfl _ (pw_iload X118.here hx (hb hby at_137) rfl _ (pw_ifNo X118.here hx (hb hby at_139) ((if0 _ _).trans (feq (by decide)).1) _ (pw_aload X118.here hx (hb hby at_142) rfl rfl _ (pw_iload X118.here hx (hb hby at_144) rfl _ (pw_iconst X118.here hx (v := (2 : Int32)) (hb hby at_146) rfl _ k)))))) ?_
           obtain ⟨c119, Ar119, q119, Sz119, Nn119, Hs119, Gs119⟩ := id V118
           have hin119 : ¬ ((1 : Int32) < 0 ∨ c119.slots.size ≤ ((1 : Int32)).toNatClampNeg) := inb_of Sz119 ⟨by decide, by decide⟩
           obtain ⟨T119, h119, X119, e119, W119, st119⟩ := stI X118 hx hZ e118 Ar119 (j := (1 : Int32)) hin119 (g := (mkF m 147 #[.val (.long i0), .second, .val (.long i1), .second, .val (.long i2), .second, .val (.int i3), .val (.long i4), .second, .val (.int i5), .val (.long ct0), .second, .val (.long ct1), .second, .val (.long ct2), .second, .val (.int mb0), .val (.int mb1), .val (.int mb2), .val (.int 0), .val (.int 1), .val (.int 1), .val (.ref b4), .val (.int 1), .unset, .unset, .unset, .unset, .unset, .unset, .unset, .unset, .unset, .unset, .unset, .unset, .unset, .unset, .unset, .unset, .unset, .unset, .unset, .unset] [(.int 2), (.int 1), (.ref b4)])) rfl rfl (hb hby at_147)
           have V119 : Arv Z h119 b4 k4 .int (3 : Int32) [(.int 1), (.int 2), (.int 0)] (.int 0) := Arv.set Ar119 q119 Sz119 Nn119 Hs119 Gs119 rfl W119 1 rfl (Nat.le_of_ble_eq_true rfl)
           have N119 := Fr.snoc X119 N118 g_b4
           have O_119 := O_118.wr W119 g_b4
           refine Goes.step (B := T119.setTop (mkF m 148 #[.val (.long i0), .second, .val (.long i1), .second, .val (.long i2), .second, .val (.int i3), .val (.long i4), .second, .val (.int i5), .val (.long ct0), .second, .val (.long ct1), .second, .val (.long ct2), .second, .val (.int mb0), .val (.int mb1), .val (.int mb2), .val (.int 0), .val (.int 1), .val (.int 1), .val (.ref b4), .val (.int 1), .unset, .unset, .unset, .unset, .unset, .unset, .unset, .unset, .unset, .unset, .unset, .unset, .unset, .unset, .unset, .unset, .unset, .unset, .unset, .unset] [])) st119 ?_
           refine Goes.step (fun _ k => pw_iinc X119.here hx (l' := #[.val (.long i0), .second, .val (.long i1), .second, .val (.long i2), .second, .val (.int i3), .val (.long i4), .second, .val (.int i5), .val (.long ct0), .second, .val (.long ct1), .second, .val (.long ct2), .second, .val (.int mb0), .val (.int mb1), .val (.int mb2), .val (.int 0), .val (.int 1), .val (.int 1), .val (.ref b4), .val (.int 2), .unset, .unset, .unset, .unset, .unset, .unset, .unset, .unset, .unset, .unset, .unset, .unset, .unset, .unset, .unset, .unset, .unset, .unset, .unset, .unset]) (hb hby at_148) rfl rfl _ k) ?_
           exact J5 _ _ _ (2 : Int32) (1 : Int32) (2 : Int32) (0 : Int32) X119 e119 O_119 N119 V119 (Or.inr (Or.inr (Or.inr (Or.inr (Or.inr (Or.inr (Or.inl ⟨rfl, rfl, rfl, rfl, rfl, rfl⟩)))))))
     · rcases hp1 with rfl | rfl
       · rcases hp2 with rfl | rfl
         · refine Goes.step (fun _ k => pw_iload X4.here hx (hb hby at_109) rfl _ (pw_ifNo X4.here hx (hb hby at_111) ((if0 _ _).trans (feq (by decide)).1) _ (pw_aload X4.here hx (hb hby at_114) rfl rfl _ (pw_iload X4.here hx (hb hby at_116) rfl _ (pw_iconst X4.here hx (v := (0 : Int32)) (hb hby at_118) rfl _ k))))) ?_
           obtain ⟨c120, Ar120, q120, Sz120, Nn120, Hs120, Gs120⟩ := id V_b4
           have hin120 : ¬ ((0 : Int32) < 0 ∨ c120.slots.size ≤ ((0 : Int32)).toNatClampNeg) := inb_of Sz120 ⟨by decide, by decide⟩
           obtain ⟨T120, h120, X120, e120, W120, st120⟩ := stI X4 hx hZ e4 Ar120 (j := (0 : Int32)) hin120 (g := (mkF m 119 #[.val (.long i0), .second, .val (.long i1), .second, .val (.long i2), .second, .val (.int i3), .val (.long i4), .second, .val (.int i5), .val (.long ct0), .second, .val (.long ct1), .second, .val (.long ct2), .second, .val (.int mb0), .val (.int mb1), .val (.int mb2), .val (.int 1), .val (.int 0), .val (.int 0), .val (.ref b4), .val (.int 0), .unset, .unset, .unset, .unset, .unset, .unset, .unset, .unset, .unset, .unset, .unset, .unset, .unset, .unset, .unset, .unset, .unset, .unset, .unset, .unset] [(.int 0), (.int 0), (.ref b4)])) rfl rfl (hb hby at_119)
           have V120 : Arv Z h120 b4 k4 .int (3 : Int32) [(.int 0), (.int 0), (.int 0)] (.int 0) := Arv.set Ar120 q120 Sz120 Nn120 Hs120 Gs120 rfl W120 0 rfl (Nat.le_of_ble_eq_true rfl)
           have N120 := Fr.snoc X120 N0 g_b4
           have O_120 := O_4.wr W120 g_b4
           refine Goes.step (B := T120.setTop (mkF m 120 #[.val (.long i0), .second, .val (.long i1), .second, .val (.long i2), .second, .val (.int i3), .val (.long i4), .second, .val (.int i5), .val (.long ct0), .second, .val (.long ct1), .second, .val (.long ct2), .second, .val (.int mb0), .val (.int mb1), .val (.int mb2), .val (.int 1), .val (.int 0), .val (.int 0), .val (.ref b4), .val (.int 0), .unset, .unset, .unset, .unset, .unset, .unset, .unset, .unset, .unset, .unset, .unset, .unset, .unset, .unset, .unset, .unset, .unset, .unset, .unset, .unset] [])) st120 ?_
           refine Goes.step (fun _ k => pw_iinc X120.here hx (l' := #[.val (.long i0), .second, .val (.long i1), .second, .val (.long i2), .second, .val (.int i3), .val (.long i4), .second, .val (.int i5), .val (.long ct0), .second, .val (.long ct1), .second, .val (.long ct2), .second, .val (.int mb0), .val (.int mb1), .val (.int mb2), .val (.int 1), .val (.int 0), .val (.int 0), .val (.ref b4), .val (.int 1), .unset, .unset, .unset, .unset, .unset, .unset, .unset, .unset, .unset, .unset, .unset, .unset, .unset, .unset, .unset, .unset, .unset, .unset, .unset, .unset]) (hb hby at_120) rfl rfl _ (pw_iload X120.here hx (hb hby at_123) rfl _ (pw_ifYes X120.here hx (pc' := 137) (hb hby at_125) ((if0 _ _).trans (teq (by decide)).1) (by decide) (by decide) _ (pw_iload X120.here hx (hb hby at_137) rfl _ (pw_ifYes X120.here hx (pc' := 151) (hb hby at_139) ((if0 _ _).trans (teq (by decide)).1) (by decide) (by decide) _ k))))) ?_
           exact J5 _ _ _ (1 : Int32) (0 : Int32) (0 : Int32) (0 : Int32) X120 e120 O_120 N120 V120 (Or.inr (Or.inl ⟨rfl, rfl, rfl, rfl, rfl⟩))
         · refine Goes.step (fun _ k => pw_iload X4.here hx (hb hby at_109) rfl _ (pw_ifNo X4.here hx (hb hby at_111) ((if0 _ _).trans (feq (by decide)).1) _ (pw_aload X4.here hx (hb hby at_114) rfl rfl _ (pw_iload X4.here hx (hb hby at_116) rfl _ (pw_iconst X4.here hx (v := (0 : Int32)) (hb hby at_118) rfl _ k))))) ?_
           obtain ⟨c121, Ar121, q121, Sz121, Nn121, Hs121, Gs121⟩ := id V_b4
           have hin121 : ¬ ((0 : Int32) < 0 ∨ c121.slots.size ≤ ((0 : Int32)).toNatClampNeg) := inb_of Sz121 ⟨by decide, by decide⟩
           obtain ⟨T121, h121, X121, e121, W121, st121⟩ := stI X4 hx hZ e4 Ar121 (j := (0 : Int32)) hin121 (g := (mkF m 119 #[.val (.long i0), .second, .val (.long i1), .second, .val (.long i2), .second, .val (.int i3), .val (.long i4), .second, .val (.int i5), .val (.long ct0), .second, .val (.long ct1), .second, .val (.long ct2), .second, .val (.int mb0), .val (.int mb1), .val (.int mb2), .val (.int 1), .val (.int 0), .val (.int 1), .val (.ref b4), .val (.int 0), .unset, .unset, .unset, .unset, .unset, .unset, .unset, .unset, .unset, .unset, .unset, .unset, .unset, .unset, .unset, .unset, .unset, .unset, .unset, .unset] [(.int 0), (.int 0), (.ref b4)])) rfl rfl (hb hby at_119)
           have V121 : Arv Z h121 b4 k4 .int (3 : Int32) [(.int 0), (.int 0), (.int 0)] (.int 0) := Arv.set Ar121 q121 Sz121 Nn121 Hs121 Gs121 rfl W121 0 rfl (Nat.le_of_ble_eq_true rfl)
           have N121 := Fr.snoc X121 N0 g_b4
           have O_121 := O_4.wr W121 g_b4
           refine Goes.step (B := T121.setTop (mkF m 120 #[.val (.long i0), .second, .val (.long i1), .second, .val (.long i2), .second, .val (.int i3), .val (.long i4), .second, .val (.int i5), .val (.long ct0), .second, .val (.long ct1), .second, .val (.long ct2), .second, .val (.int mb0), .val (.int mb1), .val (.int mb2), .val (.int 1), .val (.int 0), .val (.int 1), .val (.ref b4), .val (.int 0), .unset, .unset, .unset, .unset, .unset, .unset, .unset, .unset, .unset, .unset, .unset, .unset, .unset, .unset, .unset, .unset, .unset, .unset, .unset, .unset] [])) st121 ?_
           refine Goes.step (fun _ k => pw_iinc X121.here hx (l' := #[.val (.long i0), .second, .val (.long i1), .second, .val (.long i2), .second, .val (.int i3), .val (.long i4), .second, .val (.int i5), .val (.long ct0), .second, .val (.long ct1), .second, .val (.long ct2), .second, .val (.int mb0), .val (.int mb1), .val (.int mb2), .val (.int 1), .val (.int 0), .val (.int 1), .val (.ref b4), .val (.int 1), .unset, .unset, .unset, .unset, .unset, .unset, .unset, .unset, .unset, .unset, .unset, .unset, .unset, .unset, .unset, .unset, .unset, .unset, .unset, .unset]) (hb hby at_120) rfl rfl _ (pw_iload X121.here hx (hb hby at_123) rfl _ (pw_ifYes X121.here hx (pc' := 137) (hb hby at_125) ((if0 _ _).trans (teq (by decide)).1) (by decide) (by decide) _ (pw_iload X121.here hx (hb hby at_137) rfl _ (pw_ifNo X121.here hx (hb hby at_139) ((if0 _ _).trans (feq (by decide)).1) _ (pw_aload X121.here hx (hb hby at_142) rfl rfl _ k)))))) ?_
           refine Goes.step (fun _ k => pw_iload X121.here hx (hb hby at_144) rfl _ (pw_iconst X121.here hx (v := (2 : Int32)) (hb hby at_146) rfl _ k)) ?_
           obtain ⟨c122, Ar122, q122, Sz122, Nn122, Hs122, Gs122⟩ := id V121
           have hin122 : ¬ ((1 : Int32) < 0 ∨ c122.slots.size ≤ ((1 : Int32)).toNatClampNeg) := inb_of Sz122 ⟨by decide, by decide⟩
           obtain ⟨T122, h122, X122, e122, W122, st122⟩ := stI X121 hx hZ e121 Ar122 (j := (1 : Int32)) hin122 (g := (mkF m 147 #[.val (.long i0), .second, .val (.long i1), .second, .val (.long i2), .second, .val (.int i3), .val (.long i4), .second, .val (.int i5), .val (.long ct0), .second, .val (.long ct1), .second, .val (.long ct2), .second, .val (.int mb0), .val (.int mb1), .val (.int mb2), .val (.int 1), .val (.int 0), .val (.int 1), .val (.ref b4), .val (.int 1), .unset, .unset, .unset, .unset, .unset, .unset, .unset, .unset, .unset, .unset, .unset, .unset, .unset, .unset, .unset, .unset, .unset, .unset, .unset, .unset] [(.int 2), (.int 1), (.ref b4)])) rfl rfl (hb hby at_147)
           have V122 : Arv Z h122 b4 k4 .int (3 : Int32) [(.int 0), (.int 2), (.int 0)] (.int 0) := Arv.set Ar122 q122 Sz122 Nn122 Hs122 Gs122 rfl W122 1 rfl (Nat.le_of_ble_eq_true rfl)
           have N122 := Fr.snoc X122 N121 g_b4
           have O_122 := O_121.wr W122 g_b4
           refine Goes.step (B := T122.setTop (mkF m 148 #[.val (.long i0), .second, .val (.long i1), .second, .val (.long i2), .second, .val (.int i3), .val (.long i4), .second, .val (.int i5), .val (.long ct0), .second, .val (.long ct1), .second, .val (.long ct2), .second, .val (.int mb0), .val (.int mb1), .val (.int mb2), .val (.int 1), .val (.int 0), .val (.int 1), .val (.ref b4), .val (.int 1), .unset, .unset, .unset, .unset, .unset, .unset, .unset, .unset, .unset, .unset, .unset, .unset, .unset, .unset, .unset, .unset, .unset, .unset, .unset, .unset] [])) st122 ?_
           refine Goes.step (fun _ k => pw_iinc X122.here hx (l' := #[.val (.long i0), .second, .val (.long i1), .second, .val (.long i2), .second, .val (.int i3), .val (.long i4), .second, .val (.int i5), .val (.long ct0), .second, .val (.long ct1), .second, .val (.long ct2), .second, .val (.int mb0), .val (.int mb1), .val (.int mb2), .val (.int 1), .val (.int 0), .val (.int 1), .val (.ref b4), .val (.int 2), .unset, .unset, .unset, .unset, .unset, .unset, .unset, .unset, .unset, .unset, .unset, .unset, .unset, .unset, .unset, .unset, .unset, .unset, .unset, .unset]) (hb hby at_148) rfl rfl _ k) ?_
           exact J5 _ _ _ (2 : Int32) (0 : Int32) (2 : Int32) (0 : Int32) X122 e122 O_122 N122 V122 (Or.inr (Or.inr (Or.inr (Or.inr (Or.inr (Or.inl ⟨rfl, rfl, rfl, rfl, rfl, rfl⟩))))))
       · rcases hp2 with rfl | rfl
         · refine Goes.step (fun _ k => pw_iload X4.here hx (hb hby at_109) rfl _ (pw_ifNo X4.here hx (hb hby at_111) ((if0 _ _).trans (feq (by decide)).1) _ (pw_aload X4.here hx (hb hby at_114) rfl rfl _ (pw_iload X4.here hx (hb hby at_116) rfl _ (pw_iconst X4.here hx (v := (0 : Int32)) (hb hby at_118) rfl _ k))))) ?_
           obtain ⟨c123, Ar123, q123, Sz123, Nn123, Hs123, Gs123⟩ := id V_b4
           have hin123 : ¬ ((0 : Int32) < 0 ∨ c123.slots.size ≤ ((0 : Int32)).toNatClampNeg) := inb_of Sz123 ⟨by decide, by decide⟩
           obtain ⟨T123, h123, X123, e123, W123, st123⟩ := stI X4 hx hZ e4 Ar123 (j := (0 : Int32)) hin123 (g := (mkF m 119 #[.val (.long i0), .second, .val (.long i1), .second, .val (.long i2), .second, .val (.int i3), .val (.long i4), .second, .val (.int i5), .val (.long ct0), .second, .val (.long ct1), .second, .val (.long ct2), .second, .val (.int mb0), .val (.int mb1), .val (.int mb2), .val (.int 1), .val (.int 1), .val (.int 0), .val (.ref b4), .val (.int 0), .unset, .unset, .unset, .unset, .unset, .unset, .unset, .unset, .unset, .unset, .unset, .unset, .unset, .unset, .unset, .unset, .unset, .unset, .unset, .unset] [(.int 0), (.int 0), (.ref b4)])) rfl rfl (hb hby at_119)
           have V123 : Arv Z h123 b4 k4 .int (3 : Int32) [(.int 0), (.int 0), (.int 0)] (.int 0) := Arv.set Ar123 q123 Sz123 Nn123 Hs123 Gs123 rfl W123 0 rfl (Nat.le_of_ble_eq_true rfl)
           have N123 := Fr.snoc X123 N0 g_b4
           have O_123 := O_4.wr W123 g_b4
           refine Goes.step (B := T123.setTop (mkF m 120 #[.val (.long i0), .second, .val (.long i1), .second, .val (.long i2), .second, .val (.int i3), .val (.long i4), .second, .val (.int i5), .val (.long ct0), .second, .val (.long ct1), .second, .val (.long ct2), .second, .val (.int mb0), .val (.int mb1), .val (.int mb2), .val (.int 1), .val (.int 1), .val (.int 0), .val (.ref b4), .val (.int 0), .unset, .unset, .unset, .unset, .unset, .unset, .unset, .unset, .unset, .unset, .unset, .unset, .unset, .unset, .unset, .unset, .unset, .unset, .unset, .unset] [])) st123 ?_
           refine Goes.step (fun _ k => pw_iinc X123.here hx (l' := #[.val (.long i0), .second, .val (.long i1), .second, .val (.long i2), .second, .val (.int i3), .val (.long i4), .second, .val (.int i5), .val (.long ct0), .second, .val (.long ct1), .second, .val (.long ct2), .second, .val (.int mb0), .val (.int mb1), .val (.int mb2), .val (.int 1), .val (.int 1), .val (.int 0), .val (.ref b4), .val (.int 1), .unset, .unset, .unset, .unset, .unset, .unset, .unset, .unset, .unset, .unset, .unset, .unset, .unset, .unset, .unset, .unset, .unset, .unset, .unset, .unset]) (hb hby at_120) rfl rfl _ (pw_iload X123.here hx (hb hby at_123) rfl _ (pw_ifNo X123.here hx (hb hby at_125) ((if0 _ _).trans (feq (by decide)).1) _ (pw_aload X123.here hx (hb hby at_128) rfl rfl _ (pw_iload X123.here hx (hb hby at_130) rfl _ (pw_iconst X123.here hx (v := (1 : Int32)) (hb hby at_132) rfl _ k)))))) ?_
           obtain ⟨c124, Ar124, q124, Sz124, Nn124, Hs124, Gs124⟩ := id V123
           have hin124 : ¬ ((1 : Int32) < 0 ∨ c124.slots.size ≤ ((1 : Int32)).toNatClampNeg) := inb_of Sz124 ⟨by decide, by decide⟩
           obtain ⟨T124, h124, X124, e124, W124, st124⟩ := stI X123 hx hZ e123 Ar124 (j := (1 : Int32)) hin124 (g := (mkF m 133 #[.val (.long i0), .second, .val (.long i1), .second, .val (.long i2), .second, .val (.int i3), .val (.long i4), .second, .val (.int i5), .val (.long ct0), .second, .val (.long ct1), .second, .val (.long ct2), .second, .val (.int mb0), .val (.int mb1), .val (.int mb2), .val (.int 1), .val (.int 1), .val (.int 0), .val (.ref b4), .val (.int 1), .unset, .unset, .unset, .unset, .unset, .unset, .unset, .unset, .unset, .unset, .unset, .unset, .unset, .unset, .unset, .unset, .unset, .unset, .unset, .unset] [(.int 1), (.int 1), (.ref b4)])) rfl rfl (hb hby at_133)
           have V124 : Arv Z h124 b4 k4 .int (3 : Int32) [(.int 0), (.int 1), (.int 0)] (.int 0) := Arv.set Ar124 q124 Sz124 Nn124 Hs124 Gs124 rfl W124 1 rfl (Nat.le_of_ble_eq_true rfl)
           have N124 := Fr.snoc X124 N123 g_b4
           have O_124 := O_123.wr W124 g_b4
           refine Goes.step (B := T124.setTop (mkF m 134 #[.val (.long i0), .second, .val (.long i1), .second, .val (.long i2), .second, .val (.int i3), .val (.long i4), .second, .val (.int i5), .val (.long ct0), .second, .val (.long ct1), .second, .val (.long ct2), .second, .val (.int mb0), .val (.int mb1), .val (.int mb2), .val (.int 1), .val (.int 1), .val (.int 0), .val (.ref b4), .val (.int 1), .unset, .unset, .unset, .unset, .unset, .unset, .unset, .unset, .unset, .unset, .unset, .unset, .unset, .unset, .unset, .unset, .unset, .unset, .unset, .unset] [])) st124 ?_
           refine Goes.step (fun _ k => pw_iinc X124.here hx (l' := #[.val (.long i0), .second, .val (.long i1), .second, .val (.long i2), .second, .val (.int i3), .val (.long i4), .second, .val (.int i5), .val (.long ct0), .second, .val (.long ct1), .second, .val (.long ct2), .second, .val (.int mb0), .val (.int mb1), .val (.int mb2), .val (.int 1), .val (.int 1), .val (.int 0), .val (.ref b4), .val (.int 2), .unset, .unset, .unset, .unset, .unset, .unset, .unset, .unset, .unset, .unset, .unset, .unset, .unset, .unset, .unset, .unset, .unset, .unset, .unset, .unset]) (hb hby at_134) rfl rfl _ (pw_iload X124.here hx (hb hby at_137) rfl _ (pw_ifYes X124.here hx (pc' := 151) (hb hby at_139) ((if0 _ _).trans (teq (by decide)).1) (by decide) (by decide) _ k))) ?_
           exact J5 _ _ _ (2 : Int32) (0 : Int32) (1 : Int32) (0 : Int32) X124 e124 O_124 N124 V124 (Or.inr (Or.inr (Or.inr (Or.inr (Or.inl ⟨rfl, rfl, rfl, rfl, rfl, rfl⟩)))))
         · refine Goes.step (fun _ k => pw_iload X4.here hx (hb hby at_109) rfl _ (pw_ifNo X4.here hx (hb hby at_111) ((if0 _ _).trans (feq (by decide)).1) _ (pw_aload X4.here hx (hb hby at_114) rfl rfl _ (pw_iload X4.here hx (hb hby at_116) rfl _ (pw_iconst X4.here hx (v := (0 : Int32)) (hb hby at_118) rfl _ k))))) ?_
           obtain ⟨c125, Ar125, q125, Sz125, Nn125, Hs125, Gs125⟩ := id V_b4
           have hin125 : ¬ ((0 : Int32) < 0 ∨ c125.slots.size ≤ ((0 : Int32)).toNatClampNeg) := inb_of Sz125 ⟨by decide, by decide⟩
           obtain ⟨T125, h125, X125, e125, W125, st125⟩ := stI X4 hx hZ e4 Ar125 (j := (0 : Int32)) hin125 (g := (mkF m 119 #[.val (.long i0), .second, .val (.long i1), .second, .val (.long i2), .second, .val (.int i3), .val (.long i4), .second, .val (.int i5), .val (.long ct0), .second, .val (.long ct1), .second, .val (.long ct2), .second, .val (.int mb0), .val (.int mb1), .val (.int mb2), .val (.int 1), .val (.int 1), .val (.int 1), .val (.ref b4), .val (.int 0), .unset, .unset, .unset, .unset, .unset, .unset, .unset, .unset, .unset, .unset, .unset, .unset, .unset, .unset, .unset, .unset, .unset, .unset, .unset, .unset] [(.int 0), (.int 0), (.ref b4)])) rfl rfl (hb hby at_119)
           have V125 : Arv Z h125 b4 k4 .int (3 : Int32) [(.int 0), (.int 0), (.int 0)] (.int 0) := Arv.set Ar125 q125 Sz125 Nn125 Hs125 Gs125 rfl W125 0 rfl (Nat.le_of_ble_eq_true rfl)
           have N125 := Fr.snoc X125 N0 g_b4
           have O_125 := O_4.wr W125 g_b4
           refine Goes.step (B := T125.setTop (mkF m 120 #[.val (.long i0), .second, .val (.long i1), .second, .val (.long i2), .second, .val (.int i3), .val (.long i4), .second, .val (.int i5), .val (.long ct0), .second, .val (.long ct1), .second, .val (.long ct2), .second, .val (.int mb0), .val (.int mb1), .val (.int mb2), .val (.int 1), .val (.int 1), .val (.int 1), .val (.ref b4), .val (.int 0), .unset, .unset, .unset, .unset, .unset, .unset, .unset, .unset, .unset, .unset, .unset, .unset, .unset, .unset, .unset, .unset, .unset, .unset, .unset, .unset] [])) st125 ?_
           refine Goes.step (fun _ k => pw_iinc X125.here hx (l' := #[.val (.long i0), .second, .val (.long i1), .second, .val (.long i2), .second, .val (.int i3), .val (.long i4), .second, .val (.int i5), .val (.long ct0), .second, .val (.long ct1), .second, .val (.long ct2), .second, .val (.int mb0), .val (.int mb1), .val (.int mb2), .val (.int 1), .val (.int 1), .val (.int 1), .val (.ref b4), .val (.int 1), .unset, .unset, .unset, .unset, .unset, .unset, .unset, .unset, .unset, .unset, .unset, .unset, .unset, .unset, .unset, .unset, .unset, .unset, .unset, .unset]) (hb hby at_120) rfl rfl _ (pw_iload X125.here hx (hb hby at_123) rfl _ (pw_ifNo X125.here hx (hb hby at_125) ((if0 _ _).trans (feq (by decide)).1) _ (pw_aload X125.here hx (hb hby at_128) rfl rfl _ (pw_iload X125.here hx (hb hby at_130) rfl _ (pw_iconst X125.here hx (v := (1 : Int32)) (hb hby at_132) rfl _ k)))))) ?_
           obtain ⟨c126, Ar126, q126, Sz126, Nn126, Hs126, Gs126⟩ := id V125
           have hin126 : ¬ ((1 : Int32) < 0 ∨ c126.slots.size ≤ ((1 : Int32)).toNatClampNeg) := inb_of Sz126 ⟨by decide, by decide⟩
           obtain ⟨T126, h126, X126, e126, W126, st126⟩ := stI X125 hx hZ e125 Ar126 (j := (1 : Int32)) hin126 (g := (mkF m 133 #[.val (.long i0), .second, .val (.long i1), .second, .val (.long i2), .second, .val (.int i3), .val (.long i4), .second, .val (.int i5), .val (.long ct0), .second, .val (.long ct1), .second, .val (.long ct2), .second, .val (.int mb0), .val (.int mb1), .val (.int mb2), .val (.int 1), .val (.int 1), .val (.int 1), .val (.ref b4), .val (.int 1), .unset, .unset, .unset, .unset, .unset, .unset, .unset, .unset, .unset, .unset, .unset, .unset, .unset, .unset, .unset, .unset, .unset, .unset, .unset, .unset] [(.int 1), (.int 1), (.ref b4)])) rfl rfl (hb hby at_133)
           have V126 : Arv Z h126 b4 k4 .int (3 : Int32) [(.int 0), (.int 1), (.int 0)] (.int 0) := Arv.set Ar126 q126 Sz126 Nn126 Hs126 Gs126 rfl W126 1 rfl (Nat.le_of_ble_eq_true rfl)
           have N126 := Fr.snoc X126 N125 g_b4
           have O_126 := O_125.wr W126 g_b4
           refine Goes.step (B := T126.setTop (mkF m 134 #[.val (.long i0), .second, .val (.long i1), .second, .val (.long i2), .second, .val (.int i3), .val (.long i4), .second, .val (.int i5), .val (.long ct0), .second, .val (.long ct1), .second, .val (.long ct2), .second, .val (.int mb0), .val (.int mb1), .val (.int mb2), .val (.int 1), .val (.int 1), .val (.int 1), .val (.ref b4), .val (.int 1), .unset, .unset, .unset, .unset, .unset, .unset, .unset, .unset, .unset, .unset, .unset, .unset, .unset, .unset, .unset, .unset, .unset, .unset, .unset, .unset] [])) st126 ?_
           refine Goes.step (fun _ k => pw_iinc X126.here hx (l' := #[.val (.long i0), .second, .val (.long i1), .second, .val (.long i2), .second, .val (.int i3), .val (.long i4), .second, .val (.int i5), .val (.long ct0), .second, .val (.long ct1), .second, .val (.long ct2), .second, .val (.int mb0), .val (.int mb1), .val (.int mb2), .val (.int 1), .val (.int 1), .val (.int 1), .val (.ref b4), .val (.int 2), .unset, .unset, .unset, .unset, .unset, .unset, .unset, .unset, .unset, .unset, .unset, .unset, .unset, .unset, .unset, .unset, .unset, .unset, .unset, .unset]) (hb hby at_134) rfl rfl _ (pw_iload X126.here hx (hb hby at_137) rfl _ (pw_ifNo X126.here hx (hb hby at_139) ((if0 _ _).trans (feq (by decide)).1) _ (pw_aload X126.here hx (hb hby at_142) rfl rfl _ (pw_iload X126.here hx (hb hby at_144) rfl _ (pw_iconst X126.here hx (v := (2 : Int32)) (hb hby at_146) rfl _ k)))))) ?_
           obtain ⟨c127, Ar127, q127, Sz127, Nn127, Hs127, Gs127⟩ := id V126
           have hin127 : ¬ ((2 : Int32) < 0 ∨ c127.slots.size ≤ ((2 : Int32)).toNatClampNeg) := inb_of Sz127 ⟨by decide, by decide⟩
           obtain ⟨T127, h127, X127, e127, W127, st127⟩ := stI X126 hx hZ e126 Ar127 (j := (2 : Int32)) hin127 (g := (mkF m 147 #[.val (.long i0), .second, .val (.long i1), .second, .val (.long i2), .second, .val (.int i3), .val (.long i4), .second, .val (.int i5), .val (.long ct0), .second, .val (.long ct1), .second, .val (.long ct2), .second, .val (.int mb0), .val (.int mb1), .val (.int mb2), .val (.int 1), .val (.int 1), .val (.int 1), .val (.ref b4), .val (.int 2), .unset, .unset, .unset, .unset, .unset, .unset, .unset, .unset, .unset, .unset, .unset, .unset, .unset, .unset, .unset, .unset, .unset, .unset, .unset, .unset] [(.int 2), (.int 2), (.ref b4)])) rfl rfl (hb hby at_147)
           have V127 : Arv Z h127 b4 k4 .int (3 : Int32) [(.int 0), (.int 1), (.int 2)] (.int 0) := Arv.set Ar127 q127 Sz127 Nn127 Hs127 Gs127 rfl W127 2 rfl (Nat.le_of_ble_eq_true rfl)
           have N127 := Fr.snoc X127 N126 g_b4
           have O_127 := O_126.wr W127 g_b4
           refine Goes.step (B := T127.setTop (mkF m 148 #[.val (.long i0), .second, .val (.long i1), .second, .val (.long i2), .second, .val (.int i3), .val (.long i4), .second, .val (.int i5), .val (.long ct0), .second, .val (.long ct1), .second, .val (.long ct2), .second, .val (.int mb0), .val (.int mb1), .val (.int mb2), .val (.int 1), .val (.int 1), .val (.int 1), .val (.ref b4), .val (.int 2), .unset, .unset, .unset, .unset, .unset, .unset, .unset, .unset, .unset, .unset, .unset, .unset, .unset, .unset, .unset, .unset, .unset, .unset, .unset, .unset] [])) st127 ?_
           refine Goes.step (fun _ k => pw_iinc X127.here hx (l' := #[.val (.long i0), .second, .val (.long i1), .second, .val (.long i2), .second, .val (.int i3), .val (.long i4), .second, .val (.int i5), .val (.long ct0), .second, .val (.long ct1), .second, .val (.long ct2), .second, .val (.int mb0), .val (.int mb1), .val (.int mb2), .val (.int 1), .val (.int 1), .val (.int 1), .val (.ref b4), .val (.int 3), .unset, .unset, .unset, .unset, .unset, .unset, .unset, .unset, .unset, .unset, .unset, .unset, .unset, .unset, .unset, .unset, .unset, .unset, .unset, .unset]) (hb hby at_148) rfl rfl _ k) ?_
           exact J5 _ _ _ (3 : Int32) (0 : Int32) (1 : Int32) (2 : Int32) X127 e127 O_127 N127 V127 (Or.inr (Or.inr (Or.inr (Or.inr (Or.inr (Or.inr (Or.inr (⟨rfl, rfl, rfl, rfl, rfl, rfl, rfl⟩))))))))
    refine Goes.step (fun _ k => pw_iload X0.here hx (hb hby at_84) rfl _ (pw_bipush X0.here hx (v := (8 : Int32)) (hb hby at_86) rfl _ k)) ?_
    refine Goes.step (B := s₁.setTop (mkF m 89 #[.val (.long i0), .second, .val (.long i1), .second, .val (.long i2), .second, .val (.int i3), .val (.long i4), .second, .val (.int i5), .val (.long ct0), .second, .val (.long ct1), .second, .val (.long ct2), .second, .val (.int mb0), .val (.int mb1), .val (.int mb2), .val (.int p0), .val (.int p1), .unset, .unset, .unset, .unset, .unset, .unset, .unset, .unset, .unset, .unset, .unset, .unset, .unset, .unset, .unset, .unset, .unset, .unset, .unset, .unset, .unset, .unset, .unset] [(.int ((i3.toUInt32 >>> ((8 : Int32) &&& 31).toUInt32).toInt32))])) (fun _ k => XS.iushr X0.here hx rfl (hb hby at_88) rfl k) ?_
    refine Goes.step (fun _ k => pw_iconst X0.here hx (v := (1 : Int32)) (hb hby at_89) rfl _ (pw_iand X0.here hx (hb hby at_90) _ k)) ?_
    by_cases hc91_127 : (((i3.toUInt32 >>> ((8 : Int32) &&& 31).toUInt32).toInt32) &&& (1 : Int32)) = (0 : Int32)
    · refine Goes.step (fun _ k => pw_ifYes X0.here hx (pc' := 98) (hb hby at_91) ((if0 _ _).trans (teq hc91_127).1) (by decide) (by decide) _ (pw_iconst X0.here hx (v := (0 : Int32)) (hb hby at_98) rfl _ (pw_istore X0.here hx (l' := #[.val (.long i0), .second, .val (.long i1), .second, .val (.long i2), .second, .val (.int i3), .val (.long i4), .second, .val (.int i5), .val (.long ct0), .second, .val (.long ct1), .second, .val (.long ct2), .second, .val (.int mb0), .val (.int mb1), .val (.int mb2), .val (.int p0), .val (.int p1), .val (.int 0), .unset, .unset, .unset, .unset, .unset, .unset, .unset, .unset, .unset, .unset, .unset, .unset, .unset, .unset, .unset, .unset, .unset, .unset, .unset, .unset, .unset, .unset]) (hb hby at_99) rfl _ k))) ?_
      exact J3 (0 : Int32) (Or.inl rfl)
    · refine Goes.step (fun _ k => pw_ifNo X0.here hx (hb hby at_91) ((if0 _ _).trans (feq hc91_127).1) _ (pw_iconst X0.here hx (v := (1 : Int32)) (hb hby at_94) rfl _ (pw_goto X0.here hx (pc' := 99) (hb hby at_95) (by decide) (by decide) _ (pw_istore X0.here hx (l' := #[.val (.long i0), .second, .val (.long i1), .second, .val (.long i2), .second, .val (.int i3), .val (.long i4), .second, .val (.int i5), .val (.long ct0), .second, .val (.long ct1), .second, .val (.long ct2), .second, .val (.int mb0), .val (.int mb1), .val (.int mb2), .val (.int p0), .val (.int p1), .val (.int 1), .unset, .unset, .unset, .unset, .unset, .unset, .unset, .unset, .unset, .unset, .unset, .unset, .unset, .unset, .unset, .unset, .unset, .unset, .unset, .unset, .unset, .unset]) (hb hby at_99) rfl _ k)))) ?_
      exact J3 (1 : Int32) (Or.inr rfl)
   refine Goes.step (fun _ k => pw_iload X0.here hx (hb hby at_67) rfl _ (pw_bipush X0.here hx (v := (7 : Int32)) (hb hby at_69) rfl _ k)) ?_
   refine Goes.step (B := s₁.setTop (mkF m 72 #[.val (.long i0), .second, .val (.long i1), .second, .val (.long i2), .second, .val (.int i3), .val (.long i4), .second, .val (.int i5), .val (.long ct0), .second, .val (.long ct1), .second, .val (.long ct2), .second, .val (.int mb0), .val (.int mb1), .val (.int mb2), .val (.int p0), .unset, .unset, .unset, .unset, .unset, .unset, .unset, .unset, .unset, .unset, .unset, .unset, .unset, .unset, .unset, .unset, .unset, .unset, .unset, .unset, .unset, .unset, .unset, .unset] [(.int ((i3.toUInt32 >>> ((7 : Int32) &&& 31).toUInt32).toInt32))])) (fun _ k => XS.iushr X0.here hx rfl (hb hby at_71) rfl k) ?_
   refine Goes.step (fun _ k => pw_iconst X0.here hx (v := (1 : Int32)) (hb hby at_72) rfl _ (pw_iand X0.here hx (hb hby at_73) _ k)) ?_
   by_cases hc74_128 : (((i3.toUInt32 >>> ((7 : Int32) &&& 31).toUInt32).toInt32) &&& (1 : Int32)) = (0 : Int32)
   · refine Goes.step (fun _ k => pw_ifYes X0.here hx (pc' := 81) (hb hby at_74) ((if0 _ _).trans (teq hc74_128).1) (by decide) (by decide) _ (pw_iconst X0.here hx (v := (0 : Int32)) (hb hby at_81) rfl _ (pw_istore X0.here hx (l' := #[.val (.long i0), .second, .val (.long i1), .second, .val (.long i2), .second, .val (.int i3), .val (.long i4), .second, .val (.int i5), .val (.long ct0), .second, .val (.long ct1), .second, .val (.long ct2), .second, .val (.int mb0), .val (.int mb1), .val (.int mb2), .val (.int p0), .val (.int 0), .unset, .unset, .unset, .unset, .unset, .unset, .unset, .unset, .unset, .unset, .unset, .unset, .unset, .unset, .unset, .unset, .unset, .unset, .unset, .unset, .unset, .unset, .unset]) (hb hby at_82) rfl _ k))) ?_
     exact J2 (0 : Int32) (Or.inl rfl)
   · refine Goes.step (fun _ k => pw_ifNo X0.here hx (hb hby at_74) ((if0 _ _).trans (feq hc74_128).1) _ (pw_iconst X0.here hx (v := (1 : Int32)) (hb hby at_77) rfl _ (pw_goto X0.here hx (pc' := 82) (hb hby at_78) (by decide) (by decide) _ (pw_istore X0.here hx (l' := #[.val (.long i0), .second, .val (.long i1), .second, .val (.long i2), .second, .val (.int i3), .val (.long i4), .second, .val (.int i5), .val (.long ct0), .second, .val (.long ct1), .second, .val (.long ct2), .second, .val (.int mb0), .val (.int mb1), .val (.int mb2), .val (.int p0), .val (.int 1), .unset, .unset, .unset, .unset, .unset, .unset, .unset, .unset, .unset, .unset, .unset, .unset, .unset, .unset, .unset, .unset, .unset, .unset, .unset, .unset, .unset, .unset, .unset]) (hb hby at_82) rfl _ k)))) ?_
     exact J2 (1 : Int32) (Or.inr rfl)
  refine Goes.step (fun _ k => pw_iload X0.here hx (hb hby at_50) rfl _ (pw_bipush X0.here hx (v := (6 : Int32)) (hb hby at_52) rfl _ k)) ?_
  refine Goes.step (B := s₁.setTop (mkF m 55 #[.val (.long i0), .second, .val (.long i1), .second, .val (.long i2), .second, .val (.int i3), .val (.long i4), .second, .val (.int i5), .val (.long ct0), .second, .val (.long ct1), .second, .val (.long ct2), .second, .val (.int mb0), .val (.int mb1), .val (.int mb2), .unset, .unset, .unset, .unset, .unset, .unset, .unset, .unset, .unset, .unset, .unset, .unset, .unset, .unset, .unset, .unset, .unset, .unset, .unset, .unset, .unset, .unset, .unset, .unset, .unset] [(.int ((i3.toUInt32 >>> ((6 : Int32) &&& 31).toUInt32).toInt32))])) (fun _ k => XS.iushr X0.here hx rfl (hb hby at_54) rfl k) ?_
  refine Goes.step (fun _ k => pw_iconst X0.here hx (v := (1 : Int32)) (hb hby at_55) rfl _ (pw_iand X0.here hx (hb hby at_56) _ k)) ?_
  by_cases hc57_129 : (((i3.toUInt32 >>> ((6 : Int32) &&& 31).toUInt32).toInt32) &&& (1 : Int32)) = (0 : Int32)
  · refine Goes.step (fun _ k => pw_ifYes X0.here hx (pc' := 64) (hb hby at_57) ((if0 _ _).trans (teq hc57_129).1) (by decide) (by decide) _ (pw_iconst X0.here hx (v := (0 : Int32)) (hb hby at_64) rfl _ (pw_istore X0.here hx (l' := #[.val (.long i0), .second, .val (.long i1), .second, .val (.long i2), .second, .val (.int i3), .val (.long i4), .second, .val (.int i5), .val (.long ct0), .second, .val (.long ct1), .second, .val (.long ct2), .second, .val (.int mb0), .val (.int mb1), .val (.int mb2), .val (.int 0), .unset, .unset, .unset, .unset, .unset, .unset, .unset, .unset, .unset, .unset, .unset, .unset, .unset, .unset, .unset, .unset, .unset, .unset, .unset, .unset, .unset, .unset, .unset, .unset]) (hb hby at_65) rfl _ k))) ?_
    exact J1 (0 : Int32) (Or.inl rfl)
  · refine Goes.step (fun _ k => pw_ifNo X0.here hx (hb hby at_57) ((if0 _ _).trans (feq hc57_129).1) _ (pw_iconst X0.here hx (v := (1 : Int32)) (hb hby at_60) rfl _ (pw_goto X0.here hx (pc' := 65) (hb hby at_61) (by decide) (by decide) _ (pw_istore X0.here hx (l' := #[.val (.long i0), .second, .val (.long i1), .second, .val (.long i2), .second, .val (.int i3), .val (.long i4), .second, .val (.int i5), .val (.long ct0), .second, .val (.long ct1), .second, .val (.long ct2), .second, .val (.int mb0), .val (.int mb1), .val (.int mb2), .val (.int 1), .unset, .unset, .unset, .unset, .unset, .unset, .unset, .unset, .unset, .unset, .unset, .unset, .unset, .unset, .unset, .unset, .unset, .unset, .unset, .unset, .unset, .unset, .unset, .unset]) (hb hby at_65) rfl _ k)))) ?_
    exact J1 (1 : Int32) (Or.inr rfl)
set_option maxRecDepth 65536 in
set_option maxHeartbeats 40000000 in
theorem comes_1 {Post : Tables → Env → Array Value → State → Outcome → State → Prop} (hpost : ∀ tb e args s v u, (limb_1_1.after args s (.returned v) u = true ∧ limb_1_2.after args s (.returned v) u = true ∧ True) → FrameEnd s (.returned v) u (Jvm.fieldLocs frame_1_writes args s ++ Jvm.arrayLocs frame_1_arrays args s ++ Jvm.staticLocs frame_1_statics s) 40 320 → Post tb e args s (.returned v) u) :
    ArmFor flags0 classFile x code maxLocals ret World_1 tables_1 room_1 Calls_1 rest_1 Pre_1 Post := by
  intro l hfl _ _ p e ha hc hk s m args below hf hA hF happ hP
  obtain ⟨hcalls, hrest, hpre⟩ := hP
  obtain ⟨-, -, -, hnamed, -, -, -, hat⟩ := (Spec.applies_iff hf).mp happ
  obtain ⟨hg, hn⟩ := and_e (Cond.before_iff.mp (show (Jvm.Cond.and given_1 narrow_1).before args s = true from hpre))
  obtain ⟨hcount, hg⟩ := and_e hg
  obtain ⟨w0, w1, w2, w3, w4, w5, rfl⟩ : ∃ w0 w1 w2 w3 w4 w5 : Value, args = #[w0, w1, w2, w3, w4, w5] := by
    have hs : args.size = 6 := by simpa [Cond.value, given_1] using hcount
    obtain ⟨L⟩ := args
    match L, hs with
    | [w0, w1, w2, w3, w4, w5], _ => exact ⟨w0, w1, w2, w3, w4, w5, rfl⟩
  have hw := fun d (hd : d ∈ tables_1) => atoms_spec (ws := Jvm.Cond.code x code maxLocals ret :: tables_1) hat d (List.mem_cons_of_mem _ hd)
  have hfit : Fit s := fun {y c} hc i hi => by
    obtain ⟨ha, rfl⟩ := Array.getElem?_eq_some_iff.mp hc
    have q := List.all_eq_true.mp ((Array.all_eq_true_iff_forall_mem.mp hF) _ (Array.getElem_mem ha)) i (List.mem_range.mpr hi)
    simpa [Array.getElem?_eq_getElem hi] using q
  obtain ⟨hi0, hg0⟩ := and_e hg
  obtain ⟨i0, ei0⟩ := isL_v hi0
  obtain rfl : w0 = (.long i0) := Option.some.inj ei0
  obtain ⟨hi1, hg1⟩ := and_e hg0
  obtain ⟨i1, ei1⟩ := isL_v hi1
  obtain rfl : w1 = (.long i1) := Option.some.inj ei1
  obtain ⟨hi2, hg2⟩ := and_e hg1
  obtain ⟨i2, ei2⟩ := isL_v hi2
  obtain rfl : w2 = (.long i2) := Option.some.inj ei2
  obtain ⟨hi3, hg3⟩ := and_e hg2
  obtain ⟨i3, ei3⟩ := is_v hi3
  obtain rfl : w3 = (.int i3) := Option.some.inj ei3
  obtain ⟨hi4, hg4⟩ := and_e hg3
  obtain ⟨i4, ei4⟩ := isL_v hi4
  obtain rfl : w4 = (.long i4) := Option.some.inj ei4
  obtain ⟨i5, ei5⟩ := is_v hg4
  obtain rfl : w5 = (.int i5) := Option.some.inj ei5
  obtain ⟨n, o, h1, h2, h3, _, L, rfl, ⟨rfl, N⟩, hq⟩ := rm0 l s _ hw tables_1 i0 i1 i2 i3 i4 i5 s.heap s.heap.size (Old.start s)  p e ha hc hk s m _ below hf ((Spec.applies_iff_loose hf).mp happ).1 ⟨rfl, State.Warmed39.refl s, rfl⟩ trivial
  refine ⟨n, _, h1, h2, h3, hpost _ _ _ _ _ _ ⟨Cond.after_iff.mpr rfl, Cond.after_iff.mpr (eq_i res_at (Term.int_eval (1)) rfl), trivial⟩ ⟨hq.1, hq.2.1, (hq.2.2.sift fun y hy => Or.inr (N y hy)).mono (by decide) (by decide)⟩⟩
theorem main_1_1 : Claimed_1_1 := comes_1 fun _ _ _ _ _ _ h hF => ⟨h.1, hF⟩
theorem main_1_2 : Claimed_1_2 := comes_1 fun _ _ _ _ _ _ h hF => ⟨h.2.1, hF⟩
end Jvm.Pilot.@@N@@
namespace Jvm.Pilot.@@N@@
open Jvm Jvm.ClassFile Sem Op Lib Jvm.Free Jvm.Stand Jvm.Pilot.@@N@@.Jvm.D
/-! MADE BY PROGRAM (witnessworld.py) out of the Statement's table words and the real class files: 16 classes; the members and pool entries that the words name. The judged class is class 1, her method 1. -/
namespace start1
open Jvm.ClassFile
def u (s : String) : CpInfo := .utf8 (stringToUtf16 s)
/-- a pool by its gaps: so many unusable entries, then the entry; so many at the end -/
def gap : Nat → List CpInfo → List CpInfo
  | 0, r => r
  | n + 1, r => .unusable :: gap n r
def poolList (es : List (Nat × CpInfo)) (last : Nat) : List CpInfo := es.foldr (fun e r => gap e.1 (e.2 :: r)) (gap last [])
def pool (es : List (Nat × CpInfo)) (last : Nat) : Array CpInfo := ⟨poolList es last⟩
def fileOf (pool : Array CpInfo) (this : Nat) (attrs : Array Attribute := #[]) (ms : Array MethodInfo := #[]) (fl : Nat := 33) (sup : Nat := 0) (ifs : Array Nat := #[]) (fds : Array FieldInfo := #[]) : ClassFile where
  minorVersion := 0
  majorVersion := 65
  constantPool := pool
  accessFlags := fl
  thisClass := this
  superClass := sup
  interfaces := ifs
  fields := fds
  methods := ms
  attributes := attrs
def plain (name : String) (sup : Option ClassId) : Class where
  name := name
  kind := .ordinary
  loader := none
  accessFlags := 33
  super := sup
  interfaces := #[]
  cf := none
  fields := #[]
  methods := #[]
  instanceTypes := #[]
  staticTypes := #[]
  resolved := #[]
  callSites := []
  init := .initialized
  statics := none
  mirror := none

def pool0 : Array CpInfo := pool [(5, u "<init>"), (0, u "()V"), (1, .class_ 10), (1, u "java/lang/Object")] 113

def k0c0 : Code := { maxStack := 0, maxLocals := 1, code := object_method_1_code, exceptionTable := #[], attributes := #[] }
def k0m0 : Method := { name := "<init>", desc := "()V", sig := { parameters := [], returnType := none }, accessFlags := 1, code := some k0c0 }
/-- java/lang/Object -/
def k0 : Class := { plain "java/lang/Object" none with
  accessFlags := 33
  interfaces := #[]
  cf := some (fileOf pool0 8 #[] #[{ accessFlags := 1, nameIndex := 5, descriptorIndex := 6, attributes := #[] }] 33 0 #[] #[])
  fields := #[]
  methods := #[k0m0]
  instanceTypes := #[]
  staticTypes := #[]
  resolved := Array.replicate 124 none
  statics := none }

def pool1 : Array CpInfo := pool [(2, .class_ 4), (1, u "java/lang/Object"), (0, u "<init>"), (0, u "()V"), (0, .long 1099511627775), (1, .methodref 10 11), (0, .class_ 12), (0, .nameAndType 13 14), (0, u "java/lang/Math"), (0, u "max"), (0, u "(JJ)J"), (0, .long 4398046511103), (1, .methodref 18 19), (0, .class_ 20), (0, .nameAndType 21 22), (0, u "com/example/errantry/errantry/staff/CompletionBoundsCheapestPinLaw"), (0, u "position"), (0, u "(JIJIJI)I"), (0, .class_ 24), (0, u "com/example/errantry/errantry/staff/CompletionBounds"), (0, .methodref 23 26), (0, .nameAndType 5 27), (0, u "([D[J[I[I)V"), (0, .methodref 23 29), (0, .nameAndType 30 31), (0, u "reset"), (0, u "([IIJ)V"), (0, .methodref 23 33), (0, .nameAndType 34 35), (0, u "most"), (0, u "()I"), (0, .integer 2147483647), (0, .methodref 23 38), (0, .nameAndType 39 40), (0, u "cheapest"), (0, u "(I)J"), (0, .methodref 18 42), (0, .nameAndType 43 44), (0, u "ahead"), (0, u "(JIJIIJII)I"), (0, .methodref 18 46), (0, .nameAndType 47 48), (0, u "taken"), (0, u "(III)J"), (0, .methodref 18 50), (0, .nameAndType 51 52), (0, u "precedes"), (0, u "(JIJI)Z"), (0, .methodref 10 54), (0, .nameAndType 13 55), (0, u "(II)I"), (0, .methodref 10 57), (0, .nameAndType 58 55), (0, u "min"), (2, u "law"), (0, u "(JJJIJI)Z")] 7

def k1m0 : Method := { name := "<init>", desc := "()V", sig := { parameters := [], returnType := none }, accessFlags := 1, code := none }
def k1c1 : Code := { maxStack := 11, maxLocals := 44, code := code, exceptionTable := #[], attributes := #[] }
def k1m1 : Method := { name := "law", desc := "(JJJIJI)Z", sig := { parameters := [.long, .long, .long, .int, .long, .int], returnType := some .boolean }, accessFlags := 9, code := some k1c1 }
def k1c2 : Code := { maxStack := 4, maxLocals := 6, code := method_3_code, exceptionTable := #[], attributes := #[] }
def k1m2 : Method := { name := "precedes", desc := "(JIJI)Z", sig := { parameters := [.long, .int, .long, .int], returnType := some .boolean }, accessFlags := 10, code := some k1c2 }
def k1c3 : Code := { maxStack := 6, maxLocals := 10, code := method_4_code, exceptionTable := #[], attributes := #[] }
def k1m3 : Method := { name := "position", desc := "(JIJIJI)I", sig := { parameters := [.long, .int, .long, .int, .long, .int], returnType := some .int }, accessFlags := 10, code := some k1c3 }
def k1c4 : Code := { maxStack := 6, maxLocals := 12, code := method_5_code, exceptionTable := #[], attributes := #[] }
def k1m4 : Method := { name := "ahead", desc := "(JIJIIJII)I", sig := { parameters := [.long, .int, .long, .int, .int, .long, .int, .int], returnType := some .int }, accessFlags := 10, code := some k1c4 }
def k1c5 : Code := { maxStack := 4, maxLocals := 3, code := method_6_code, exceptionTable := #[], attributes := #[] }
def k1m5 : Method := { name := "taken", desc := "(III)J", sig := { parameters := [.int, .int, .int], returnType := some .long }, accessFlags := 10, code := some k1c5 }
/-- com/example/errantry/errantry/staff/CompletionBoundsCheapestPinLaw -/
def k1 : Class := { plain "com/example/errantry/errantry/staff/CompletionBoundsCheapestPinLaw" (some 0) with
  accessFlags := 49
  interfaces := #[]
  cf := some (fileOf pool1 18 #[] #[{ accessFlags := 1, nameIndex := 5, descriptorIndex := 6, attributes := #[] }, { accessFlags := 9, nameIndex := 61, descriptorIndex := 62, attributes := #[] }, { accessFlags := 10, nameIndex := 51, descriptorIndex := 52, attributes := #[] }, { accessFlags := 10, nameIndex := 21, descriptorIndex := 22, attributes := #[] }, { accessFlags := 10, nameIndex := 43, descriptorIndex := 44, attributes := #[] }, { accessFlags := 10, nameIndex := 47, descriptorIndex := 48, attributes := #[] }] 49 2 #[] #[])
  fields := #[]
  methods := #[k1m0, k1m1, k1m2, k1m3, k1m4, k1m5]
  instanceTypes := #[]
  staticTypes := #[]
  resolved := Array.replicate 70 none
  statics := none }

def pool2 : Array CpInfo := pool [(3, .methodref 4 5), (0, .class_ 6), (0, .nameAndType 7 8), (0, u "java/lang/Object"), (0, u "<init>"), (0, u "()V"), (0, .fieldref 10 11), (0, .class_ 12), (0, .nameAndType 13 14), (0, u "com/example/errantry/errantry/staff/CompletionBounds"), (0, u "reliability"), (0, u "[D"), (0, .fieldref 10 16), (0, .nameAndType 17 18), (0, u "cost"), (0, u "[J"), (0, .fieldref 10 20), (0, .nameAndType 21 22), (0, u "members"), (0, u "[I"), (0, .fieldref 10 24), (0, .nameAndType 25 22), (0, u "byCost"), (0, .fieldref 10 27), (0, .nameAndType 28 29), (0, u "pooled"), (0, u "[Z"), (0, .fieldref 10 31), (0, .nameAndType 32 22), (0, u "pool"), (0, .class_ 18), (0, .fieldref 10 35), (0, .nameAndType 36 37), (0, u "cheapest"), (0, u "[[J"), (0, .class_ 14), (0, .fieldref 10 40), (0, .nameAndType 41 42), (0, u "places"), (0, u "[[D"), (0, .fieldref 10 44), (0, .nameAndType 45 22), (0, u "firstFitting"), (0, .methodref 47 48), (0, .class_ 49), (0, .nameAndType 50 51), (0, u "java/lang/System"), (0, u "arraycopy"), (0, u "(Ljava/lang/Object;ILjava/lang/Object;II)V"), (0, .fieldref 10 53), (0, .nameAndType 54 55), (0, u "poolSize"), (0, u "I"), (0, .fieldref 10 57), (0, .nameAndType 58 59), (0, u "room"), (0, u "J"), (0, .methodref 10 61), (0, .nameAndType 62 63), (0, u "mostFitting"), (0, u "(IJ)I"), (0, .fieldref 10 65), (0, .nameAndType 66 55), (0, u "most"), (0, .methodref 10 68), (0, .nameAndType 69 70), (0, u "row"), (0, u "([JI)[J"), (0, .long 9223372036854775807), (1, .methodref 10 74), (0, .nameAndType 75 76), (0, u "addGroup"), (0, u "([J[JII)V"), (0, .fieldref 10 78), (0, .nameAndType 79 55), (0, u "rowsFilled"), (0, .methodref 81 82), (0, .class_ 83), (0, .nameAndType 84 85), (0, u "java/util/Arrays"), (0, u "fill"), (0, u "([II)V"), (0, .methodref 87 88), (0, .class_ 89), (0, .nameAndType 90 91), (0, u "java/lang/Math"), (0, u "min"), (0, u "(JJ)J"), (34, u "(I)J"), (0, u "NOT_ENOUGH"), (1, u "([D[J[I[I)V"), (4, u "reset"), (0, u "([IIJ)V"), (0, u "()I")] 2

def k2c0 : Code := { maxStack := 3, maxLocals := 10, code := prog_38_method_1_code, exceptionTable := #[], attributes := #[] }
def k2m0 : Method := { name := "<init>", desc := "([D[J[I[I)V", sig := { parameters := [(.array .double), (.array .long), (.array .int), (.array .int)], returnType := none }, accessFlags := 0, code := some k2c0 }
def k2c1 : Code := { maxStack := 6, maxLocals := 6, code := prog_38_method_2_code, exceptionTable := #[], attributes := #[] }
def k2m1 : Method := { name := "reset", desc := "([IIJ)V", sig := { parameters := [(.array .int), .int, .long], returnType := none }, accessFlags := 0, code := some k2c1 }
def k2c2 : Code := { maxStack := 6, maxLocals := 11, code := prog_38_method_3_code, exceptionTable := #[], attributes := #[] }
def k2m2 : Method := { name := "mostFitting", desc := "(IJ)I", sig := { parameters := [.int, .long], returnType := some .int }, accessFlags := 2, code := some k2c2 }
def k2c3 : Code := { maxStack := 2, maxLocals := 2, code := prog_38_method_4_code, exceptionTable := #[], attributes := #[] }
def k2m3 : Method := { name := "row", desc := "([JI)[J", sig := { parameters := [(.array .long), .int], returnType := some (.array .long) }, accessFlags := 10, code := some k2c3 }
def k2c4 : Code := { maxStack := 6, maxLocals := 12, code := prog_38_method_5_code, exceptionTable := #[], attributes := #[] }
def k2m4 : Method := { name := "addGroup", desc := "([J[JII)V", sig := { parameters := [(.array .long), (.array .long), .int, .int], returnType := none }, accessFlags := 2, code := some k2c4 }
def k2c5 : Code := { maxStack := 1, maxLocals := 1, code := prog_38_method_6_code, exceptionTable := #[], attributes := #[] }
def k2m5 : Method := { name := "most", desc := "()I", sig := { parameters := [], returnType := some .int }, accessFlags := 0, code := some k2c5 }
def k2c6 : Code := { maxStack := 2, maxLocals := 2, code := prog_38_method_7_code, exceptionTable := #[], attributes := #[] }
def k2m6 : Method := { name := "cheapest", desc := "(I)J", sig := { parameters := [.int], returnType := some .long }, accessFlags := 0, code := some k2c6 }
/-- com/example/errantry/errantry/staff/CompletionBounds -/
def k2 : Class := { plain "com/example/errantry/errantry/staff/CompletionBounds" (some 0) with
  accessFlags := 48
  interfaces := #[]
  cf := some (fileOf pool2 10 #[] #[{ accessFlags := 0, nameIndex := 7, descriptorIndex := 129, attributes := #[] }, { accessFlags := 0, nameIndex := 134, descriptorIndex := 135, attributes := #[] }, { accessFlags := 2, nameIndex := 62, descriptorIndex := 63, attributes := #[] }, { accessFlags := 10, nameIndex := 69, descriptorIndex := 70, attributes := #[] }, { accessFlags := 2, nameIndex := 75, descriptorIndex := 76, attributes := #[] }, { accessFlags := 0, nameIndex := 66, descriptorIndex := 136, attributes := #[] }, { accessFlags := 0, nameIndex := 36, descriptorIndex := 126, attributes := #[] }] 48 4 #[] #[{ accessFlags := 26, nameIndex := 127, descriptorIndex := 59, attributes := #[] }, { accessFlags := 18, nameIndex := 13, descriptorIndex := 14, attributes := #[] }, { accessFlags := 18, nameIndex := 17, descriptorIndex := 18, attributes := #[] }, { accessFlags := 18, nameIndex := 21, descriptorIndex := 22, attributes := #[] }, { accessFlags := 18, nameIndex := 25, descriptorIndex := 22, attributes := #[] }, { accessFlags := 18, nameIndex := 28, descriptorIndex := 29, attributes := #[] }, { accessFlags := 18, nameIndex := 32, descriptorIndex := 22, attributes := #[] }, { accessFlags := 2, nameIndex := 54, descriptorIndex := 55, attributes := #[] }, { accessFlags := 2, nameIndex := 58, descriptorIndex := 59, attributes := #[] }, { accessFlags := 2, nameIndex := 66, descriptorIndex := 55, attributes := #[] }, { accessFlags := 18, nameIndex := 36, descriptorIndex := 37, attributes := #[] }, { accessFlags := 18, nameIndex := 41, descriptorIndex := 42, attributes := #[] }, { accessFlags := 2, nameIndex := 79, descriptorIndex := 55, attributes := #[] }, { accessFlags := 18, nameIndex := 45, descriptorIndex := 22, attributes := #[] }])
  fields := #[{ name := "NOT_ENOUGH", type := .long, accessFlags := 26, slot := 0, constantValue := 0 }, { name := "reliability", type := (.array .double), accessFlags := 18, slot := 0, constantValue := 0 }, { name := "cost", type := (.array .long), accessFlags := 18, slot := 1, constantValue := 0 }, { name := "members", type := (.array .int), accessFlags := 18, slot := 2, constantValue := 0 }, { name := "byCost", type := (.array .int), accessFlags := 18, slot := 3, constantValue := 0 }, { name := "pooled", type := (.array .boolean), accessFlags := 18, slot := 4, constantValue := 0 }, { name := "pool", type := (.array .int), accessFlags := 18, slot := 5, constantValue := 0 }, { name := "poolSize", type := .int, accessFlags := 2, slot := 6, constantValue := 0 }, { name := "room", type := .long, accessFlags := 2, slot := 7, constantValue := 0 }, { name := "most", type := .int, accessFlags := 2, slot := 8, constantValue := 0 }, { name := "cheapest", type := (.array (.array .long)), accessFlags := 18, slot := 9, constantValue := 0 }, { name := "places", type := (.array (.array .double)), accessFlags := 18, slot := 10, constantValue := 0 }, { name := "rowsFilled", type := .int, accessFlags := 2, slot := 11, constantValue := 0 }, { name := "firstFitting", type := (.array .int), accessFlags := 18, slot := 12, constantValue := 0 }]
  methods := #[k2m0, k2m1, k2m2, k2m3, k2m4, k2m5, k2m6]
  instanceTypes := #[(.array .double), (.array .long), (.array .int), (.array .int), (.array .boolean), (.array .int), .int, .long, .int, (.array (.array .long)), (.array (.array .double)), .int, (.array .int)]
  staticTypes := #[.long]
  resolved := Array.replicate 139 none
  statics := none }

def pool3 : Array CpInfo := pool [(2, .class_ 4), (1, u "java/lang/Object"), (0, u "<init>"), (0, u "()V"), (1, .class_ 10), (1, u "java/lang/System"), (0, u "allowSecurityManager"), (0, u "I"), (16, u "cons"), (0, u "Ljava/io/Console;"), (77, .class_ 110), (1, u "java/lang/System$CallersHolder"), (43, u "initialErrStream"), (0, u "Ljava/io/PrintStream;"), (19, u "security"), (0, u "Ljava/lang/SecurityManager;"), (31, .class_ 209), (0, u "java/lang/System$1"), (7, u "props"), (0, u "Ljava/util/Properties;"), (2, u "lineSeparator"), (0, u "Ljava/lang/String;"), (96, .class_ 321), (1, u "java/lang/System$LoggerFinder"), (5, .class_ 328), (0, u "java/lang/System$Logger"), (67, u "err"), (2, u "out"), (91, u "notSupportedJnuEncoding"), (15, u "in"), (17, u "initialIn"), (0, u "Ljava/io/InputStream;"), (35, u "bootLayer"), (0, u "Ljava/lang/ModuleLayer;"), (99, .class_ 664), (0, u "java/lang/System$2"), (9, u "NEVER"), (2, u "MAYBE"), (49, u "arraycopy"), (0, u "(Ljava/lang/Object;ILjava/lang/Object;II)V"), (72, .class_ 802), (0, u "java/lang/System$Logger$Level")] 31

def k3m0 : Method := { name := "<init>", desc := "()V", sig := { parameters := [], returnType := none }, accessFlags := 2, code := none }
def k3m1 : Method := { name := "arraycopy", desc := "(Ljava/lang/Object;ILjava/lang/Object;II)V", sig := { parameters := [(.object "java/lang/Object"), .int, (.object "java/lang/Object"), .int, .int], returnType := none }, accessFlags := 265, code := none }
/-- java/lang/System -/
def k3 : Class := { plain "java/lang/System" (some 0) with
  accessFlags := 49
  interfaces := #[]
  cf := some (fileOf pool3 8 #[.nestMembers #[319, 327, 801, 108, 663, 208]] #[{ accessFlags := 2, nameIndex := 5, descriptorIndex := 6, attributes := #[] }, { accessFlags := 265, nameIndex := 727, descriptorIndex := 728, attributes := #[] }] 49 2 #[] #[{ accessFlags := 25, nameIndex := 507, descriptorIndex := 526, attributes := #[] }, { accessFlags := 25, nameIndex := 399, descriptorIndex := 155, attributes := #[] }, { accessFlags := 25, nameIndex := 396, descriptorIndex := 155, attributes := #[] }, { accessFlags := 10, nameIndex := 525, descriptorIndex := 526, attributes := #[] }, { accessFlags := 26, nameIndex := 674, descriptorIndex := 12, attributes := #[] }, { accessFlags := 26, nameIndex := 677, descriptorIndex := 12, attributes := #[] }, { accessFlags := 10, nameIndex := 11, descriptorIndex := 12, attributes := #[] }, { accessFlags := 74, nameIndex := 175, descriptorIndex := 176, attributes := #[] }, { accessFlags := 10, nameIndex := 491, descriptorIndex := 222, attributes := #[] }, { accessFlags := 74, nameIndex := 29, descriptorIndex := 30, attributes := #[] }, { accessFlags := 74, nameIndex := 154, descriptorIndex := 155, attributes := #[] }, { accessFlags := 10, nameIndex := 217, descriptorIndex := 218, attributes := #[] }, { accessFlags := 10, nameIndex := 221, descriptorIndex := 222, attributes := #[] }, { accessFlags := 8, nameIndex := 562, descriptorIndex := 563, attributes := #[] }])
  fields := #[{ name := "in", type := (.object "java/io/InputStream"), accessFlags := 25, slot := 0, constantValue := 0 }, { name := "out", type := (.object "java/io/PrintStream"), accessFlags := 25, slot := 1, constantValue := 0 }, { name := "err", type := (.object "java/io/PrintStream"), accessFlags := 25, slot := 2, constantValue := 0 }, { name := "initialIn", type := (.object "java/io/InputStream"), accessFlags := 10, slot := 3, constantValue := 0 }, { name := "NEVER", type := .int, accessFlags := 26, slot := 4, constantValue := 0 }, { name := "MAYBE", type := .int, accessFlags := 26, slot := 5, constantValue := 0 }, { name := "allowSecurityManager", type := .int, accessFlags := 10, slot := 6, constantValue := 0 }, { name := "security", type := (.object "java/lang/SecurityManager"), accessFlags := 74, slot := 7, constantValue := 0 }, { name := "notSupportedJnuEncoding", type := (.object "java/lang/String"), accessFlags := 10, slot := 8, constantValue := 0 }, { name := "cons", type := (.object "java/io/Console"), accessFlags := 74, slot := 9, constantValue := 0 }, { name := "initialErrStream", type := (.object "java/io/PrintStream"), accessFlags := 74, slot := 10, constantValue := 0 }, { name := "props", type := (.object "java/util/Properties"), accessFlags := 10, slot := 11, constantValue := 0 }, { name := "lineSeparator", type := (.object "java/lang/String"), accessFlags := 10, slot := 12, constantValue := 0 }, { name := "bootLayer", type := (.object "java/lang/ModuleLayer"), accessFlags := 8, slot := 13, constantValue := 0 }]
  methods := #[k3m0, k3m1]
  instanceTypes := #[]
  staticTypes := #[(.object "java/io/InputStream"), (.object "java/io/PrintStream"), (.object "java/io/PrintStream"), (.object "java/io/InputStream"), .int, .int, .int, (.object "java/lang/SecurityManager"), (.object "java/lang/String"), (.object "java/io/Console"), (.object "java/io/PrintStream"), (.object "java/util/Properties"), (.object "java/lang/String"), (.object "java/lang/ModuleLayer")]
  resolved := Array.replicate 834 none
  statics := none }

def pool4 : Array CpInfo := pool [(2, .class_ 4), (1, u "java/lang/Object"), (0, u "<init>"), (0, u "()V"), (7, .class_ 16), (1, u "java/util/Arrays"), (57, .class_ 76), (1, u "java/util/Arrays$NaturalOrder"), (36, .class_ 115), (1, u "java/util/Arrays$LegacyMergeSort"), (1, u "Z"), (257, .class_ 376), (0, u "java/util/Arrays$ArrayList"), (68, u "$assertionsDisabled"), (269, u "MIN_ARRAY_SORT_GRAN"), (0, u "I"), (2, u "INSERTIONSORT_THRESHOLD"), (120, u "fill"), (4, u "([II)V"), (129, .class_ 976), (0, u "java/util/Arrays$ArrayItr")] 52

def k4m0 : Method := { name := "<init>", desc := "()V", sig := { parameters := [], returnType := none }, accessFlags := 2, code := none }
def k4c1 : Code := { maxStack := 3, maxLocals := 4, code := jdk_65_method_103_code, exceptionTable := #[], attributes := #[] }
def k4m1 : Method := { name := "fill", desc := "([II)V", sig := { parameters := [(.array .int), .int], returnType := none }, accessFlags := 9, code := some k4c1 }
/-- java/util/Arrays -/
def k4 : Class := { plain "java/util/Arrays" (some 0) with
  accessFlags := 49
  interfaces := #[]
  cf := some (fileOf pool4 14 #[.nestMembers #[975, 375, 113, 74]] #[{ accessFlags := 2, nameIndex := 5, descriptorIndex := 6, attributes := #[] }, { accessFlags := 9, nameIndex := 840, descriptorIndex := 845, attributes := #[] }] 49 2 #[] #[{ accessFlags := 26, nameIndex := 715, descriptorIndex := 716, attributes := #[] }, { accessFlags := 26, nameIndex := 719, descriptorIndex := 716, attributes := #[] }, { accessFlags := 4120, nameIndex := 445, descriptorIndex := 117, attributes := #[] }])
  fields := #[{ name := "MIN_ARRAY_SORT_GRAN", type := .int, accessFlags := 26, slot := 0, constantValue := 0 }, { name := "INSERTIONSORT_THRESHOLD", type := .int, accessFlags := 26, slot := 1, constantValue := 0 }, { name := "$assertionsDisabled", type := .boolean, accessFlags := 4120, slot := 2, constantValue := 0 }]
  methods := #[k4m0, k4m1]
  instanceTypes := #[]
  staticTypes := #[.int, .int, .boolean]
  resolved := Array.replicate 1029 none
  statics := none }

def pool5 : Array CpInfo := pool [(1, .class_ 2), (0, u "java/lang/Math"), (1, .class_ 6), (1, u "java/lang/Object"), (0, u "<init>"), (0, u "()V"), (89, .class_ 100), (1, u "java/lang/Math$RandomNumberGeneratorHolder"), (20, u "(JJ)J"), (50, u "negativeZeroFloatBits"), (0, u "J"), (2, u "negativeZeroDoubleBits"), (21, u "max"), (2, u "min"), (43, u "$assertionsDisabled"), (0, u "Z"), (88, u "(II)I"), (2, u "twoToTheDoubleScaleDown"), (0, u "D"), (4, u "twoToTheDoubleScaleUp"), (9, u "E"), (3, u "PI"), (2, u "TAU"), (2, u "DEGREES_TO_RADIANS"), (0, u "RADIANS_TO_DEGREES")] 94

def k5m0 : Method := { name := "<init>", desc := "()V", sig := { parameters := [], returnType := none }, accessFlags := 2, code := none }
def k5c1 : Code := { maxStack := 2, maxLocals := 2, code := jdk_29_method_65_code, exceptionTable := #[], attributes := #[] }
def k5m1 : Method := { name := "max", desc := "(II)I", sig := { parameters := [.int, .int], returnType := some .int }, accessFlags := 9, code := some k5c1 }
def k5c2 : Code := { maxStack := 4, maxLocals := 4, code := jdk_29_method_66_code, exceptionTable := #[], attributes := #[] }
def k5m2 : Method := { name := "max", desc := "(JJ)J", sig := { parameters := [.long, .long], returnType := some .long }, accessFlags := 9, code := some k5c2 }
def k5c3 : Code := { maxStack := 2, maxLocals := 2, code := jdk_29_method_69_code, exceptionTable := #[], attributes := #[] }
def k5m3 : Method := { name := "min", desc := "(II)I", sig := { parameters := [.int, .int], returnType := some .int }, accessFlags := 9, code := some k5c3 }
def k5c4 : Code := { maxStack := 4, maxLocals := 4, code := jdk_29_method_70_code, exceptionTable := #[], attributes := #[] }
def k5m4 : Method := { name := "min", desc := "(JJ)J", sig := { parameters := [.long, .long], returnType := some .long }, accessFlags := 9, code := some k5c4 }
/-- java/lang/Math -/
def k5 : Class := { plain "java/lang/Math" (some 0) with
  accessFlags := 49
  interfaces := #[]
  cf := some (fileOf pool5 1 #[.nestMembers #[98]] #[{ accessFlags := 2, nameIndex := 7, descriptorIndex := 8, attributes := #[] }, { accessFlags := 9, nameIndex := 198, descriptorIndex := 335, attributes := #[] }, { accessFlags := 9, nameIndex := 198, descriptorIndex := 121, attributes := #[] }, { accessFlags := 9, nameIndex := 201, descriptorIndex := 335, attributes := #[] }, { accessFlags := 9, nameIndex := 201, descriptorIndex := 121, attributes := #[] }] 49 4 #[] #[{ accessFlags := 25, nameIndex := 354, descriptorIndex := 339, attributes := #[] }, { accessFlags := 25, nameIndex := 358, descriptorIndex := 339, attributes := #[] }, { accessFlags := 25, nameIndex := 361, descriptorIndex := 339, attributes := #[] }, { accessFlags := 26, nameIndex := 364, descriptorIndex := 339, attributes := #[] }, { accessFlags := 26, nameIndex := 365, descriptorIndex := 339, attributes := #[] }, { accessFlags := 26, nameIndex := 172, descriptorIndex := 173, attributes := #[] }, { accessFlags := 26, nameIndex := 176, descriptorIndex := 173, attributes := #[] }, { accessFlags := 8, nameIndex := 344, descriptorIndex := 339, attributes := #[] }, { accessFlags := 8, nameIndex := 338, descriptorIndex := 339, attributes := #[] }, { accessFlags := 4120, nameIndex := 245, descriptorIndex := 246, attributes := #[] }])
  fields := #[{ name := "E", type := .double, accessFlags := 25, slot := 0, constantValue := 0 }, { name := "PI", type := .double, accessFlags := 25, slot := 1, constantValue := 0 }, { name := "TAU", type := .double, accessFlags := 25, slot := 2, constantValue := 0 }, { name := "DEGREES_TO_RADIANS", type := .double, accessFlags := 26, slot := 3, constantValue := 0 }, { name := "RADIANS_TO_DEGREES", type := .double, accessFlags := 26, slot := 4, constantValue := 0 }, { name := "negativeZeroFloatBits", type := .long, accessFlags := 26, slot := 5, constantValue := 0 }, { name := "negativeZeroDoubleBits", type := .long, accessFlags := 26, slot := 6, constantValue := 0 }, { name := "twoToTheDoubleScaleUp", type := .double, accessFlags := 8, slot := 7, constantValue := 0 }, { name := "twoToTheDoubleScaleDown", type := .double, accessFlags := 8, slot := 8, constantValue := 0 }, { name := "$assertionsDisabled", type := .boolean, accessFlags := 4120, slot := 9, constantValue := 0 }]
  methods := #[k5m0, k5m1, k5m2, k5m3, k5m4]
  instanceTypes := #[]
  staticTypes := #[.double, .double, .double, .double, .double, .long, .long, .double, .double, .boolean]
  resolved := Array.replicate 460 none
  statics := none }

def pool6 : Array CpInfo := pool [(1, u "java/lang/Cloneable"), (0, .class_ 1), (0, u "java/lang/Object"), (0, .class_ 3)] 3

/-- java/lang/Cloneable -/
def k6 : Class := { plain "java/lang/Cloneable" (some 0) with
  accessFlags := 1537
  interfaces := #[]
  cf := some (fileOf pool6 2 #[] #[] 1537 4 #[] #[])
  fields := #[]
  methods := #[]
  instanceTypes := #[]
  staticTypes := #[]
  resolved := Array.replicate 8 none
  statics := none }

def pool7 : Array CpInfo := pool [(1, u "java/io/Serializable"), (0, .class_ 1), (0, u "java/lang/Object"), (0, .class_ 3)] 3

/-- java/io/Serializable -/
def k7 : Class := { plain "java/io/Serializable" (some 0) with
  accessFlags := 1537
  interfaces := #[]
  cf := some (fileOf pool7 2 #[] #[] 1537 4 #[] #[])
  fields := #[]
  methods := #[]
  instanceTypes := #[]
  staticTypes := #[]
  resolved := Array.replicate 8 none
  statics := none }

/-- the primitive boolean -/
def k8 : Class := { plain "boolean" none with kind := .primitive 'Z', accessFlags := 0x411 }
/-- [Z -/
def k9 : Class := { plain "[Z" (some 0) with kind := .array 8 .boolean, interfaces := #[6, 7], accessFlags := 1041 }

/-- the primitive byte -/
def k10 : Class := { plain "byte" none with kind := .primitive 'B', accessFlags := 0x411 }
/-- [B -/
def k11 : Class := { plain "[B" (some 0) with kind := .array 10 .byte, interfaces := #[6, 7], accessFlags := 1041 }

/-- the primitive int -/
def k12 : Class := { plain "int" none with kind := .primitive 'I', accessFlags := 0x411 }
/-- [I -/
def k13 : Class := { plain "[I" (some 0) with kind := .array 12 .int, interfaces := #[6, 7], accessFlags := 1041 }

/-- the primitive long -/
def k14 : Class := { plain "long" none with kind := .primitive 'J', accessFlags := 0x411 }
/-- [J -/
def k15 : Class := { plain "[J" (some 0) with kind := .array 14 .long, interfaces := #[6, 7], accessFlags := 1041 }

/-- the primitive double -/
def k16 : Class := { plain "double" none with kind := .primitive 'D', accessFlags := 0x411 }
/-- [D -/
def k17 : Class := { plain "[D" (some 0) with kind := .array 16 .double, interfaces := #[6, 7], accessFlags := 1041 }
/-- [[J -/
def k18 : Class := { plain "[[J" (some 0) with kind := .array 15 (.array .long), interfaces := #[6, 7], accessFlags := 1041 }
/-- [[D -/
def k19 : Class := { plain "[[D" (some 0) with kind := .array 17 (.array .double), interfaces := #[6, 7], accessFlags := 1041 }

def heap : Heap := #[]
def classes : Array Class := #[k0, k1, k2, k3, k4, k5, k6, k7, k8, k9, k10, k11, k12, k13, k14, k15, k16, k17, k18, k19]
def interned : List (Array UInt16 × Addr) := []
def slotsUsed : Nat := 0
def theMethod : MethodId := ⟨1, 1⟩
def args0 : Array Value := #[.long 5, .long 7, .long 3, .int 457, .long 9, .int 2]
def aboutOver (below : List Frame) : State where
  vm := { classes := classes, interned := interned.toArray }
  heap := heap
  slotsUsed := slotsUsed
  threads := #[{ frames := .invoking theMethod args0 :: below }]
def below0 : List Frame := [.native { method := ⟨0, 0⟩, args := #[] }]
def about1 : State := aboutOver below0
def p0 : Program := .bare "" "" ""
def e0 : Env := launch0.env 0 0 0
theorem w_frames : about1.frames = Frame.invoking theMethod args0 :: below0 := rfl
set_option maxRecDepth 65536 in
theorem w_args : argsFit about1.vm theMethod args0 = true := by decide +kernel
set_option maxRecDepth 65536 in
theorem w_heap : heapFits about1 = true := by decide +kernel
set_option maxRecDepth 65536 in
theorem w_runnable : about1.curStatus? = some .runnable := by decide +kernel
set_option maxRecDepth 65536 in
theorem w_alone : about1.alone = true := by decide +kernel
set_option maxRecDepth 65536 in
theorem w_named : about1.methodNamed? x = some theMethod := by decide +kernel
set_option maxRecDepth 65536 in
theorem w_hears : about1.hears theMethod below0 = true := by decide +kernel
set_option maxRecDepth 65536 in
theorem w_ripe : about1.ripe theMethod args0 below0 = true := by decide +kernel
theorem w_running : about1.status = .running := rfl
set_option maxRecDepth 65536 in
theorem w_room : about1.hasRoom e0.platform room_1 = true :=
  launch0.hasRoom_least _ room_1 (by decide +kernel) (by decide +kernel) (by decide +kernel) (by decide +kernel) (by decide +kernel) (by decide +kernel)
theorem allAtoms_all (ts : List Jvm.Cond) (a : Array Jvm.Value) (st : Jvm.State) : (allAtoms ts).before a st = ts.all (fun c => c.before a st) := by
  induction ts with
  | nil => rfl
  | cons c t ih =>
    show (Jvm.Cond.and c (allAtoms t)).before a st = _
    rw [Jvm.Cond.before_and, ih, List.all_cons]
def words1 : List Jvm.Cond := Jvm.Cond.code x code maxLocals ret :: tables_1
/-- a 'code' word, met by the world's own term for the bytes: nothing is compared byte by byte -/
theorem code_word {y : MethodName} {bytes : ByteArray} {mx : Nat} {rt : Option FieldType} {a : Array Value} {s : State} {m : MethodId} {meth : Method} {c : Code} (h1 : s.methodNamed? y = some m) (h2 : s.vm.method? m = some meth) (h3 : meth.code = some c) (h4 : c.code = bytes)
    (h5 : (c.maxLocals == mx && c.exceptionTable.isEmpty && decide (c.maxStack ≤ mostOperands) && decide (meth.sig.returnType = rt) && !meth.locks && decide (parseMethodDescriptor y.desc = some meth.sig)) = true) : (Jvm.Cond.code y bytes mx rt).before a s = true := by
  simp only [Bool.and_eq_true, beq_iff_eq, Bool.not_eq_true', decide_eq_true_eq] at h5
  obtain ⟨⟨⟨⟨⟨g1, g2⟩, g3⟩, g4⟩, g5⟩, g6⟩ := h5
  simp [Cond.before, Cond.holds, Cond.value, h1, h2, h3, h4, g1, g2, g3, g4, g5, g6]
def isCode : Jvm.Cond → Bool
  | .code _ _ _ _ => true
  | _ => false
theorem all_split {L : List Jvm.Cond} {P : Jvm.Cond → Bool} (h1 : L.all (fun c => isCode c || P c) = true) (h2 : ∀ c ∈ L.filter isCode, P c = true) : L.all P = true := by
  refine List.all_eq_true.mpr fun c hc => ?_
  have h := List.all_eq_true.mp h1 c hc
  rcases Bool.eq_false_or_eq_true (isCode c) with hi | hi
  · exact h2 c (List.mem_filter.mpr ⟨hc, hi⟩)
  · simpa [hi] using h
set_option maxRecDepth 65536 in
theorem w_c0 : (Jvm.Cond.code x code maxLocals ret).before args0 about1 = true := code_word (m := ⟨1, 1⟩) (meth := k1m1) (c := k1c1) (by decide +kernel) rfl rfl rfl (by decide +kernel)
set_option maxRecDepth 65536 in
theorem w_c1 : (Jvm.Cond.code ({ cls := "com/example/errantry/errantry/staff/CompletionBoundsCheapestPinLaw", name := "position", desc := "(JIJIJI)I" } : Jvm.MethodName) method_4_code (10 : Nat) (Option.some Jvm.ClassFile.FieldType.int)).before args0 about1 = true := code_word (m := ⟨1, 3⟩) (meth := k1m3) (c := k1c3) (by decide +kernel) rfl rfl rfl (by decide +kernel)
set_option maxRecDepth 65536 in
theorem w_c2 : (Jvm.Cond.code ({ cls := "com/example/errantry/errantry/staff/CompletionBoundsCheapestPinLaw", name := "precedes", desc := "(JIJI)Z" } : Jvm.MethodName) method_3_code (6 : Nat) (Option.some Jvm.ClassFile.FieldType.boolean)).before args0 about1 = true := code_word (m := ⟨1, 2⟩) (meth := k1m2) (c := k1c2) (by decide +kernel) rfl rfl rfl (by decide +kernel)
set_option maxRecDepth 65536 in
theorem w_c3 : (Jvm.Cond.code ({ cls := "com/example/errantry/errantry/staff/CompletionBounds", name := "<init>", desc := "([D[J[I[I)V" } : Jvm.MethodName) prog_38_method_1_code (10 : Nat) (Option.none : Option Jvm.ClassFile.FieldType)).before args0 about1 = true := code_word (m := ⟨2, 0⟩) (meth := k2m0) (c := k2c0) (by decide +kernel) rfl rfl rfl (by decide +kernel)
set_option maxRecDepth 65536 in
theorem w_c4 : (Jvm.Cond.code ({ cls := "java/lang/Object", name := "<init>", desc := "()V" } : Jvm.MethodName) object_method_1_code (1 : Nat) (Option.none : Option Jvm.ClassFile.FieldType)).before args0 about1 = true := code_word (m := ⟨0, 0⟩) (meth := k0m0) (c := k0c0) (by decide +kernel) rfl rfl rfl (by decide +kernel)
set_option maxRecDepth 65536 in
theorem w_c5 : (Jvm.Cond.code ({ cls := "com/example/errantry/errantry/staff/CompletionBounds", name := "reset", desc := "([IIJ)V" } : Jvm.MethodName) prog_38_method_2_code (6 : Nat) (Option.none : Option Jvm.ClassFile.FieldType)).before args0 about1 = true := code_word (m := ⟨2, 1⟩) (meth := k2m1) (c := k2c1) (by decide +kernel) rfl rfl rfl (by decide +kernel)
set_option maxRecDepth 65536 in
theorem w_c6 : (Jvm.Cond.code ({ cls := "com/example/errantry/errantry/staff/CompletionBounds", name := "mostFitting", desc := "(IJ)I" } : Jvm.MethodName) prog_38_method_3_code (11 : Nat) (Option.some Jvm.ClassFile.FieldType.int)).before args0 about1 = true := code_word (m := ⟨2, 2⟩) (meth := k2m2) (c := k2c2) (by decide +kernel) rfl rfl rfl (by decide +kernel)
set_option maxRecDepth 65536 in
theorem w_c7 : (Jvm.Cond.code ({ cls := "com/example/errantry/errantry/staff/CompletionBounds", name := "row", desc := "([JI)[J" } : Jvm.MethodName) prog_38_method_4_code (2 : Nat) (Option.some (Jvm.ClassFile.FieldType.array Jvm.ClassFile.FieldType.long))).before args0 about1 = true := code_word (m := ⟨2, 3⟩) (meth := k2m3) (c := k2c3) (by decide +kernel) rfl rfl rfl (by decide +kernel)
set_option maxRecDepth 65536 in
theorem w_c8 : (Jvm.Cond.code ({ cls := "java/util/Arrays", name := "fill", desc := "([II)V" } : Jvm.MethodName) jdk_65_method_103_code (4 : Nat) (Option.none : Option Jvm.ClassFile.FieldType)).before args0 about1 = true := code_word (m := ⟨4, 1⟩) (meth := k4m1) (c := k4c1) (by decide +kernel) rfl rfl rfl (by decide +kernel)
set_option maxRecDepth 65536 in
theorem w_c9 : (Jvm.Cond.code ({ cls := "com/example/errantry/errantry/staff/CompletionBounds", name := "most", desc := "()I" } : Jvm.MethodName) prog_38_method_6_code (1 : Nat) (Option.some Jvm.ClassFile.FieldType.int)).before args0 about1 = true := code_word (m := ⟨2, 5⟩) (meth := k2m5) (c := k2c5) (by decide +kernel) rfl rfl rfl (by decide +kernel)
set_option maxRecDepth 65536 in
theorem w_c10 : (Jvm.Cond.code ({ cls := "com/example/errantry/errantry/staff/CompletionBounds", name := "cheapest", desc := "(I)J" } : Jvm.MethodName) prog_38_method_7_code (2 : Nat) (Option.some Jvm.ClassFile.FieldType.long)).before args0 about1 = true := code_word (m := ⟨2, 6⟩) (meth := k2m6) (c := k2c6) (by decide +kernel) rfl rfl rfl (by decide +kernel)
set_option maxRecDepth 65536 in
theorem w_c11 : (Jvm.Cond.code ({ cls := "com/example/errantry/errantry/staff/CompletionBoundsCheapestPinLaw", name := "ahead", desc := "(JIJIIJII)I" } : Jvm.MethodName) method_5_code (12 : Nat) (Option.some Jvm.ClassFile.FieldType.int)).before args0 about1 = true := code_word (m := ⟨1, 4⟩) (meth := k1m4) (c := k1c4) (by decide +kernel) rfl rfl rfl (by decide +kernel)
set_option maxRecDepth 65536 in
theorem w_c12 : (Jvm.Cond.code ({ cls := "com/example/errantry/errantry/staff/CompletionBoundsCheapestPinLaw", name := "taken", desc := "(III)J" } : Jvm.MethodName) method_6_code (3 : Nat) (Option.some Jvm.ClassFile.FieldType.long)).before args0 about1 = true := code_word (m := ⟨1, 5⟩) (meth := k1m5) (c := k1c5) (by decide +kernel) rfl rfl rfl (by decide +kernel)
set_option maxRecDepth 65536 in
theorem w_c13 : (Jvm.Cond.code ({ cls := "java/lang/Math", name := "max", desc := "(II)I" } : Jvm.MethodName) jdk_29_method_65_code (2 : Nat) (Option.some Jvm.ClassFile.FieldType.int)).before args0 about1 = true := code_word (m := ⟨5, 1⟩) (meth := k5m1) (c := k5c1) (by decide +kernel) rfl rfl rfl (by decide +kernel)
set_option maxRecDepth 65536 in
theorem w_c14 : (Jvm.Cond.code ({ cls := "java/lang/Math", name := "min", desc := "(II)I" } : Jvm.MethodName) jdk_29_method_69_code (2 : Nat) (Option.some Jvm.ClassFile.FieldType.int)).before args0 about1 = true := code_word (m := ⟨5, 3⟩) (meth := k5m3) (c := k5c3) (by decide +kernel) rfl rfl rfl (by decide +kernel)
set_option maxRecDepth 65536 in
theorem w_c15 : (Jvm.Cond.code ({ cls := "java/lang/Math", name := "max", desc := "(JJ)J" } : Jvm.MethodName) jdk_29_method_66_code (4 : Nat) (Option.some Jvm.ClassFile.FieldType.long)).before args0 about1 = true := code_word (m := ⟨5, 2⟩) (meth := k5m2) (c := k5c2) (by decide +kernel) rfl rfl rfl (by decide +kernel)
set_option maxRecDepth 65536 in
theorem w_c16 : (Jvm.Cond.code ({ cls := "java/lang/Math", name := "min", desc := "(JJ)J" } : Jvm.MethodName) jdk_29_method_70_code (4 : Nat) (Option.some Jvm.ClassFile.FieldType.long)).before args0 about1 = true := code_word (m := ⟨5, 4⟩) (meth := k5m4) (c := k5c4) (by decide +kernel) rfl rfl rfl (by decide +kernel)
set_option maxRecDepth 65536 in
theorem w_c17 : (Jvm.Cond.code ({ cls := "com/example/errantry/errantry/staff/CompletionBounds", name := "addGroup", desc := "([J[JII)V" } : Jvm.MethodName) prog_38_method_5_code (12 : Nat) (Option.none : Option Jvm.ClassFile.FieldType)).before args0 about1 = true := code_word (m := ⟨2, 4⟩) (meth := k2m4) (c := k2c4) (by decide +kernel) rfl rfl rfl (by decide +kernel)
def codes1 : List Jvm.Cond := [Jvm.Cond.code x code maxLocals ret, Jvm.Cond.code ({ cls := "com/example/errantry/errantry/staff/CompletionBoundsCheapestPinLaw", name := "position", desc := "(JIJIJI)I" } : Jvm.MethodName) method_4_code (10 : Nat) (Option.some Jvm.ClassFile.FieldType.int), Jvm.Cond.code ({ cls := "com/example/errantry/errantry/staff/CompletionBoundsCheapestPinLaw", name := "precedes", desc := "(JIJI)Z" } : Jvm.MethodName) method_3_code (6 : Nat) (Option.some Jvm.ClassFile.FieldType.boolean), Jvm.Cond.code ({ cls := "com/example/errantry/errantry/staff/CompletionBounds", name := "<init>", desc := "([D[J[I[I)V" } : Jvm.MethodName) prog_38_method_1_code (10 : Nat) (Option.none : Option Jvm.ClassFile.FieldType), Jvm.Cond.code ({ cls := "java/lang/Object", name := "<init>", desc := "()V" } : Jvm.MethodName) object_method_1_code (1 : Nat) (Option.none : Option Jvm.ClassFile.FieldType), Jvm.Cond.code ({ cls := "com/example/errantry/errantry/staff/CompletionBounds", name := "reset", desc := "([IIJ)V" } : Jvm.MethodName) prog_38_method_2_code (6 : Nat) (Option.none : Option Jvm.ClassFile.FieldType), Jvm.Cond.code ({ cls := "com/example/errantry/errantry/staff/CompletionBounds", name := "mostFitting", desc := "(IJ)I" } : Jvm.MethodName) prog_38_method_3_code (11 : Nat) (Option.some Jvm.ClassFile.FieldType.int), Jvm.Cond.code ({ cls := "com/example/errantry/errantry/staff/CompletionBounds", name := "row", desc := "([JI)[J" } : Jvm.MethodName) prog_38_method_4_code (2 : Nat) (Option.some (Jvm.ClassFile.FieldType.array Jvm.ClassFile.FieldType.long)), Jvm.Cond.code ({ cls := "java/util/Arrays", name := "fill", desc := "([II)V" } : Jvm.MethodName) jdk_65_method_103_code (4 : Nat) (Option.none : Option Jvm.ClassFile.FieldType), Jvm.Cond.code ({ cls := "com/example/errantry/errantry/staff/CompletionBounds", name := "most", desc := "()I" } : Jvm.MethodName) prog_38_method_6_code (1 : Nat) (Option.some Jvm.ClassFile.FieldType.int), Jvm.Cond.code ({ cls := "com/example/errantry/errantry/staff/CompletionBounds", name := "cheapest", desc := "(I)J" } : Jvm.MethodName) prog_38_method_7_code (2 : Nat) (Option.some Jvm.ClassFile.FieldType.long), Jvm.Cond.code ({ cls := "com/example/errantry/errantry/staff/CompletionBoundsCheapestPinLaw", name := "ahead", desc := "(JIJIIJII)I" } : Jvm.MethodName) method_5_code (12 : Nat) (Option.some Jvm.ClassFile.FieldType.int), Jvm.Cond.code ({ cls := "com/example/errantry/errantry/staff/CompletionBoundsCheapestPinLaw", name := "taken", desc := "(III)J" } : Jvm.MethodName) method_6_code (3 : Nat) (Option.some Jvm.ClassFile.FieldType.long), Jvm.Cond.code ({ cls := "java/lang/Math", name := "max", desc := "(II)I" } : Jvm.MethodName) jdk_29_method_65_code (2 : Nat) (Option.some Jvm.ClassFile.FieldType.int), Jvm.Cond.code ({ cls := "java/lang/Math", name := "min", desc := "(II)I" } : Jvm.MethodName) jdk_29_method_69_code (2 : Nat) (Option.some Jvm.ClassFile.FieldType.int), Jvm.Cond.code ({ cls := "java/lang/Math", name := "max", desc := "(JJ)J" } : Jvm.MethodName) jdk_29_method_66_code (4 : Nat) (Option.some Jvm.ClassFile.FieldType.long), Jvm.Cond.code ({ cls := "java/lang/Math", name := "min", desc := "(JJ)J" } : Jvm.MethodName) jdk_29_method_70_code (4 : Nat) (Option.some Jvm.ClassFile.FieldType.long), Jvm.Cond.code ({ cls := "com/example/errantry/errantry/staff/CompletionBounds", name := "addGroup", desc := "([J[JII)V" } : Jvm.MethodName) prog_38_method_5_code (12 : Nat) (Option.none : Option Jvm.ClassFile.FieldType)]
set_option maxRecDepth 65536 in
theorem codes_eq : words1.filter isCode = codes1 := rfl
theorem w_codes : ∀ c ∈ words1.filter isCode, c.before args0 about1 = true := by
  rw [codes_eq]
  intro c hc
  simp only [codes1, List.mem_cons, List.not_mem_nil, or_false] at hc
  rcases hc with rfl | rfl | rfl | rfl | rfl | rfl | rfl | rfl | rfl | rfl | rfl | rfl | rfl | rfl | rfl | rfl | rfl | rfl
  · exact w_c0
  · exact w_c1
  · exact w_c2
  · exact w_c3
  · exact w_c4
  · exact w_c5
  · exact w_c6
  · exact w_c7
  · exact w_c8
  · exact w_c9
  · exact w_c10
  · exact w_c11
  · exact w_c12
  · exact w_c13
  · exact w_c14
  · exact w_c15
  · exact w_c16
  · exact w_c17
set_option maxRecDepth 65536 in
theorem w_t1 : (words1.take 24).all (fun c => isCode c || c.before args0 about1) = true := by decide +kernel
set_option maxRecDepth 65536 in
theorem w_t2 : ((words1.drop 24).take 24).all (fun c => isCode c || c.before args0 about1) = true := by decide +kernel
set_option maxRecDepth 65536 in
theorem w_t3 : (((words1.drop 24).drop 24).take 24).all (fun c => isCode c || c.before args0 about1) = true := by decide +kernel
set_option maxRecDepth 65536 in
theorem w_t4 : ((((words1.drop 24).drop 24).drop 24).take 24).all (fun c => isCode c || c.before args0 about1) = true := by decide +kernel
set_option maxRecDepth 65536 in
theorem w_t5 : ((((words1.drop 24).drop 24).drop 24).drop 24).all (fun c => isCode c || c.before args0 about1) = true := by decide +kernel
theorem w_tables : (allAtoms (Jvm.Cond.code x code maxLocals ret :: tables_1)).before args0 about1 = true := by
  rw [allAtoms_all]
  show words1.all (fun c => c.before args0 about1) = true
  refine all_split ?_ w_codes
  rw [← List.take_append_drop 24 words1, List.all_append, w_t1, ← List.take_append_drop 24 (words1.drop 24), List.all_append, w_t2, ← List.take_append_drop 24 ((words1.drop 24).drop 24), List.all_append, w_t3, ← List.take_append_drop 24 (((words1.drop 24).drop 24).drop 24), List.all_append, w_t4, w_t5]
  rfl
set_option maxRecDepth 65536 in
theorem w_case : (Jvm.Cond.and given_1 narrow_1).before args0 about1 = true := by decide +kernel
theorem w_applies : (headSpec (Jvm.Cond.code x code maxLocals ret :: tables_1) room_1).applies x e0.platform about1 = true :=
  (Spec.applies_iff w_frames).mpr ⟨w_running, w_runnable, w_alone, w_named, w_hears, w_ripe, w_room, w_tables⟩
theorem atStart : AtStart classFile x code maxLocals ret World_1 tables_1 room_1 Calls_1 rest_1 Pre_1 launch0 p0 e0 about1 theMethod args0 below0 :=
  ⟨lists_1, trivial, launch0.admits_env _ _ _, launch0.least_env, fairChoices_fair.cas, fairChoices_fair.clock, w_frames, w_args, w_heap, w_applies, trivial, trivial, w_case⟩
end start1
theorem witness_1 : WitnessClaimed_1 := ⟨start1.p0, start1.e0, start1.about1, start1.theMethod, start1.args0, start1.below0, start1.atStart⟩
end Jvm.Pilot.@@N@@
