import JvmDerived
import JvmDerived.Pilot.@@N@@Statement
import JvmDerived.Pilot.@@N@@Code
set_option linter.unusedVariables false
set_option linter.unusedSimpArgs false
namespace Jvm.RoadKit
open Sem ClassFile Op Lib Jvm.Stand Jvm.Free Jvm.LawKit
section OwnWalk
variable {p : Program} {l : Launch} {e : Env} {R : Room} {s : State} {m : MethodId} {args : Array Value} {below : List Frame} {meth : Method} {c : Code} {T : State} {locs : List Loc} {cells slots : Nat}
/-- what a walk owes from a state on: it comes to an end as the contract says -/
def Goes (p : Program) (e : Env) (below : List Frame) (s : State) (Q : Option Value → Heap → List Loc → Prop) (cs ss : Nat) (st : State) : Prop :=
  ∃ s₂ o, Steps p.tables e below st s₂ ∧ s₂.status = .running ∧ Ended s₂ below o ∧ ∃ v L, o = .returned v ∧ Q v s₂.heap L ∧ FrameEnd s o s₂ L cs ss
abbrev Gs (p : Program) (e : Env) (below : List Frame) (s : State) (Q : Option Value → Heap → List Loc → Prop) (cs ss : Nat) (T : State) (m : MethodId) (pc : Nat) (Ls : Array Slot) (st : List Value) : Prop := Goes p e below s Q cs ss (T.setTop (mkF m pc Ls st))
theorem Goes.st {Q : Option Value → Heap → List Loc → Prop} {cs ss : Nat} {st st' : State} (h : ∀ t, Steps p.tables e below st' t → Steps p.tables e below st t) (g : Goes p e below s Q cs ss st') : Goes p e below s Q cs ss st := by
  obtain ⟨s2, o, h1, r⟩ := g
  exact ⟨s2, o, h _ h1, r⟩
theorem Goes.sts {Q : Option Value → Heap → List Loc → Prop} {cs ss : Nat} {st st' : State} (h : Steps p.tables e below st st') (g : Goes p e below s Q cs ss st') : Goes p e below s Q cs ss st := Goes.st (fun _ k => h.trans k) g
theorem Goes.fin {Q : Option Value → Heap → List Loc → Prop} {cs ss : Nat} (X : Stand p l e R s m args below meth c T locs cells slots) (hlk : meth.locks = false) {v : Option Value} (hv : meth.sig.returnType = none → v = none) {F : JFrame}
    (hst : ∀ fs, (∀ (f : JFrame) (acts : List Action), f.method = m → f.locked = none → f.entered = [] → (doReturn e (T.setTop f) acts v).1 = T.setFrames fs) → Steps p.tables e below (T.setTop F) (T.setFrames fs))
    (hq : Q v T.heap locs) (hc : cells ≤ cs) (hs : slots ≤ ss) : Goes p e below s Q cs ss (T.setTop F) := by
  obtain ⟨fs, hr, hrun, hended, hW, hsame⟩ := X.leave (v := v) hv hlk
  exact ⟨_, _, hst fs hr, hrun, hended, _, _, rfl, hq, ⟨_, rfl⟩, hW, hsame.mono hc hs⟩
theorem Goes.retN {Q : Option Value → Heap → List Loc → Prop} {cs ss : Nat} (X : Stand p l e R s m args below meth c T locs cells slots) (hx : p.tables.exec = Jvm.exec) (hlk : meth.locks = false) {t : FieldType} (hret : meth.sig.returnType = some t) (ht : t = .boolean ∨ t = .byte ∨ t = .char ∨ t = .short) {pc : Nat} {Ls : Array Slot} {z : Int32} {rest : List Value}
    (hd : decode c.code pc = .ok (.ireturn, 1)) (hn : nar t z = z) (hq : Q (some (.int z)) T.heap locs) (hc : cells ≤ cs) (hs : slots ≤ ss) : Goes p e below s Q cs ss (T.setTop (mkF m pc Ls (.int z :: rest))) :=
  Goes.fin X hlk (v := some (.int z)) (fun h => by rw [hret] at h; cases h) (fun fs hr => RoadKit.retN X hx hret ht hd (by rw [hn]; exact hr)) hq hc hs
theorem Goes.retW {Q : Option Value → Heap → List Loc → Prop} {cs ss : Nat} (X : Stand p l e R s m args below meth c T locs cells slots) (hx : p.tables.exec = Jvm.exec) (hlk : meth.locks = false) {t : FieldType} (hret : meth.sig.returnType = some t) {pc : Nat} {Ls : Array Slot} {w : Value} {i : Instr} {rest : List Value} (hn : narrow t w = w)
    (hi : (i = .ireturn ∧ (t = .int ∨ t = .boolean ∨ t = .byte ∨ t = .char ∨ t = .short) ∧ ∃ z, w = .int z) ∨ (i = .lreturn ∧ t = .long ∧ ∃ z, w = .long z) ∨ (i = .dreturn ∧ t = .double ∧ ∃ z, w = .double z) ∨ (i = .freturn ∧ t = .float ∧ ∃ z, w = .float z) ∨ (i = .areturn ∧ t.isReference = true ∧ w.isRef = true))
    (hd : decode c.code pc = .ok (i, 1)) (hq : Q (some w) T.heap locs) (hc : cells ≤ cs) (hs : slots ≤ ss) : Goes p e below s Q cs ss (T.setTop (mkF m pc Ls (w :: rest))) :=
  Goes.fin X hlk (v := some w) (fun h => by rw [hret] at h; cases h) (fun fs hr => RoadKit.retOut X hx hret hn hi hd hr) hq hc hs
theorem Goes.retI {Q : Option Value → Heap → List Loc → Prop} {cs ss : Nat} (X : Stand p l e R s m args below meth c T locs cells slots) (hx : p.tables.exec = Jvm.exec) (hlk : meth.locks = false) (hret : meth.sig.returnType = some .int) {pc : Nat} {Ls : Array Slot} {z : Int32} {rest : List Value}
    (hd : decode c.code pc = .ok (.ireturn, 1)) (hq : Q (some (.int z)) T.heap locs) (hc : cells ≤ cs) (hs : slots ≤ ss) : Goes p e below s Q cs ss (T.setTop (mkF m pc Ls (.int z :: rest))) :=
  Goes.retW X hx hlk hret rfl (Or.inl ⟨rfl, Or.inl rfl, _, rfl⟩) hd hq hc hs
theorem Goes.retL {Q : Option Value → Heap → List Loc → Prop} {cs ss : Nat} (X : Stand p l e R s m args below meth c T locs cells slots) (hx : p.tables.exec = Jvm.exec) (hlk : meth.locks = false) (hret : meth.sig.returnType = some .long) {pc : Nat} {Ls : Array Slot} {z : Int64} {rest : List Value}
    (hd : decode c.code pc = .ok (.lreturn, 1)) (hq : Q (some (.long z)) T.heap locs) (hc : cells ≤ cs) (hs : slots ≤ ss) : Goes p e below s Q cs ss (T.setTop (mkF m pc Ls (.long z :: rest))) :=
  Goes.retW X hx hlk hret rfl (Or.inr (Or.inl ⟨rfl, rfl, _, rfl⟩)) hd hq hc hs
theorem Goes.retD {Q : Option Value → Heap → List Loc → Prop} {cs ss : Nat} (X : Stand p l e R s m args below meth c T locs cells slots) (hx : p.tables.exec = Jvm.exec) (hlk : meth.locks = false) (hret : meth.sig.returnType = some .double) {pc : Nat} {Ls : Array Slot} {z : UInt64} {rest : List Value}
    (hd : decode c.code pc = .ok (.dreturn, 1)) (hq : Q (some (.double z)) T.heap locs) (hc : cells ≤ cs) (hs : slots ≤ ss) : Goes p e below s Q cs ss (T.setTop (mkF m pc Ls (.double z :: rest))) :=
  Goes.retW X hx hlk hret rfl (Or.inr (Or.inr (Or.inl ⟨rfl, rfl, _, rfl⟩))) hd hq hc hs
theorem Goes.retA {Q : Option Value → Heap → List Loc → Prop} {cs ss : Nat} (X : Stand p l e R s m args below meth c T locs cells slots) (hx : p.tables.exec = Jvm.exec) (hlk : meth.locks = false) {t : FieldType} (hret : meth.sig.returnType = some t) (ht : t.isReference = true) {pc : Nat} {Ls : Array Slot} {w : Value} {rest : List Value} (hn : narrow t w = w) (hw : w.isRef = true)
    (hd : decode c.code pc = .ok (.areturn, 1)) (hq : Q (some w) T.heap locs) (hc : cells ≤ cs) (hs : slots ≤ ss) : Goes p e below s Q cs ss (T.setTop (mkF m pc Ls (w :: rest))) :=
  Goes.retW X hx hlk hret hn (Or.inr (Or.inr (Or.inr (Or.inr ⟨rfl, ht, hw⟩)))) hd hq hc hs
theorem Goes.retV {Q : Option Value → Heap → List Loc → Prop} {cs ss : Nat} (X : Stand p l e R s m args below meth c T locs cells slots) (hx : p.tables.exec = Jvm.exec) (hlk : meth.locks = false) (hret : meth.sig.returnType = none) {pc : Nat} {Ls : Array Slot}
    (hd : decode c.code pc = .ok (.return_, 1)) (hq : Q none T.heap locs) (hc : cells ≤ cs) (hs : slots ≤ ss) : Goes p e below s Q cs ss (T.setTop (mkF m pc Ls [])) :=
  Goes.fin X hlk (v := none) (fun _ => rfl) (fun fs hr => X.returnOut hx hret hd hr) hq hc hs
theorem hwk {ws : List Jvm.Cond} {Z : State} {a0 : Array Value} (hw : ∀ d ∈ ws, d.before a0 Z = true) (k : Nat) {d : Jvm.Cond} (h : ws[k]? = some d) : d.before a0 Z = true := hw _ (List.mem_of_getElem? h)
theorem selP {U : State} {as : Array Value} {y : MethodName} {n : Nat} (wi : (Cond.instantiable y.cls n).before as U = true) (wp : (Cond.privateMethod y).before as U = true) (wm : (Cond.instanceMethod y).before as U = true) (hy : y.cls ≠ "java/lang/invoke/MethodHandle" ∧ y.cls ≠ "java/lang/invoke/VarHandle") : (Cond.selects y.cls y y).before as U = true := by
  obtain ⟨c, k, h1, h2, -, h3, -⟩ := Cond.instantiable_spec wi
  exact Stand.selects_self_of_private h1 h2 (by simp only [Bool.or_eq_false_iff] at h3; exact h3.1) (Cond.privateMethod_at wp) wm hy
end OwnWalk
section OwnSteps
variable {p : Program} {l : Launch} {e : Env} {R : Room} {s : State} {m : MethodId} {args : Array Value} {below : List Frame} {meth : Method} {c : Code} {T : State} {locs : List Loc} {cells slots : Nat} {Q : Option Value → Heap → List Loc → Prop} {cs ss : Nat} {pc : Nat} {Ls : Array Slot} {st : List Value}
theorem giloadN (X : Stand p l e R s m args below meth c T locs cells slots) (hx : p.tables.exec = Jvm.exec) {i : Fin 4} {v : Int32} (hd : decode c.code pc = .ok (.iload_n i, 1)) (hl : Ls[i.val]? = some (.val (.int v))) (k : Goes p e below s Q cs ss (T.setTop (mkF m (pc + 1) Ls (.int v :: st)))) : Goes p e below s Q cs ss (T.setTop (mkF m pc Ls st)) :=
  Goes.st (fun _ q => XS.iloadN X.here hx rfl hd hl q) k
theorem glloadN (X : Stand p l e R s m args below meth c T locs cells slots) (hx : p.tables.exec = Jvm.exec) {i : Fin 4} {v : Int64} (hd : decode c.code pc = .ok (.lload_n i, 1)) (hl : Ls[i.val]? = some (.val (.long v))) (k : Goes p e below s Q cs ss (T.setTop (mkF m (pc + 1) Ls (.long v :: st)))) : Goes p e below s Q cs ss (T.setTop (mkF m pc Ls st)) :=
  Goes.st (fun _ q => XT.lloadN X.here hx rfl hd hl q) k
theorem gdloadN (X : Stand p l e R s m args below meth c T locs cells slots) (hx : p.tables.exec = Jvm.exec) {i : Fin 4} {v : UInt64} (hd : decode c.code pc = .ok (.dload_n i, 1)) (hl : Ls[i.val]? = some (.val (.double v))) (k : Goes p e below s Q cs ss (T.setTop (mkF m (pc + 1) Ls (.double v :: st)))) : Goes p e below s Q cs ss (T.setTop (mkF m pc Ls st)) :=
  Goes.st (fun _ q => XS.dloadN X.here hx rfl hd hl q) k
theorem giload (X : Stand p l e R s m args below meth c T locs cells slots) (hx : p.tables.exec = Jvm.exec) {i : Nat} {v : Int32} (hd : decode c.code pc = .ok (.iload i, 2)) (hl : Ls[i]? = some (.val (.int v))) (k : Goes p e below s Q cs ss (T.setTop (mkF m (pc + 2) Ls (.int v :: st)))) : Goes p e below s Q cs ss (T.setTop (mkF m pc Ls st)) :=
  Goes.st (fun _ q => XS.iload X.here hx rfl hd hl q) k
theorem glload (X : Stand p l e R s m args below meth c T locs cells slots) (hx : p.tables.exec = Jvm.exec) {i : Nat} {v : Int64} (hd : decode c.code pc = .ok (.lload i, 2)) (hl : Ls[i]? = some (.val (.long v))) (k : Goes p e below s Q cs ss (T.setTop (mkF m (pc + 2) Ls (.long v :: st)))) : Goes p e below s Q cs ss (T.setTop (mkF m pc Ls st)) :=
  Goes.st (fun _ q => XT.lload X.here hx rfl hd hl q) k
theorem gdload (X : Stand p l e R s m args below meth c T locs cells slots) (hx : p.tables.exec = Jvm.exec) {i : Nat} {v : UInt64} (hd : decode c.code pc = .ok (.dload i, 2)) (hl : Ls[i]? = some (.val (.double v))) (k : Goes p e below s Q cs ss (T.setTop (mkF m (pc + 2) Ls (.double v :: st)))) : Goes p e below s Q cs ss (T.setTop (mkF m pc Ls st)) :=
  Goes.st (fun _ q => XS.dload X.here hx rfl hd hl q) k
theorem galoadN (X : Stand p l e R s m args below meth c T locs cells slots) (hx : p.tables.exec = Jvm.exec) {i : Fin 4} {v : Value} (hd : decode c.code pc = .ok (.aload_n i, 1)) (hl : Ls[i.val]? = some (.val v)) (hv : v.isRef = true) (k : Goes p e below s Q cs ss (T.setTop (mkF m (pc + 1) Ls (v :: st)))) : Goes p e below s Q cs ss (T.setTop (mkF m pc Ls st)) :=
  Goes.st (fun _ q => XS.aloadN X.here hx rfl hd hl hv q) k
theorem gaload (X : Stand p l e R s m args below meth c T locs cells slots) (hx : p.tables.exec = Jvm.exec) {i : Nat} {v : Value} (hd : decode c.code pc = .ok (.aload i, 2)) (hl : Ls[i]? = some (.val v)) (hv : v.isRef = true) (k : Goes p e below s Q cs ss (T.setTop (mkF m (pc + 2) Ls (v :: st)))) : Goes p e below s Q cs ss (T.setTop (mkF m pc Ls st)) :=
  Goes.st (fun _ q => XS.aload X.here hx rfl hd hl hv q) k
theorem giconst (X : Stand p l e R s m args below meth c T locs cells slots) (hx : p.tables.exec = Jvm.exec) {i : Int} (hd : decode c.code pc = .ok (.iconst i, 1)) (k : Goes p e below s Q cs ss (T.setTop (mkF m (pc + 1) Ls (.int (Int32.ofInt i) :: st)))) : Goes p e below s Q cs ss (T.setTop (mkF m pc Ls st)) :=
  Goes.st (fun _ q => XS.iconst X.here hx rfl hd q) k
theorem giadd (X : Stand p l e R s m args below meth c T locs cells slots) (hx : p.tables.exec = Jvm.exec) {x y : Int32} (hd : decode c.code pc = .ok (.iadd, 1)) (_ : True) (k : Goes p e below s Q cs ss (T.setTop (mkF m (pc + 1) Ls (.int (x + y) :: st)))) : Goes p e below s Q cs ss (T.setTop (mkF m pc Ls (.int y :: .int x :: st))) :=
  Goes.st (fun _ q => XS.iadd X.here hx rfl hd rfl q) k
theorem gisub (X : Stand p l e R s m args below meth c T locs cells slots) (hx : p.tables.exec = Jvm.exec) {x y : Int32} (hd : decode c.code pc = .ok (.isub, 1)) (_ : True) (k : Goes p e below s Q cs ss (T.setTop (mkF m (pc + 1) Ls (.int (x - y) :: st)))) : Goes p e below s Q cs ss (T.setTop (mkF m pc Ls (.int y :: .int x :: st))) :=
  Goes.st (fun _ q => XS.isub X.here hx rfl hd rfl q) k
theorem giand (X : Stand p l e R s m args below meth c T locs cells slots) (hx : p.tables.exec = Jvm.exec) {x y : Int32} (hd : decode c.code pc = .ok (.iand, 1)) (_ : True) (k : Goes p e below s Q cs ss (T.setTop (mkF m (pc + 1) Ls (.int (x &&& y) :: st)))) : Goes p e below s Q cs ss (T.setTop (mkF m pc Ls (.int y :: .int x :: st))) :=
  Goes.st (fun _ q => XS.iand X.here hx rfl hd rfl q) k
theorem gimul (X : Stand p l e R s m args below meth c T locs cells slots) (hx : p.tables.exec = Jvm.exec) {x y : Int32} (hd : decode c.code pc = .ok (.imul, 1)) (_ : True) (k : Goes p e below s Q cs ss (T.setTop (mkF m (pc + 1) Ls (.int (x * y) :: st)))) : Goes p e below s Q cs ss (T.setTop (mkF m pc Ls (.int y :: .int x :: st))) :=
  Goes.st (fun _ q => XS.imul X.here hx rfl hd rfl q) k
theorem gdup (X : Stand p l e R s m args below meth c T locs cells slots) (hx : p.tables.exec = Jvm.exec) {x : Value} (hd : decode c.code pc = .ok (.dup, 1)) (_ : True) (hc : x.category = 1) (k : Goes p e below s Q cs ss (T.setTop (mkF m (pc + 1) Ls (x :: x :: st)))) : Goes p e below s Q cs ss (T.setTop (mkF m pc Ls (x :: st))) :=
  Goes.st (fun _ q => XS.dup X.here hx rfl hd rfl hc q) k
theorem gistoreN (X : Stand p l e R s m args below meth c T locs cells slots) (hx : p.tables.exec = Jvm.exec) {i : Fin 4} {x : Int32} {l' : Array Slot} (hd : decode c.code pc = .ok (.istore_n i, 1)) (_ : True) (hl : storeLocals Ls i.val (.int x) = some l') (k : Goes p e below s Q cs ss (T.setTop (mkF m (pc + 1) l' st))) : Goes p e below s Q cs ss (T.setTop (mkF m pc Ls (.int x :: st))) :=
  Goes.st (fun _ q => XS.istoreN X.here hx rfl hd rfl hl q) k
theorem gistore (X : Stand p l e R s m args below meth c T locs cells slots) (hx : p.tables.exec = Jvm.exec) {i : Nat} {x : Int32} {l' : Array Slot} (hd : decode c.code pc = .ok (.istore i, 2)) (_ : True) (hl : storeLocals Ls i (.int x) = some l') (k : Goes p e below s Q cs ss (T.setTop (mkF m (pc + 2) l' st))) : Goes p e below s Q cs ss (T.setTop (mkF m pc Ls (.int x :: st))) :=
  Goes.st (fun _ q => XS.istore X.here hx rfl hd rfl hl q) k
theorem gdstoreN (X : Stand p l e R s m args below meth c T locs cells slots) (hx : p.tables.exec = Jvm.exec) {i : Fin 4} {x : UInt64} {l' : Array Slot} (hd : decode c.code pc = .ok (.dstore_n i, 1)) (_ : True) (hl : storeLocals Ls i.val (.double x) = some l') (k : Goes p e below s Q cs ss (T.setTop (mkF m (pc + 1) l' st))) : Goes p e below s Q cs ss (T.setTop (mkF m pc Ls (.double x :: st))) :=
  Goes.st (fun _ q => XS.dstoreN X.here hx rfl hd rfl hl q) k
theorem gdstore (X : Stand p l e R s m args below meth c T locs cells slots) (hx : p.tables.exec = Jvm.exec) {i : Nat} {x : UInt64} {l' : Array Slot} (hd : decode c.code pc = .ok (.dstore i, 2)) (_ : True) (hl : storeLocals Ls i (.double x) = some l') (k : Goes p e below s Q cs ss (T.setTop (mkF m (pc + 2) l' st))) : Goes p e below s Q cs ss (T.setTop (mkF m pc Ls (.double x :: st))) :=
  Goes.st (fun _ q => XS.dstore X.here hx rfl hd rfl hl q) k
theorem glstore (X : Stand p l e R s m args below meth c T locs cells slots) (hx : p.tables.exec = Jvm.exec) {i : Nat} {x : Int64} {l' : Array Slot} (hd : decode c.code pc = .ok (.lstore i, 2)) (_ : True) (hl : storeLocals Ls i (.long x) = some l') (k : Goes p e below s Q cs ss (T.setTop (mkF m (pc + 2) l' st))) : Goes p e below s Q cs ss (T.setTop (mkF m pc Ls (.long x :: st))) :=
  Goes.st (fun _ q => XT.lstore X.here hx rfl hd rfl hl q) k
theorem gastoreN (X : Stand p l e R s m args below meth c T locs cells slots) (hx : p.tables.exec = Jvm.exec) {i : Fin 4} {x : Value} {l' : Array Slot} (hd : decode c.code pc = .ok (.astore_n i, 1)) (_ : True) (hv : x.isRef = true) (hl : storeLocals Ls i.val x = some l') (k : Goes p e below s Q cs ss (T.setTop (mkF m (pc + 1) l' st))) : Goes p e below s Q cs ss (T.setTop (mkF m pc Ls (x :: st))) :=
  Goes.st (fun _ q => XS.astoreN X.here hx rfl hd rfl hv hl q) k
theorem gastore (X : Stand p l e R s m args below meth c T locs cells slots) (hx : p.tables.exec = Jvm.exec) {i : Nat} {x : Value} {l' : Array Slot} (hd : decode c.code pc = .ok (.astore i, 2)) (_ : True) (hv : x.isRef = true) (hl : storeLocals Ls i x = some l') (k : Goes p e below s Q cs ss (T.setTop (mkF m (pc + 2) l' st))) : Goes p e below s Q cs ss (T.setTop (mkF m pc Ls (x :: st))) :=
  Goes.st (fun _ q => XS.astore X.here hx rfl hd rfl hv hl q) k
theorem ggoto (X : Stand p l e R s m args below meth c T locs cells slots) (hx : p.tables.exec = Jvm.exec) {o : Int} {pc' : Nat} (hd : decode c.code pc = .ok (.goto o, 3)) (ho : 0 ≤ (pc : Int) + o) (hp : ((pc : Int) + o).toNat = pc') (k : Goes p e below s Q cs ss (T.setTop (mkF m pc' Ls st))) : Goes p e below s Q cs ss (T.setTop (mkF m pc Ls st)) :=
  Goes.st (fun _ q => XS.goto X.here hx rfl rfl hd ho hp q) k
theorem gifYes (X : Stand p l e R s m args below meth c T locs cells slots) (hx : p.tables.exec = Jvm.exec) {cd : ClassFile.Cond} {o : Int} {x : Int32} {pc' : Nat} (hd : decode c.code pc = .ok (.ifCond cd o, 3)) (hc : ifCond.holds cd x = true) (ho : 0 ≤ (pc : Int) + o) (hp : ((pc : Int) + o).toNat = pc') (k : Goes p e below s Q cs ss (T.setTop (mkF m pc' Ls st))) : Goes p e below s Q cs ss (T.setTop (mkF m pc Ls (.int x :: st))) :=
  Goes.st (fun _ q => XS.ifYes X.here hx rfl rfl hd rfl hc ho hp q) k
theorem gifNo (X : Stand p l e R s m args below meth c T locs cells slots) (hx : p.tables.exec = Jvm.exec) {cd : ClassFile.Cond} {o : Int} {x : Int32} (hd : decode c.code pc = .ok (.ifCond cd o, 3)) (hc : ifCond.holds cd x = false) (k : Goes p e below s Q cs ss (T.setTop (mkF m (pc + 3) Ls st))) : Goes p e below s Q cs ss (T.setTop (mkF m pc Ls (.int x :: st))) :=
  Goes.st (fun _ q => XS.ifNo X.here hx rfl hd rfl hc q) k
theorem gicmpYes (X : Stand p l e R s m args below meth c T locs cells slots) (hx : p.tables.exec = Jvm.exec) {cd : ClassFile.Cond} {o : Int} {x y : Int32} {pc' : Nat} (hd : decode c.code pc = .ok (.if_icmp cd o, 3)) (hc : if_icmp.holds cd x y = true) (ho : 0 ≤ (pc : Int) + o) (hp : ((pc : Int) + o).toNat = pc') (k : Goes p e below s Q cs ss (T.setTop (mkF m pc' Ls st))) : Goes p e below s Q cs ss (T.setTop (mkF m pc Ls (.int y :: .int x :: st))) :=
  Goes.st (fun _ q => XS.icmpYes X.here hx rfl rfl hd rfl hc ho hp q) k
theorem gicmpNo (X : Stand p l e R s m args below meth c T locs cells slots) (hx : p.tables.exec = Jvm.exec) {cd : ClassFile.Cond} {o : Int} {x y : Int32} (hd : decode c.code pc = .ok (.if_icmp cd o, 3)) (hc : if_icmp.holds cd x y = false) (k : Goes p e below s Q cs ss (T.setTop (mkF m (pc + 3) Ls st))) : Goes p e below s Q cs ss (T.setTop (mkF m pc Ls (.int y :: .int x :: st))) :=
  Goes.st (fun _ q => XS.icmpNo X.here hx rfl hd rfl hc q) k
end OwnSteps
end Jvm.RoadKit
namespace Jvm.Pilot.@@N@@
open Jvm Jvm.ClassFile Sem Op Lib Jvm.Free Jvm.Stand Jvm.LawKit Jvm.RoadKit Bundle Jvm.Free.Fl Jvm.Pilot.@@N@@.Jvm.D
abbrev mN0 : MethodName := (⟨"java/util/Arrays", "fill", "([II)V"⟩ : MethodName)
abbrev mN1 : MethodName := (⟨"com/example/redoubt/redoubt/engine/IndexHeap", "<init>", "(I)V"⟩ : MethodName)
abbrev mN2 : MethodName := (⟨"java/lang/Double", "isNaN", "(D)Z"⟩ : MethodName)
abbrev mN3 : MethodName := (⟨"com/example/redoubt/redoubt/engine/IndexHeap", "requireTime", "(D)V"⟩ : MethodName)
abbrev mN4 : MethodName := (⟨"com/example/redoubt/redoubt/engine/IndexHeap", "requireNew", "(ID)V"⟩ : MethodName)
abbrev mN5 : MethodName := (⟨"com/example/redoubt/redoubt/engine/IndexHeap", "put", "(IID)V"⟩ : MethodName)
abbrev mN6 : MethodName := (⟨"com/example/redoubt/redoubt/engine/IndexHeap", "isBefore", "(DIDI)Z"⟩ : MethodName)
abbrev mN7 : MethodName := (⟨"com/example/redoubt/redoubt/engine/IndexHeap", "siftUp", "(IID)V"⟩ : MethodName)
abbrev mN8 : MethodName := (⟨"com/example/redoubt/redoubt/engine/IndexHeap", "siftDown", "(IID)V"⟩ : MethodName)
abbrev mN9 : MethodName := (⟨"com/example/redoubt/redoubt/engine/IndexHeap", "add", "(ID)V"⟩ : MethodName)
abbrev mN10 : MethodName := (⟨"com/example/redoubt/redoubt/engine/IndexHeap", "append", "(ID)V"⟩ : MethodName)
abbrev mN11 : MethodName := (⟨"com/example/redoubt/redoubt/engine/IndexHeapClearPinLaw", "put", "(Lcom/example/redoubt/redoubt/engine/IndexHeap;ZID)V"⟩ : MethodName)
abbrev mN12 : MethodName := (⟨"com/example/redoubt/redoubt/engine/IndexHeap", "order", "()V"⟩ : MethodName)
abbrev mN13 : MethodName := (⟨"com/example/redoubt/redoubt/engine/IndexHeap", "first", "()I"⟩ : MethodName)
abbrev mN14 : MethodName := (⟨"com/example/redoubt/redoubt/engine/IndexHeap", "removeAt", "(I)V"⟩ : MethodName)
abbrev mN15 : MethodName := (⟨"com/example/redoubt/redoubt/engine/IndexHeap", "poll", "()I"⟩ : MethodName)
abbrev mN16 : MethodName := (⟨"com/example/redoubt/redoubt/engine/IndexHeap", "clear", "()V"⟩ : MethodName)
abbrev mN17 : MethodName := (⟨"com/example/redoubt/redoubt/engine/IndexHeap", "size", "()I"⟩ : MethodName)
abbrev mN18 : MethodName := (⟨"com/example/redoubt/redoubt/engine/IndexHeap", "contains", "(I)Z"⟩ : MethodName)
abbrev mN19 : MethodName := (⟨"com/example/redoubt/redoubt/engine/IndexHeap", "indexAt", "(I)I"⟩ : MethodName)
def In4 (x : Int32) : Prop := x = 0 ∨ x = 1 ∨ x = 2 ∨ x = 3
theorem i4_0 : In4 0 := Or.inl rfl
theorem i4_1 : In4 1 := Or.inr (Or.inl rfl)
theorem i4_2 : In4 2 := Or.inr (Or.inr (Or.inl rfl))
theorem i4_3 : In4 3 := Or.inr (Or.inr (Or.inr rfl))
theorem own_in {x : Int32} (h : In4 x) : ¬ x < 0 ∧ x < 4 := by rcases h with rfl | rfl | rfl | rfl <;> decide
def upd {α : Type} (f : Int32 → α) (j : Int32) (x : α) : Int32 → α := fun i => if i = j then x else f i
def lst (f : Int32 → Int32) : List Value := [.int (f 0), .int (f 1), .int (f 2), .int (f 3)]
def dls (f : Int32 → UInt64) : List Value := [.double (f 0), .double (f 1), .double (f 2), .double (f 3)]
theorem get_lst {f : Int32 → Int32} {j : Int32} (h : In4 j) : (lst f).getD j.toNatClampNeg (.int (0 : Int32)) = .int (f j) := by rcases h with rfl | rfl | rfl | rfl <;> rfl
theorem get_dls {f : Int32 → UInt64} {j : Int32} (h : In4 j) : (dls f).getD j.toNatClampNeg (.double (0 : UInt64)) = .double (f j) := by rcases h with rfl | rfl | rfl | rfl <;> rfl
theorem set_lst {f : Int32 → Int32} {j x : Int32} (h : In4 j) : (lst f).set j.toNatClampNeg (.int x) = lst (upd f j x) := by rcases h with rfl | rfl | rfl | rfl <;> rfl
theorem set_dls {f : Int32 → UInt64} {j : Int32} {x : UInt64} (h : In4 j) : (dls f).set j.toNatClampNeg (.double x) = dls (upd f j x) := by rcases h with rfl | rfl | rfl | rfl <;> rfl
theorem lst_congr {f g : Int32 → Int32} (h : ∀ i, In4 i → f i = g i) : lst f = lst g := by simp only [lst, h 0 i4_0, h 1 i4_1, h 2 i4_2, h 3 i4_3]
theorem own_len {j : Int32} (h : In4 j) : j.toNatClampNeg < 4 := by rcases h with rfl | rfl | rfl | rfl <;> decide
section
variable {Z : State} {h h' : Heap} {a : Addr} {c : Cell} {k : ClassId} {j : Int32}
theorem setI {f : Int32 → Int32} {x : Int32} (A : Arr Z h a c .int) (q1 : c.cls = k) (S : c.slots.size = (4 : Int32).toNatClampNeg) (q3 : ¬ (4 : Int32) < 0) (Ha : Has c (lst f) (.int (0 : Int32))) (G : ∀ i, i < c.slots.size → fits .int ((lst f).getD i (.int (0 : Int32))) = true) (W : Wr h h' a j.toNatClampNeg (.int x)) (hj : In4 j) : Arv Z h' a k .int (4 : Int32) (lst (upd f j x)) (.int (0 : Int32)) := by
  rw [← set_lst hj]; exact Arv.set A q1 S q3 Ha G rfl W _ rfl (own_len hj)
theorem setD {f : Int32 → UInt64} {x : UInt64} (A : Arr Z h a c .double) (q1 : c.cls = k) (S : c.slots.size = (4 : Int32).toNatClampNeg) (q3 : ¬ (4 : Int32) < 0) (Ha : Has c (dls f) (.double (0 : UInt64))) (G : ∀ i, i < c.slots.size → fits .double ((dls f).getD i (.double (0 : UInt64))) = true) (W : Wr h h' a j.toNatClampNeg (.double x)) (hj : In4 j) : Arv Z h' a k .double (4 : Int32) (dls (upd f j x)) (.double (0 : UInt64)) := by
  rw [← set_dls hj]; exact Arv.set A q1 S q3 Ha G rfl W _ rfl (own_len hj)
end
/-- the four cells of a heap: new, and unlike one another -/
def HB (n0 : Nat) (a aI aT aP : Addr) : Prop := n0 ≤ a ∧ n0 ≤ aI ∧ n0 ≤ aT ∧ n0 ≤ aP ∧ a ≠ aI ∧ a ≠ aT ∧ a ≠ aP ∧ aI ≠ aT ∧ aI ≠ aP ∧ aT ≠ aP
/-- what the heap object holds -/
def HR (Z : State) (h : Heap) (a aI aT aP : Addr) (kI kT kP : ClassId) (I : Int32 → Int32) (D : Int32 → UInt64) (P : Int32 → Int32) (n o : Int32) : Prop :=
  Exa Z h a "com/example/redoubt/redoubt/engine/IndexHeap" ∧ Fld Z h a "com/example/redoubt/redoubt/engine/IndexHeap" "indices" "[I" (.ref aI) ∧ Fld Z h a "com/example/redoubt/redoubt/engine/IndexHeap" "times" "[D" (.ref aT) ∧ Fld Z h a "com/example/redoubt/redoubt/engine/IndexHeap" "positions" "[I" (.ref aP) ∧ Fld Z h a "com/example/redoubt/redoubt/engine/IndexHeap" "size" "I" (.int n) ∧ Fld Z h a "com/example/redoubt/redoubt/engine/IndexHeap" "ordered" "Z" (.int o) ∧
  Arv Z h aI kI .int (4 : Int32) (lst I) (.int (0 : Int32)) ∧ Arv Z h aT kT .double (4 : Int32) (dls D) (.double (0 : UInt64)) ∧ Arv Z h aP kP .int (4 : Int32) (lst P) (.int (0 : Int32))
/-- the first n indices are in S; a position that isn't -1 is one of theirs -/
def Inv (n : Int32) (S : Int32 → Prop) (I P : Int32 → Int32) : Prop :=
  (∀ j, In4 j → In4 (I j)) ∧ (∀ j, In4 j → j < n → S (I j)) ∧ ∀ i, In4 i → P i = -1 ∨ ∃ j, In4 j ∧ j < n ∧ I j = i
/-- the same with a hole at 'at', into which x will go -/
def Hol (n t x : Int32) (S : Int32 → Prop) (I P : Int32 → Int32) : Prop :=
  (∀ j, In4 j → In4 (I j)) ∧ (∀ j, In4 j → j < n → j ≠ t → S (I j)) ∧ ∀ i, In4 i → i ≠ x → P i = -1 ∨ ∃ j, In4 j ∧ j < n ∧ j ≠ t ∧ I j = i
theorem upd_hit {α : Type} {f : Int32 → α} {j : Int32} {x : α} : upd f j x j = x := if_pos rfl
theorem upd_miss {α : Type} {f : Int32 → α} {i j : Int32} {x : α} (h : i ≠ j) : upd f j x i = f i := if_neg h
theorem hol_move {n t x r : Int32} {S : Int32 → Prop} {I P : Int32 → Int32} (h : Hol n t x S I P) (hr : In4 r) (hrn : r < n) (hrt : r ≠ t) (ht : In4 t) (htn : t < n) : Hol n r x S (upd I t (I r)) (upd P (I r) t) := by
  refine ⟨fun j hj => ?_, fun j hj hn hjr => ?_, fun i hi hx => ?_⟩
  · by_cases q : j = t
    · subst q; rw [upd_hit]; exact h.1 r hr
    · rw [upd_miss q]; exact h.1 j hj
  · by_cases q : j = t
    · subst q; rw [upd_hit]; exact h.2.1 r hr hrn hrt
    · rw [upd_miss q]; exact h.2.1 j hj hn q
  · by_cases q : i = I r
    · exact Or.inr ⟨t, ht, htn, Ne.symm hrt, by rw [upd_hit, q]⟩
    · rw [upd_miss q]
      rcases h.2.2 i hi hx with u | ⟨j, u1, u2, u3, u4⟩
      · exact Or.inl u
      · exact Or.inr ⟨j, u1, u2, fun e => q (by rw [← u4, e]), by rw [upd_miss u3]; exact u4⟩
theorem hol_end {n t x : Int32} {S : Int32 → Prop} {I P : Int32 → Int32} (h : Hol n t x S I P) (ht : In4 t) (htn : t < n) (hx : In4 x) (hS : S x) : Inv n S (upd I t x) (upd P x t) := by
  refine ⟨fun j hj => ?_, fun j hj hn => ?_, fun i hi => ?_⟩
  · by_cases q : j = t
    · subst q; rw [upd_hit]; exact hx
    · rw [upd_miss q]; exact h.1 j hj
  · by_cases q : j = t
    · subst q; rw [upd_hit]; exact hS
    · rw [upd_miss q]; exact h.2.1 j hj hn q
  · by_cases q : i = x
    · exact Or.inr ⟨t, ht, htn, by rw [upd_hit, q]⟩
    · rw [upd_miss q]
      rcases h.2.2 i hi q with u | ⟨j, u1, u2, u3, u4⟩
      · exact Or.inl u
      · exact Or.inr ⟨j, u1, u2, by rw [upd_miss u3]; exact u4⟩
theorem hol_open {n t : Int32} {S : Int32 → Prop} {I P : Int32 → Int32} (h : Inv n S I P) : Hol n t (I t) S I P :=
  ⟨h.1, fun j hj hn _ => h.2.1 j hj hn, fun i hi hx => (h.2.2 i hi).imp id fun ⟨j, u1, u2, u3⟩ => ⟨j, u1, u2, fun e => hx (by rw [← u3, e]), u3⟩⟩
theorem hol_new {n n' x : Int32} {S : Int32 → Prop} {I P : Int32 → Int32} (h : Inv n S I P) (hn : ∀ j, In4 j → j < n → j < n') (hn2 : ∀ j, In4 j → j < n' → j ≠ n → j < n) (hne : ∀ j, j < n → j ≠ n) : Hol n' n x (fun i => S i ∨ i = x) I P :=
  ⟨h.1, fun j hj hj' hjn => Or.inl (h.2.1 j hj (hn2 j hj hj' hjn)), fun i hi _ => (h.2.2 i hi).imp id fun ⟨j, u1, u2, u3⟩ => ⟨j, u1, hn j u1 u2, hne j u2, u3⟩⟩
theorem inv_fresh {n x : Int32} {S : Int32 → Prop} {I P : Int32 → Int32} (h : Inv n S I P) (hx : In4 x) (hS : ¬ S x) : P x = -1 := by
  rcases h.2.2 x hx with u | ⟨j, u1, u2, u3⟩
  · exact u
  · exact absurd (u3 ▸ h.2.1 j u1 u2) hS
theorem hol_cut {n n' : Int32} {S : Int32 → Prop} {I P : Int32 → Int32} (h : Inv n S I P) (hn : ∀ j, In4 j → j < n' → j < n) (hn2 : ∀ j, In4 j → j < n → j ≠ n' → j < n') : Hol n' 0 (I n') S I (upd P (I 0) (-1)) :=
  ⟨h.1, fun j hj hj' _ => h.2.1 j hj (hn j hj hj'), fun i hi hx => by
    by_cases q : i = I 0
    · exact Or.inl (by rw [q, upd_hit])
    · rw [upd_miss q]
      exact (h.2.2 i hi).imp id fun ⟨j, u1, u2, u3⟩ => ⟨j, u1, hn2 j u1 u2 (fun e => hx (by rw [← u3, e])), fun e => q (by rw [← u3, e]), u3⟩⟩
theorem inv_last {S : Int32 → Prop} {I P : Int32 → Int32} (h : Inv 1 S I P) : Inv 0 S I (upd P (I 0) (-1)) :=
  ⟨h.1, fun j _ hj => h.2.1 j ‹_› (by rw [Int32.lt_iff_toInt_lt] at hj ⊢; have : (0 : Int32).toInt = 0 := by decide
                                      have : (1 : Int32).toInt = 1 := by decide
                                      omega), fun i hi => by
    by_cases q : i = I 0
    · exact Or.inl (by rw [q, upd_hit])
    · rw [upd_miss q]
      refine (h.2.2 i hi).imp id fun ⟨j, u1, u2, u3⟩ => absurd u3 ?_
      rcases u1 with rfl | rfl | rfl | rfl
      · exact fun e => q e.symm
      · exact absurd u2 (by decide)
      · exact absurd u2 (by decide)
      · exact absurd u2 (by decide)⟩
theorem own_ltt {a b n : Int32} (h : a < b) (h2 : b < n) : a < n := by rw [Int32.lt_iff_toInt_lt] at *; omega
theorem clr {P : Int32 → Int32} {i x : Int32} (h : P i = -1) : upd P x (-1) i = -1 := by
  by_cases q : i = x
  · subst q; exact upd_hit
  · rw [upd_miss q]; exact h
/-- what isBefore answers -/
def bef (ta : UInt64) (a : Int32) (tb : UInt64) (b : Int32) : Int32 := if cmpValue (FP.dcmp ta tb) .g < (0 : Int32) then 1 else if cmpValue (FP.dcmp ta tb) .l = (0 : Int32) then (if a < b then 1 else 0) else 0
theorem bef_c : ¬ bef FP.dconst0 1 FP.dconst1 3 = 0 := by decide +kernel
theorem nn0 : NoNaN64 FP.dconst0 := by unfold NoNaN64; decide +kernel
theorem nn1 : NoNaN64 FP.dconst1 := by unfold NoNaN64; decide +kernel
theorem dj65_103_0 : decode jdk_65_method_103_code 0 = .ok (.iconst 0, 1) := by decide +kernel
theorem dj65_103_1 : decode jdk_65_method_103_code 1 = .ok (.istore_n 2, 1) := by decide +kernel
theorem dj65_103_2 : decode jdk_65_method_103_code 2 = .ok (.aload_n 0, 1) := by decide +kernel
theorem dj65_103_3 : decode jdk_65_method_103_code 3 = .ok (.arraylength, 1) := by decide +kernel
theorem dj65_103_4 : decode jdk_65_method_103_code 4 = .ok (.istore_n 3, 1) := by decide +kernel
theorem dj65_103_5 : decode jdk_65_method_103_code 5 = .ok (.iload_n 2, 1) := by decide +kernel
theorem dj65_103_6 : decode jdk_65_method_103_code 6 = .ok (.iload_n 3, 1) := by decide +kernel
theorem dj65_103_7 : decode jdk_65_method_103_code 7 = .ok (.if_icmp .ge 13, 3) := by decide +kernel
theorem dj65_103_10 : decode jdk_65_method_103_code 10 = .ok (.aload_n 0, 1) := by decide +kernel
theorem dj65_103_11 : decode jdk_65_method_103_code 11 = .ok (.iload_n 2, 1) := by decide +kernel
theorem dj65_103_12 : decode jdk_65_method_103_code 12 = .ok (.iload_n 1, 1) := by decide +kernel
theorem dj65_103_13 : decode jdk_65_method_103_code 13 = .ok (.iastore, 1) := by decide +kernel
theorem dj65_103_14 : decode jdk_65_method_103_code 14 = .ok (.iinc 2 1, 3) := by decide +kernel
theorem dj65_103_17 : decode jdk_65_method_103_code 17 = .ok (.goto (-12), 3) := by decide +kernel
theorem dj65_103_20 : decode jdk_65_method_103_code 20 = .ok (.return_, 1) := by decide +kernel
theorem pn_java_util_Arrays : plainName "java/util/Arrays" = true := by first | (simp [plainName, overriddenIn]; done) | decide +kernel
theorem ef_Fi (m : MethodId) (x0 : Addr) (x1 : Int32) : entryFrame m #[(.ref x0), (.int x1)] 4 = mkF m 0 #[rv x0, iv x1, .unset, .unset] [] := by first | (simp [entryFrame, mkF, argsToLocals, Value.category]; done) | rfl
def QFi (Z : State) (aP : Addr) (x : Int32) (kP : ClassId) (f : Int32 → Int32) (h0 : Heap) (n0 : Nat) (v : Option Value) (h : Heap) (L : List Loc) : Prop := v = none ∧ Fr n0 L ∧ Keep h0 h [aP] ∧ Arv Z h aP kP .int (4 : Int32) (lst (fun _ => x)) (.int (0 : Int32))
set_option maxRecDepth 65536 in
set_option maxHeartbeats 40000000 in
theorem rmFi (l : Launch) (Z : State) (a0 : Array Value) (hw : ∀ d ∈ tables_1, d.before a0 Z = true) (ws : List Jvm.Cond) (aP : Addr) (x : Int32) (kP : ClassId) (f : Int32 → Int32) (h0 : Heap) (n0 : Nat) (Z0 : n0 ≤ h0.size) (lP : n0 ≤ aP) (VP : Arv Z h0 aP kP .int (4 : Int32) (lst f) (.int (0 : Int32))) :
    MetFree l mN0 (head1 (Jvm.Cond.code mN0 jdk_65_method_103_code 4 none :: ws) ({ frames := 0, cells := 0, slots := 0, locals := 0 } : Room)) (fun aa U => aa = #[(.ref aP), (.int x)] ∧ Z.Warmed39 U.vm ∧ U.heap = h0) (fun _ _ _ _ _ => True) (fun _ u1_ o_ u2_ => ∃ v_ l_, o_ = .returned v_ ∧ QFi Z aP x kP f h0 n0 v_ u2_.heap l_ ∧ FrameEnd u1_ o_ u2_ l_ ({ frames := 0, cells := 0, slots := 0, locals := 0 } : Room).cells ({ frames := 0, cells := 0, slots := 0, locals := 0 } : Room).slots) := by
  refine MetFree.of_bodySF (plainFor_of_name pn_java_util_Arrays) hisR ?_
  intro p e s m args below meth c s₁ Bd hml0 hP hK
  obtain ⟨rfl, hZ, hh⟩ := hP
  have hx := Bd.exec
  have hby := Bd.bytes
  have hlk := BodyLoose.notSynchronized Bd
  have hret := Bd.returns
  have hml : c.maxLocals = 4 := hml0
  have hown : s.vm.findClass "java/util/Arrays" = some m.cls := findClass_of_methodNamed Bd.named
  have hnm := (name_of_methodNamed Bd.named Bd.method).1
  have X0 : Stand p l e ({ frames := 0, cells := 0, slots := 0, locals := 0 } : Room) s m #[(.ref aP), (.int x)] below meth c s₁ [] 0 0 := Stand.of_body Bd
  have e0 : s₁.heap = h0 := by rw [← hh, Bd.state]; rfl
  have N0 := Fr.nil n0
  refine Goes.st (s := s) (Q := QFi Z aP x kP f h0 n0) (cs := ({ frames := 0, cells := 0, slots := 0, locals := 0 } : Room).cells) (ss := ({ frames := 0, cells := 0, slots := 0, locals := 0 } : Room).slots) (fun tg kg => castTop (ef_Fi m aP x) kg) ?_
  have K0 : Keep h0 h0 [aP] := Keep.refl _ _
  show Gs p e below s _ _ _ s₁ m 0 #[rv aP, iv x, .unset, .unset] []
  refine giconst X0 hx (hb hby dj65_103_0) ?_
  refine gistoreN X0 hx (hb hby dj65_103_1) trivial (l' := #[rv aP, iv x, iv (0 : Int32), .unset]) rfl ?_
  refine galoadN X0 hx (hb hby dj65_103_2) rfl rfl ?_
  show Gs p e below s _ _ _ s₁ m 3 #[rv aP, iv x, iv (0 : Int32), .unset] [(.ref aP)]
  obtain ⟨cl1, Ar1, qk1, Sz1, qz1, Ha1, Gf1⟩ := id VP
  refine Goes.st (fun tg kg => X0.arraylength hx (cell := cl1) (by rw [e0]; exact Ar1.1) (State.isArrayOf_alike hZ.alike Ar1.2.1) (g := (mkF m 3 #[rv aP, iv x, iv (0 : Int32), .unset] [(.ref aP)])) rfl (rest := []) rfl (hb hby dj65_103_3) tg kg) ?_
  rw [len_of Sz1 qz1]
  show Gs p e below s _ _ _ s₁ m 4 #[rv aP, iv x, iv (0 : Int32), .unset] [(.int (4 : Int32))]
  refine gistoreN X0 hx (hb hby dj65_103_4) trivial (l' := #[rv aP, iv x, iv (0 : Int32), iv (4 : Int32)]) rfl ?_
  refine giloadN X0 hx (hb hby dj65_103_5) rfl ?_
  refine giloadN X0 hx (hb hby dj65_103_6) rfl ?_
  show Gs p e below s _ _ _ s₁ m 7 #[rv aP, iv x, iv (0 : Int32), iv (4 : Int32)] [(.int (4 : Int32)), (.int (0 : Int32))]
  refine gicmpNo X0 hx (hb hby dj65_103_7) (by decide) ?_
  show Gs p e below s _ _ _ s₁ m 10 #[rv aP, iv x, iv (0 : Int32), iv (4 : Int32)] []
  refine galoadN X0 hx (hb hby dj65_103_10) rfl rfl ?_
  refine giloadN X0 hx (hb hby dj65_103_11) rfl ?_
  refine giloadN X0 hx (hb hby dj65_103_12) rfl ?_
  show Gs p e below s _ _ _ s₁ m 13 #[rv aP, iv x, iv (0 : Int32), iv (4 : Int32)] [(.int x), (.int (0 : Int32)), (.ref aP)]
  obtain ⟨cl2, Ar2, qk2, Sz2, qz2, Ha2, Gf2⟩ := id VP
  obtain ⟨T2, h2, X2, e2, W2, st2⟩ := stI X0 hx hZ e0 Ar2 (inb_of Sz2 ⟨by decide, by decide⟩) (g := (mkF m 13 #[rv aP, iv x, iv (0 : Int32), iv (4 : Int32)] [(.int x), (.int (0 : Int32)), (.ref aP)])) rfl rfl (hb hby dj65_103_13)
  have N2 := Fr.snoc X2 N0 lP
  have V2 : Arv Z h2 aP kP .int (4 : Int32) (lst (upd f (0 : Int32) x)) (.int (0 : Int32)) := setI Ar2 qk2 Sz2 qz2 Ha2 Gf2 W2 i4_0
  refine Goes.st st2 ?_
  have KK3 := K0.wr W2 (Or.inl (List.mem_of_getElem? (i := 0) rfl))
  have Z2 : n0 ≤ h2.size := by have := W2.size; have := Z0; omega
  show Gs p e below s _ _ _ T2 m 14 #[rv aP, iv x, iv (0 : Int32), iv (4 : Int32)] []
  refine Goes.st (fun tg kg => XS.iinc X2.here hx rfl (hb hby dj65_103_14) rfl (l' := #[rv aP, iv x, iv (1 : Int32), iv (4 : Int32)]) rfl kg) ?_
  show Gs p e below s _ _ _ T2 m 17 #[rv aP, iv x, iv (1 : Int32), iv (4 : Int32)] []
  refine ggoto X2 hx (pc' := 5) (hb hby dj65_103_17) (by decide) (by decide) ?_
  show Gs p e below s _ _ _ T2 m 5 #[rv aP, iv x, iv (1 : Int32), iv (4 : Int32)] []
  refine giloadN X2 hx (hb hby dj65_103_5) rfl ?_
  refine giloadN X2 hx (hb hby dj65_103_6) rfl ?_
  show Gs p e below s _ _ _ T2 m 7 #[rv aP, iv x, iv (1 : Int32), iv (4 : Int32)] [(.int (4 : Int32)), (.int (1 : Int32))]
  refine gicmpNo X2 hx (hb hby dj65_103_7) (by decide) ?_
  show Gs p e below s _ _ _ T2 m 10 #[rv aP, iv x, iv (1 : Int32), iv (4 : Int32)] []
  refine galoadN X2 hx (hb hby dj65_103_10) rfl rfl ?_
  refine giloadN X2 hx (hb hby dj65_103_11) rfl ?_
  refine giloadN X2 hx (hb hby dj65_103_12) rfl ?_
  show Gs p e below s _ _ _ T2 m 13 #[rv aP, iv x, iv (1 : Int32), iv (4 : Int32)] [(.int x), (.int (1 : Int32)), (.ref aP)]
  obtain ⟨cl4, Ar4, qk4, Sz4, qz4, Ha4, Gf4⟩ := id V2
  obtain ⟨T4, h4, X4, e4, W4, st4⟩ := stI X2 hx hZ e2 Ar4 (inb_of Sz4 ⟨by decide, by decide⟩) (g := (mkF m 13 #[rv aP, iv x, iv (1 : Int32), iv (4 : Int32)] [(.int x), (.int (1 : Int32)), (.ref aP)])) rfl rfl (hb hby dj65_103_13)
  have N4 := Fr.snoc X4 N2 lP
  have V4 : Arv Z h4 aP kP .int (4 : Int32) (lst (upd (upd f (0 : Int32) x) (1 : Int32) x)) (.int (0 : Int32)) := setI Ar4 qk4 Sz4 qz4 Ha4 Gf4 W4 i4_1
  refine Goes.st st4 ?_
  have KK5 := KK3.wr W4 (Or.inl (List.mem_of_getElem? (i := 0) rfl))
  have Z4 : n0 ≤ h4.size := by have := W4.size; have := Z2; omega
  show Gs p e below s _ _ _ T4 m 14 #[rv aP, iv x, iv (1 : Int32), iv (4 : Int32)] []
  refine Goes.st (fun tg kg => XS.iinc X4.here hx rfl (hb hby dj65_103_14) rfl (l' := #[rv aP, iv x, iv (2 : Int32), iv (4 : Int32)]) rfl kg) ?_
  show Gs p e below s _ _ _ T4 m 17 #[rv aP, iv x, iv (2 : Int32), iv (4 : Int32)] []
  refine ggoto X4 hx (pc' := 5) (hb hby dj65_103_17) (by decide) (by decide) ?_
  show Gs p e below s _ _ _ T4 m 5 #[rv aP, iv x, iv (2 : Int32), iv (4 : Int32)] []
  refine giloadN X4 hx (hb hby dj65_103_5) rfl ?_
  refine giloadN X4 hx (hb hby dj65_103_6) rfl ?_
  show Gs p e below s _ _ _ T4 m 7 #[rv aP, iv x, iv (2 : Int32), iv (4 : Int32)] [(.int (4 : Int32)), (.int (2 : Int32))]
  refine gicmpNo X4 hx (hb hby dj65_103_7) (by decide) ?_
  show Gs p e below s _ _ _ T4 m 10 #[rv aP, iv x, iv (2 : Int32), iv (4 : Int32)] []
  refine galoadN X4 hx (hb hby dj65_103_10) rfl rfl ?_
  refine giloadN X4 hx (hb hby dj65_103_11) rfl ?_
  refine giloadN X4 hx (hb hby dj65_103_12) rfl ?_
  show Gs p e below s _ _ _ T4 m 13 #[rv aP, iv x, iv (2 : Int32), iv (4 : Int32)] [(.int x), (.int (2 : Int32)), (.ref aP)]
  obtain ⟨cl6, Ar6, qk6, Sz6, qz6, Ha6, Gf6⟩ := id V4
  obtain ⟨T6, h6, X6, e6, W6, st6⟩ := stI X4 hx hZ e4 Ar6 (inb_of Sz6 ⟨by decide, by decide⟩) (g := (mkF m 13 #[rv aP, iv x, iv (2 : Int32), iv (4 : Int32)] [(.int x), (.int (2 : Int32)), (.ref aP)])) rfl rfl (hb hby dj65_103_13)
  have N6 := Fr.snoc X6 N4 lP
  have V6 : Arv Z h6 aP kP .int (4 : Int32) (lst (upd (upd (upd f (0 : Int32) x) (1 : Int32) x) (2 : Int32) x)) (.int (0 : Int32)) := setI Ar6 qk6 Sz6 qz6 Ha6 Gf6 W6 i4_2
  refine Goes.st st6 ?_
  have KK7 := KK5.wr W6 (Or.inl (List.mem_of_getElem? (i := 0) rfl))
  have Z6 : n0 ≤ h6.size := by have := W6.size; have := Z4; omega
  show Gs p e below s _ _ _ T6 m 14 #[rv aP, iv x, iv (2 : Int32), iv (4 : Int32)] []
  refine Goes.st (fun tg kg => XS.iinc X6.here hx rfl (hb hby dj65_103_14) rfl (l' := #[rv aP, iv x, iv (3 : Int32), iv (4 : Int32)]) rfl kg) ?_
  show Gs p e below s _ _ _ T6 m 17 #[rv aP, iv x, iv (3 : Int32), iv (4 : Int32)] []
  refine ggoto X6 hx (pc' := 5) (hb hby dj65_103_17) (by decide) (by decide) ?_
  show Gs p e below s _ _ _ T6 m 5 #[rv aP, iv x, iv (3 : Int32), iv (4 : Int32)] []
  refine giloadN X6 hx (hb hby dj65_103_5) rfl ?_
  refine giloadN X6 hx (hb hby dj65_103_6) rfl ?_
  show Gs p e below s _ _ _ T6 m 7 #[rv aP, iv x, iv (3 : Int32), iv (4 : Int32)] [(.int (4 : Int32)), (.int (3 : Int32))]
  refine gicmpNo X6 hx (hb hby dj65_103_7) (by decide) ?_
  show Gs p e below s _ _ _ T6 m 10 #[rv aP, iv x, iv (3 : Int32), iv (4 : Int32)] []
  refine galoadN X6 hx (hb hby dj65_103_10) rfl rfl ?_
  refine giloadN X6 hx (hb hby dj65_103_11) rfl ?_
  refine giloadN X6 hx (hb hby dj65_103_12) rfl ?_
  show Gs p e below s _ _ _ T6 m 13 #[rv aP, iv x, iv (3 : Int32), iv (4 : Int32)] [(.int x), (.int (3 : Int32)), (.ref aP)]
  obtain ⟨cl8, Ar8, qk8, Sz8, qz8, Ha8, Gf8⟩ := id V6
  obtain ⟨T8, h8, X8, e8, W8, st8⟩ := stI X6 hx hZ e6 Ar8 (inb_of Sz8 ⟨by decide, by decide⟩) (g := (mkF m 13 #[rv aP, iv x, iv (3 : Int32), iv (4 : Int32)] [(.int x), (.int (3 : Int32)), (.ref aP)])) rfl rfl (hb hby dj65_103_13)
  have N8 := Fr.snoc X8 N6 lP
  have V8 : Arv Z h8 aP kP .int (4 : Int32) (lst (upd (upd (upd (upd f (0 : Int32) x) (1 : Int32) x) (2 : Int32) x) (3 : Int32) x)) (.int (0 : Int32)) := setI Ar8 qk8 Sz8 qz8 Ha8 Gf8 W8 i4_3
  refine Goes.st st8 ?_
  have KK9 := KK7.wr W8 (Or.inl (List.mem_of_getElem? (i := 0) rfl))
  have Z8 : n0 ≤ h8.size := by have := W8.size; have := Z6; omega
  show Gs p e below s _ _ _ T8 m 14 #[rv aP, iv x, iv (3 : Int32), iv (4 : Int32)] []
  refine Goes.st (fun tg kg => XS.iinc X8.here hx rfl (hb hby dj65_103_14) rfl (l' := #[rv aP, iv x, iv (4 : Int32), iv (4 : Int32)]) rfl kg) ?_
  show Gs p e below s _ _ _ T8 m 17 #[rv aP, iv x, iv (4 : Int32), iv (4 : Int32)] []
  refine ggoto X8 hx (pc' := 5) (hb hby dj65_103_17) (by decide) (by decide) ?_
  show Gs p e below s _ _ _ T8 m 5 #[rv aP, iv x, iv (4 : Int32), iv (4 : Int32)] []
  refine giloadN X8 hx (hb hby dj65_103_5) rfl ?_
  refine giloadN X8 hx (hb hby dj65_103_6) rfl ?_
  show Gs p e below s _ _ _ T8 m 7 #[rv aP, iv x, iv (4 : Int32), iv (4 : Int32)] [(.int (4 : Int32)), (.int (4 : Int32))]
  refine gicmpYes X8 hx (pc' := 20) (hb hby dj65_103_7) (by decide) (by decide) (by decide) ?_
  show Gs p e below s _ _ _ T8 m 20 #[rv aP, iv x, iv (4 : Int32), iv (4 : Int32)] []
  refine Goes.retV X8 hx hlk hret (hb hby dj65_103_20) ?_ (by decide) (by decide)
  rw [e8]
  exact ⟨rfl, N8, KK9, by have q : lst (upd (upd (upd (upd f (0 : Int32) x) (1 : Int32) x) (2 : Int32) x) (3 : Int32) x) = lst (fun _ => x) := lst_congr (fun i hi => by rcases hi with rfl | rfl | rfl | rfl <;> rfl); rw [← q]; exact V8⟩
theorem dp23_1_0 : decode prog_23_method_1_code 0 = .ok (.aload_n 0, 1) := by decide +kernel
theorem dp23_1_1 : decode prog_23_method_1_code 1 = .ok (.invokespecial 1, 3) := by decide +kernel
theorem dp23_1_4 : decode prog_23_method_1_code 4 = .ok (.aload_n 0, 1) := by decide +kernel
theorem dp23_1_5 : decode prog_23_method_1_code 5 = .ok (.iconst 1, 1) := by decide +kernel
theorem dp23_1_6 : decode prog_23_method_1_code 6 = .ok (.putfield 7, 3) := by decide +kernel
theorem dp23_1_9 : decode prog_23_method_1_code 9 = .ok (.aload_n 0, 1) := by decide +kernel
theorem dp23_1_10 : decode prog_23_method_1_code 10 = .ok (.iload_n 1, 1) := by decide +kernel
theorem dp23_1_11 : decode prog_23_method_1_code 11 = .ok (.newarray .int, 2) := by decide +kernel
theorem dp23_1_13 : decode prog_23_method_1_code 13 = .ok (.putfield 13, 3) := by decide +kernel
theorem dp23_1_16 : decode prog_23_method_1_code 16 = .ok (.aload_n 0, 1) := by decide +kernel
theorem dp23_1_17 : decode prog_23_method_1_code 17 = .ok (.iload_n 1, 1) := by decide +kernel
theorem dp23_1_18 : decode prog_23_method_1_code 18 = .ok (.newarray .double, 2) := by decide +kernel
theorem dp23_1_20 : decode prog_23_method_1_code 20 = .ok (.putfield 17, 3) := by decide +kernel
theorem dp23_1_23 : decode prog_23_method_1_code 23 = .ok (.aload_n 0, 1) := by decide +kernel
theorem dp23_1_24 : decode prog_23_method_1_code 24 = .ok (.iload_n 1, 1) := by decide +kernel
theorem dp23_1_25 : decode prog_23_method_1_code 25 = .ok (.newarray .int, 2) := by decide +kernel
theorem dp23_1_27 : decode prog_23_method_1_code 27 = .ok (.putfield 21, 3) := by decide +kernel
theorem dp23_1_30 : decode prog_23_method_1_code 30 = .ok (.aload_n 0, 1) := by decide +kernel
theorem dp23_1_31 : decode prog_23_method_1_code 31 = .ok (.getfield 21, 3) := by decide +kernel
theorem dp23_1_34 : decode prog_23_method_1_code 34 = .ok (.iconst (-1), 1) := by decide +kernel
theorem dp23_1_35 : decode prog_23_method_1_code 35 = .ok (.invokestatic 24, 3) := by decide +kernel
theorem dp23_1_38 : decode prog_23_method_1_code 38 = .ok (.return_, 1) := by decide +kernel
theorem pn_com_example_redoubt_redoubt_engine_IndexHeap : plainName "com/example/redoubt/redoubt/engine/IndexHeap" = true := by first | (simp [plainName, overriddenIn]; done) | decide +kernel
theorem pd___II_V_f26 : parseMethodDescriptor "([II)V" = some ⟨[(.array .int), .int], none⟩ := by decide +kernel
theorem ef_In (m : MethodId) (x0 : Addr) (x1 : Int32) : entryFrame m #[(.ref x0), (.int x1)] 2 = mkF m 0 #[rv x0, iv x1] [] := by first | (simp [entryFrame, mkF, argsToLocals, Value.category]; done) | rfl
def QIn (Z : State) (a : Addr) (h0 : Heap) (n0 : Nat) (v : Option Value) (h : Heap) (L : List Loc) : Prop := ∃ (aI aT aP : Addr) (kI kT kP : ClassId), v = none ∧ Fr n0 L ∧ Keep h0 h [a] ∧ h0.size ≤ aI ∧ h0.size ≤ aT ∧ h0.size ≤ aP ∧ HB n0 a aI aT aP ∧ HR Z h a aI aT aP kI kT kP (fun _ => 0) (fun _ => 0) (fun _ => -1) 0 1
set_option maxRecDepth 65536 in
set_option maxHeartbeats 40000000 in
theorem rmIn (l : Launch) (Z : State) (a0 : Array Value) (hw : ∀ d ∈ tables_1, d.before a0 Z = true) (ws : List Jvm.Cond) (a : Addr) (h0 : Heap) (n0 : Nat) (Z0 : n0 ≤ h0.size) (Ea : Exa Z h0 a "com/example/redoubt/redoubt/engine/IndexHeap") (ga : n0 ≤ a) (Findices : Fld Z h0 a "com/example/redoubt/redoubt/engine/IndexHeap" "indices" "[I" .null) (Ftimes : Fld Z h0 a "com/example/redoubt/redoubt/engine/IndexHeap" "times" "[D" .null) (Fpositions : Fld Z h0 a "com/example/redoubt/redoubt/engine/IndexHeap" "positions" "[I" .null) (Fsize : Fld Z h0 a "com/example/redoubt/redoubt/engine/IndexHeap" "size" "I" (.int (0 : Int32))) (Fordered : Fld Z h0 a "com/example/redoubt/redoubt/engine/IndexHeap" "ordered" "Z" (.int (0 : Int32))) :
    MetFree l mN1 (head1 (Jvm.Cond.code mN1 prog_23_method_1_code 2 none :: ws) ({ frames := 1, cells := 3, slots := 12, locals := 15 } : Room)) (fun aa U => aa = #[(.ref a), (.int (4 : Int32))] ∧ Z.Warmed39 U.vm ∧ U.heap = h0) (fun _ _ _ _ _ => True) (fun _ u1_ o_ u2_ => ∃ v_ l_, o_ = .returned v_ ∧ QIn Z a h0 n0 v_ u2_.heap l_ ∧ FrameEnd u1_ o_ u2_ l_ ({ frames := 1, cells := 3, slots := 12, locals := 15 } : Room).cells ({ frames := 1, cells := 3, slots := 12, locals := 15 } : Room).slots) := by
  refine MetFree.of_bodySF (plainFor_of_name pn_com_example_redoubt_redoubt_engine_IndexHeap) hisR ?_
  intro p e s m args below meth c s₁ Bd hml0 hP hK
  obtain ⟨rfl, hZ, hh⟩ := hP
  have hx := Bd.exec
  have hby := Bd.bytes
  have hlk := BodyLoose.notSynchronized Bd
  have hret := Bd.returns
  have hml : c.maxLocals = 2 := hml0
  have hown : s.vm.findClass "com/example/redoubt/redoubt/engine/IndexHeap" = some m.cls := findClass_of_methodNamed Bd.named
  have hnm := (name_of_methodNamed Bd.named Bd.method).1
  have X0 : Stand p l e ({ frames := 1, cells := 3, slots := 12, locals := 15 } : Room) s m #[(.ref a), (.int (4 : Int32))] below meth c s₁ [] 0 0 := Stand.of_body Bd
  have e0 : s₁.heap = h0 := by rw [← hh, Bd.state]; rfl
  have N0 := Fr.nil n0
  refine Goes.st (s := s) (Q := QIn Z a h0 n0) (cs := ({ frames := 1, cells := 3, slots := 12, locals := 15 } : Room).cells) (ss := ({ frames := 1, cells := 3, slots := 12, locals := 15 } : Room).slots) (fun tg kg => castTop (ef_In m a (4 : Int32)) kg) ?_
  have K0 : Keep h0 h0 [a] := Keep.refl _ _
  show Gs p e below s _ _ _ s₁ m 0 #[rv a, iv (4 : Int32)] []
  refine galoadN X0 hx (hb hby dp23_1_0) rfl rfl ?_
  obtain ⟨T1, X1, e1, st1⟩ := initO X0 hx hZ hown (hwk hw 6 rfl) (hwk hw 7 rfl) (hwk hw 8 rfl) e0 (g := (mkF m 1 #[rv a, iv (4 : Int32)] [(.ref a)])) rfl (by rw [hml]; rfl) rfl (hb hby dp23_1_1) (by decide) (W := 0) (by show 2 * 0 + _ ≤ _; exact Nat.le_of_eq rfl) (by decide)
  refine Goes.st st1 ?_
  show Gs p e below s _ _ _ T1 m 4 #[rv a, iv (4 : Int32)] []
  refine galoadN X1 hx (hb hby dp23_1_4) rfl rfl ?_
  refine giconst X1 hx (hb hby dp23_1_5) ?_
  obtain ⟨T2, h2, X2, e2, W2, st2⟩ := putFN X1 hx hZ hown (hwk hw 9 rfl) Via.refl e1 Fordered Ea (Or.inl (hwk hw 10 rfl)) (hwk hw 1 rfl) (ty := .boolean) (v' := (.int (1 : Int32))) (by decide) rfl (by decide) (g := (mkF m 6 #[rv a, iv (4 : Int32)] [(.int (1 : Int32)), (.ref a)])) rfl rfl (hb hby dp23_1_6)
  have N2 := Fr.snoc X2 N0 ga
  have G2 := Fordered.same W2
  refine Goes.st st2 ?_
  have KK3 := K0.wr W2 (Or.inl (List.mem_of_getElem? (i := 0) rfl))
  have Z2 : n0 ≤ h2.size := by have := W2.size; have := Z0; omega
  show Gs p e below s _ _ _ T2 m 9 #[rv a, iv (4 : Int32)] []
  refine galoadN X2 hx (hb hby dp23_1_9) rfl rfl ?_
  refine giloadN X2 hx (hb hby dp23_1_10) rfl ?_
  obtain ⟨T4, h4, cA4, X4, e4, E4, A4, st4⟩ := newP X2 hx hZ (hwk hw 11 rfl) e2 (g := (mkF m 11 #[rv a, iv (4 : Int32)] [(.int (4 : Int32)), (.ref a)])) rfl (hb hby dp23_1_11) rfl (by decide) (cap := 4) (by decide) (by decide) (by decide) (by decide)
  obtain ⟨b4, g4⟩ : ∃ z, z = h2.size := ⟨_, rfl⟩
  rw [← g4] at A4 st4
  have f5 := (Ea.wr W2)
  have ne_a_b4 : a ≠ b4 := Nat.ne_of_lt (Nat.lt_of_lt_of_le f5.lt (Nat.le_of_eq g4.symm))
  have lo_b4 : n0 ≤ b4 := by have := Z2; omega
  have sz_b4 : h0.size ≤ b4 := by have := KK3.1; omega
  have KK6 := KK3.ext E4
  have V4 : Arv Z h4 b4 cA4 .int (4 : Int32) [(.int (0 : Int32)), (.int (0 : Int32)), (.int (0 : Int32)), (.int (0 : Int32))] (.int (0 : Int32)) := (Arv.new A4 (by decide)).pad (pad_rep [] _ 4)
  refine Goes.st st4 ?_
  have Z4 : n0 ≤ h4.size := Nat.le_trans Z2 E4.1
  show Gs p e below s _ _ _ T4 m 13 #[rv a, iv (4 : Int32)] [(.ref b4), (.ref a)]
  have f8 := ((Findices.other W2 (Or.inr (slot_ne (Or.inr (hwk hw 13 rfl)) (Or.inl (hwk hw 10 rfl)) (by decide) (t := (.array .int)) (t' := .boolean) (by decide) (by decide)))).ext E4)
  have f9 := (f5.ext E4)
  obtain ⟨T7, h7, X7, e7, W7, st7⟩ := putF X4 hx hZ hown (host := "") (Or.inl (hwk hw 12 rfl)) Via.refl e4 f8 f9 (Or.inr ⟨(hwk hw 13 rfl), rfl, hnm⟩) (hwk hw 1 rfl) (ty := (.array .int)) (by decide) rfl rfl (g := (mkF m 13 #[rv a, iv (4 : Int32)] [(.ref b4), (.ref a)])) rfl rfl (hb hby dp23_1_13)
  have N7 := Fr.snoc X7 N2 ga
  have G7 := f8.same W7
  refine Goes.st st7 ?_
  have KK10 := KK6.wr W7 (Or.inl (List.mem_of_getElem? (i := 0) rfl))
  have Z7 : n0 ≤ h7.size := by have := W7.size; have := Z4; omega
  show Gs p e below s _ _ _ T7 m 16 #[rv a, iv (4 : Int32)] []
  refine galoadN X7 hx (hb hby dp23_1_16) rfl rfl ?_
  refine giloadN X7 hx (hb hby dp23_1_17) rfl ?_
  obtain ⟨T11, h11, cA11, X11, e11, E11, A11, st11⟩ := newP X7 hx hZ (hwk hw 14 rfl) e7 (g := (mkF m 18 #[rv a, iv (4 : Int32)] [(.int (4 : Int32)), (.ref a)])) rfl (hb hby dp23_1_18) rfl (by decide) (cap := 4) (by decide) (by decide) (by decide) (by decide)
  obtain ⟨b11, g11⟩ : ∃ z, z = h7.size := ⟨_, rfl⟩
  rw [← g11] at A11 st11
  have f12 := (f9.wr W7)
  have ne_a_b11 : a ≠ b11 := Nat.ne_of_lt (Nat.lt_of_lt_of_le f12.lt (Nat.le_of_eq g11.symm))
  have f13 := (V4.other W7 (Ne.symm ne_a_b4))
  have ne_b4_b11 : b4 ≠ b11 := Nat.ne_of_lt (Nat.lt_of_lt_of_le f13.lt (Nat.le_of_eq g11.symm))
  have lo_b11 : n0 ≤ b11 := by have := Z7; omega
  have sz_b11 : h0.size ≤ b11 := by have := KK10.1; omega
  have KK14 := KK10.ext E11
  have V11 : Arv Z h11 b11 cA11 .double (4 : Int32) [(.double (0 : UInt64)), (.double (0 : UInt64)), (.double (0 : UInt64)), (.double (0 : UInt64))] (.double (0 : UInt64)) := (Arv.new A11 (by decide)).pad (pad_rep [] _ 4)
  refine Goes.st st11 ?_
  have Z11 : n0 ≤ h11.size := Nat.le_trans Z7 E11.1
  show Gs p e below s _ _ _ T11 m 20 #[rv a, iv (4 : Int32)] [(.ref b11), (.ref a)]
  have f16 := ((((Ftimes.other W2 (Or.inr (slot_ne (Or.inr (hwk hw 16 rfl)) (Or.inl (hwk hw 10 rfl)) (by decide) (t := (.array .double)) (t' := .boolean) (by decide) (by decide)))).ext E4).other W7 (Or.inr (slot_ne (Or.inr (hwk hw 16 rfl)) (Or.inr (hwk hw 13 rfl)) (by decide) (t := (.array .double)) (t' := (.array .int)) (by decide) (by decide)))).ext E11)
  have f17 := (f12.ext E11)
  obtain ⟨T15, h15, X15, e15, W15, st15⟩ := putF X11 hx hZ hown (host := "") (Or.inl (hwk hw 15 rfl)) Via.refl e11 f16 f17 (Or.inr ⟨(hwk hw 16 rfl), rfl, hnm⟩) (hwk hw 1 rfl) (ty := (.array .double)) (by decide) rfl rfl (g := (mkF m 20 #[rv a, iv (4 : Int32)] [(.ref b11), (.ref a)])) rfl rfl (hb hby dp23_1_20)
  have N15 := Fr.snoc X15 N7 ga
  have G15 := f16.same W15
  refine Goes.st st15 ?_
  have KK18 := KK14.wr W15 (Or.inl (List.mem_of_getElem? (i := 0) rfl))
  have Z15 : n0 ≤ h15.size := by have := W15.size; have := Z11; omega
  show Gs p e below s _ _ _ T15 m 23 #[rv a, iv (4 : Int32)] []
  refine galoadN X15 hx (hb hby dp23_1_23) rfl rfl ?_
  refine giloadN X15 hx (hb hby dp23_1_24) rfl ?_
  obtain ⟨T19, h19, cA19, X19, e19, E19, A19, st19⟩ := newP X15 hx hZ (hwk hw 11 rfl) e15 (g := (mkF m 25 #[rv a, iv (4 : Int32)] [(.int (4 : Int32)), (.ref a)])) rfl (hb hby dp23_1_25) rfl (by decide) (cap := 4) (by decide) (by decide) (by decide) (by decide)
  obtain ⟨b19, g19⟩ : ∃ z, z = h15.size := ⟨_, rfl⟩
  rw [← g19] at A19 st19
  have f20 := (f17.wr W15)
  have ne_a_b19 : a ≠ b19 := Nat.ne_of_lt (Nat.lt_of_lt_of_le f20.lt (Nat.le_of_eq g19.symm))
  have f21 := ((f13.ext E11).other W15 (Ne.symm ne_a_b4))
  have ne_b4_b19 : b4 ≠ b19 := Nat.ne_of_lt (Nat.lt_of_lt_of_le f21.lt (Nat.le_of_eq g19.symm))
  have f22 := (V11.other W15 (Ne.symm ne_a_b11))
  have ne_b11_b19 : b11 ≠ b19 := Nat.ne_of_lt (Nat.lt_of_lt_of_le f22.lt (Nat.le_of_eq g19.symm))
  have lo_b19 : n0 ≤ b19 := by have := Z15; omega
  have sz_b19 : h0.size ≤ b19 := by have := KK18.1; omega
  have KK23 := KK18.ext E19
  have V19 : Arv Z h19 b19 cA19 .int (4 : Int32) [(.int (0 : Int32)), (.int (0 : Int32)), (.int (0 : Int32)), (.int (0 : Int32))] (.int (0 : Int32)) := (Arv.new A19 (by decide)).pad (pad_rep [] _ 4)
  refine Goes.st st19 ?_
  have Z19 : n0 ≤ h19.size := Nat.le_trans Z15 E19.1
  show Gs p e below s _ _ _ T19 m 27 #[rv a, iv (4 : Int32)] [(.ref b19), (.ref a)]
  have f25 := ((((((Fpositions.other W2 (Or.inr (slot_ne (Or.inr (hwk hw 18 rfl)) (Or.inl (hwk hw 10 rfl)) (by decide) (t := (.array .int)) (t' := .boolean) (by decide) (by decide)))).ext E4).other W7 (Or.inr (slot_ne (Or.inr (hwk hw 18 rfl)) (Or.inr (hwk hw 13 rfl)) (by decide) (t := (.array .int)) (t' := (.array .int)) (by decide) (by decide)))).ext E11).other W15 (Or.inr (slot_ne (Or.inr (hwk hw 18 rfl)) (Or.inr (hwk hw 16 rfl)) (by decide) (t := (.array .int)) (t' := (.array .double)) (by decide) (by decide)))).ext E19)
  have f26 := (f20.ext E19)
  obtain ⟨T24, h24, X24, e24, W24, st24⟩ := putF X19 hx hZ hown (host := "") (Or.inl (hwk hw 17 rfl)) Via.refl e19 f25 f26 (Or.inr ⟨(hwk hw 18 rfl), rfl, hnm⟩) (hwk hw 1 rfl) (ty := (.array .int)) (by decide) rfl rfl (g := (mkF m 27 #[rv a, iv (4 : Int32)] [(.ref b19), (.ref a)])) rfl rfl (hb hby dp23_1_27)
  have N24 := Fr.snoc X24 N15 ga
  have G24 := f25.same W24
  refine Goes.st st24 ?_
  have KK27 := KK23.wr W24 (Or.inl (List.mem_of_getElem? (i := 0) rfl))
  have Z24 : n0 ≤ h24.size := by have := W24.size; have := Z19; omega
  show Gs p e below s _ _ _ T24 m 30 #[rv a, iv (4 : Int32)] []
  refine galoadN X24 hx (hb hby dp23_1_30) rfl rfl ?_
  obtain ⟨T28, X28, e28, st28⟩ := getF X24 hx hZ hown (host := "") (Or.inl (hwk hw 17 rfl)) Via.refl e24 G24 (g := (mkF m 31 #[rv a, iv (4 : Int32)] [(.ref a)])) rfl rfl (hb hby dp23_1_31)
  refine Goes.st st28 ?_
  refine giconst X28 hx (hb hby dp23_1_34) ?_
  have f29 := (V19.other W24 (Ne.symm ne_a_b19))
  have VF30 : Arv Z h24 b19 cA19 .int (4 : Int32) (lst (fun _ => 0)) (.int (0 : Int32)) := f29
  obtain ⟨_, _, ⟨T31, L31, k31, n31⟩, -, X31, ⟨Lc31, hQ31, l31, y31, z31⟩, st31⟩ := Jvm.LawKit.callS X28 hx (y := mN0) hown (mvT hZ (hwk hw 19 rfl)) (mvT hZ (hwk hw 20 rfl)) (mvT hZ (hwk hw 21 rfl)) (mvT hZ (hwk hw 22 rfl)) (by decide) (backOf (W := 0) (rmFi l Z a0 hw [] b19 (-1 : Int32) cA19 (fun _ => 0) h24 n0 Z24 lo_b19 VF30) hZ (hwk hw 22 rfl) (hwk hw 21 rfl) (by decide) (by decide)) (g := (mkF m 35 #[rv a, iv (4 : Int32)] [(.int (-1 : Int32)), (.ref b19)])) rfl (by rw [hml]; rfl) (argsL := [(.ref b19), (.int (-1 : Int32))]) (rest := []) (lenOf pd___II_V_f26 rfl) rfl (by show 2 * 0 + _ ≤ _; exact Nat.le_of_eq rfl) (hb hby dp23_1_35) (fun _ _ => ⟨rfl, e28, (by decide : 3 + 0 ≤ 3), (by decide : 12 + 0 ≤ 12)⟩)
  dsimp only [Pt.U, Pt.locs, Pt.cells, Pt.slots] at X31 l31 y31 z31 st31 hQ31
  subst l31 y31 z31
  obtain ⟨rfl, N31q, K31, VG31⟩ := hQ31
  have KK32 := KK27.trans K31 (allS (Or.inr sz_b19) all0)
  have Z31 : n0 ≤ T31.heap.size := Nat.le_trans Z24 K31.1
  have N31 := Fr.app N24 N31q
  refine Goes.st st31 ?_
  show Gs p e below s _ _ _ T31 m 38 #[rv a, iv (4 : Int32)] []
  have f33 := ((f26.wr W24).keep K31)
  have f34 := (((((G7.ext E11).other W15 (Or.inr (slot_ne (Or.inr (hwk hw 13 rfl)) (Or.inr (hwk hw 16 rfl)) (by decide) (t := (.array .int)) (t' := (.array .double)) (by decide) (by decide)))).ext E19).other W24 (Or.inr (slot_ne (Or.inr (hwk hw 13 rfl)) (Or.inr (hwk hw 18 rfl)) (by decide) (t := (.array .int)) (t' := (.array .int)) (by decide) (by decide)))).keep K31 (ninS ne_a_b19 nin0))
  have f35 := (((G15.ext E19).other W24 (Or.inr (slot_ne (Or.inr (hwk hw 16 rfl)) (Or.inr (hwk hw 18 rfl)) (by decide) (t := (.array .double)) (t' := (.array .int)) (by decide) (by decide)))).keep K31 (ninS ne_a_b19 nin0))
  have f36 := (G24.keep K31 (ninS ne_a_b19 nin0))
  have f37 := ((((((((Fsize.other W2 (Or.inr (slot_ne (Or.inl (hwk hw 30 rfl)) (Or.inl (hwk hw 10 rfl)) (by decide) (t := .int) (t' := .boolean) (by decide) (by decide)))).ext E4).other W7 (Or.inr (slot_ne (Or.inl (hwk hw 30 rfl)) (Or.inr (hwk hw 13 rfl)) (by decide) (t := .int) (t' := (.array .int)) (by decide) (by decide)))).ext E11).other W15 (Or.inr (slot_ne (Or.inl (hwk hw 30 rfl)) (Or.inr (hwk hw 16 rfl)) (by decide) (t := .int) (t' := (.array .double)) (by decide) (by decide)))).ext E19).other W24 (Or.inr (slot_ne (Or.inl (hwk hw 30 rfl)) (Or.inr (hwk hw 18 rfl)) (by decide) (t := .int) (t' := (.array .int)) (by decide) (by decide)))).keep K31 (ninS ne_a_b19 nin0))
  have f38 := (((((((G2.ext E4).other W7 (Or.inr (slot_ne (Or.inl (hwk hw 10 rfl)) (Or.inr (hwk hw 13 rfl)) (by decide) (t := .boolean) (t' := (.array .int)) (by decide) (by decide)))).ext E11).other W15 (Or.inr (slot_ne (Or.inl (hwk hw 10 rfl)) (Or.inr (hwk hw 16 rfl)) (by decide) (t := .boolean) (t' := (.array .double)) (by decide) (by decide)))).ext E19).other W24 (Or.inr (slot_ne (Or.inl (hwk hw 10 rfl)) (Or.inr (hwk hw 18 rfl)) (by decide) (t := .boolean) (t' := (.array .int)) (by decide) (by decide)))).keep K31 (ninS ne_a_b19 nin0))
  have f39 := (((f21.ext E19).other W24 (Ne.symm ne_a_b4)).keep K31 (ninS ne_b4_b19 nin0))
  have f40 := (((f22.ext E19).other W24 (Ne.symm ne_a_b11)).keep K31 (ninS ne_b11_b19 nin0))
  refine Goes.retV X31 hx hlk hret (hb hby dp23_1_38) ?_ (by decide) (by decide)
  exact ⟨b4, b11, b19, cA4, cA11, cA19, rfl, N31, KK32, sz_b4, sz_b11, sz_b19, ⟨ga, lo_b4, lo_b11, lo_b19, ne_a_b4, ne_a_b11, ne_a_b19, ne_b4_b11, ne_b4_b19, ne_b11_b19⟩, f33, f34, f35, f36, f37, f38, f39, f40, VG31⟩
theorem dj117_6_0 : decode jdk_117_method_6_code 0 = .ok (.dload_n 0, 1) := by decide +kernel
theorem dj117_6_1 : decode jdk_117_method_6_code 1 = .ok (.dload_n 0, 1) := by decide +kernel
theorem dj117_6_2 : decode jdk_117_method_6_code 2 = .ok (.dcmp .l, 1) := by decide +kernel
theorem dj117_6_3 : decode jdk_117_method_6_code 3 = .ok (.ifCond .eq 7, 3) := by decide +kernel
theorem dj117_6_6 : decode jdk_117_method_6_code 6 = .ok (.iconst 1, 1) := by decide +kernel
theorem dj117_6_7 : decode jdk_117_method_6_code 7 = .ok (.goto 4, 3) := by decide +kernel
theorem dj117_6_10 : decode jdk_117_method_6_code 10 = .ok (.iconst 0, 1) := by decide +kernel
theorem dj117_6_11 : decode jdk_117_method_6_code 11 = .ok (.ireturn, 1) := by decide +kernel
theorem pn_java_lang_Double : plainName "java/lang/Double" = true := by first | (simp [plainName, overriddenIn]; done) | decide +kernel
theorem ef_Na (m : MethodId) (x0 : UInt64) : entryFrame m #[(.double x0)] 2 = mkF m 0 #[.val (.double x0), .second] [] := by first | (simp [entryFrame, mkF, argsToLocals, Value.category]; done) | rfl
def QNa (Z : State) (t : UInt64) (h0 : Heap) (n0 : Nat) (v : Option Value) (h : Heap) (L : List Loc) : Prop := v = some (.int 0) ∧ Fr n0 L ∧ h = h0
set_option maxRecDepth 65536 in
set_option maxHeartbeats 40000000 in
theorem rmNa (l : Launch) (Z : State) (a0 : Array Value) (hw : ∀ d ∈ tables_1, d.before a0 Z = true) (ws : List Jvm.Cond) (t : UInt64) (h0 : Heap) (n0 : Nat) (Z0 : n0 ≤ h0.size) (ht : NoNaN64 t) :
    MetFree l mN2 (head1 (Jvm.Cond.code mN2 jdk_117_method_6_code 2 (some .boolean) :: ws) ({ frames := 0, cells := 0, slots := 0, locals := 0 } : Room)) (fun aa U => aa = #[(.double t)] ∧ Z.Warmed39 U.vm ∧ U.heap = h0) (fun _ _ _ _ _ => True) (fun _ u1_ o_ u2_ => ∃ v_ l_, o_ = .returned v_ ∧ QNa Z t h0 n0 v_ u2_.heap l_ ∧ FrameEnd u1_ o_ u2_ l_ ({ frames := 0, cells := 0, slots := 0, locals := 0 } : Room).cells ({ frames := 0, cells := 0, slots := 0, locals := 0 } : Room).slots) := by
  refine MetFree.of_bodySF (plainFor_of_name pn_java_lang_Double) hisR ?_
  intro p e s m args below meth c s₁ Bd hml0 hP hK
  obtain ⟨rfl, hZ, hh⟩ := hP
  have hx := Bd.exec
  have hby := Bd.bytes
  have hlk := BodyLoose.notSynchronized Bd
  have hret := Bd.returns
  have hml : c.maxLocals = 2 := hml0
  have hown : s.vm.findClass "java/lang/Double" = some m.cls := findClass_of_methodNamed Bd.named
  have hnm := (name_of_methodNamed Bd.named Bd.method).1
  have X0 : Stand p l e ({ frames := 0, cells := 0, slots := 0, locals := 0 } : Room) s m #[(.double t)] below meth c s₁ [] 0 0 := Stand.of_body Bd
  have e0 : s₁.heap = h0 := by rw [← hh, Bd.state]; rfl
  have N0 := Fr.nil n0
  refine Goes.st (s := s) (Q := QNa Z t h0 n0) (cs := ({ frames := 0, cells := 0, slots := 0, locals := 0 } : Room).cells) (ss := ({ frames := 0, cells := 0, slots := 0, locals := 0 } : Room).slots) (fun tg kg => castTop (ef_Na m t) kg) ?_
  show Gs p e below s _ _ _ s₁ m 0 #[.val (.double t), .second] []
  refine gdloadN X0 hx (hb hby dj117_6_0) rfl ?_
  refine gdloadN X0 hx (hb hby dj117_6_1) rfl ?_
  refine Goes.st (fun tg kg => XS.dcmpS X0.here hx rfl (hb hby dj117_6_2) rfl (v := (cmpValue (FP.dcmp t t) .l)) rfl kg) ?_
  show Gs p e below s _ _ _ s₁ m 3 #[.val (.double t), .second] [(.int (cmpValue (FP.dcmp t t) .l))]
  refine gifYes X0 hx (pc' := 10) (hb hby dj117_6_3) ((if0 _ _).trans (teq (dcmpV_self ht _)).1) (by decide) (by decide) ?_
  show Gs p e below s _ _ _ s₁ m 10 #[.val (.double t), .second] []
  refine giconst X0 hx (hb hby dj117_6_10) ?_
  show Gs p e below s _ _ _ s₁ m 11 #[.val (.double t), .second] [(.int (0 : Int32))]
  refine Goes.retN X0 hx hlk hret (by simp) (hb hby dj117_6_11) (by decide) ?_ (by decide) (by decide)
  rw [e0]
  exact ⟨rfl, N0, rfl⟩
theorem dp23_27_0 : decode prog_23_method_27_code 0 = .ok (.dload_n 0, 1) := by decide +kernel
theorem dp23_27_1 : decode prog_23_method_27_code 1 = .ok (.invokestatic 103, 3) := by decide +kernel
theorem dp23_27_4 : decode prog_23_method_27_code 4 = .ok (.ifCond .eq 13, 3) := by decide +kernel
theorem dp23_27_7 : decode prog_23_method_27_code 7 = .ok (.new 107, 3) := by decide +kernel
theorem dp23_27_10 : decode prog_23_method_27_code 10 = .ok (.dup, 1) := by decide +kernel
theorem dp23_27_11 : decode prog_23_method_27_code 11 = .ok (.ldc 109, 2) := by decide +kernel
theorem dp23_27_13 : decode prog_23_method_27_code 13 = .ok (.invokespecial 111, 3) := by decide +kernel
theorem dp23_27_16 : decode prog_23_method_27_code 16 = .ok (.athrow, 1) := by decide +kernel
theorem dp23_27_17 : decode prog_23_method_27_code 17 = .ok (.return_, 1) := by decide +kernel
theorem pd__D_Z_82d : parseMethodDescriptor "(D)Z" = some ⟨[.double], some .boolean⟩ := by decide +kernel
theorem ef_Ti (m : MethodId) (x0 : UInt64) : entryFrame m #[(.double x0)] 2 = mkF m 0 #[.val (.double x0), .second] [] := by first | (simp [entryFrame, mkF, argsToLocals, Value.category]; done) | rfl
def QTi (Z : State) (t : UInt64) (h0 : Heap) (n0 : Nat) (v : Option Value) (h : Heap) (L : List Loc) : Prop := v = none ∧ Fr n0 L ∧ h = h0
set_option maxRecDepth 65536 in
set_option maxHeartbeats 40000000 in
theorem rmTi (l : Launch) (Z : State) (a0 : Array Value) (hw : ∀ d ∈ tables_1, d.before a0 Z = true) (ws : List Jvm.Cond) (t : UInt64) (h0 : Heap) (n0 : Nat) (Z0 : n0 ≤ h0.size) (ht : NoNaN64 t) :
    MetFree l mN3 (head1 (Jvm.Cond.code mN3 prog_23_method_27_code 2 none :: ws) ({ frames := 1, cells := 0, slots := 0, locals := 13 } : Room)) (fun aa U => aa = #[(.double t)] ∧ Z.Warmed39 U.vm ∧ U.heap = h0) (fun _ _ _ _ _ => True) (fun _ u1_ o_ u2_ => ∃ v_ l_, o_ = .returned v_ ∧ QTi Z t h0 n0 v_ u2_.heap l_ ∧ FrameEnd u1_ o_ u2_ l_ ({ frames := 1, cells := 0, slots := 0, locals := 13 } : Room).cells ({ frames := 1, cells := 0, slots := 0, locals := 13 } : Room).slots) := by
  refine MetFree.of_bodySF (plainFor_of_name pn_com_example_redoubt_redoubt_engine_IndexHeap) hisR ?_
  intro p e s m args below meth c s₁ Bd hml0 hP hK
  obtain ⟨rfl, hZ, hh⟩ := hP
  have hx := Bd.exec
  have hby := Bd.bytes
  have hlk := BodyLoose.notSynchronized Bd
  have hret := Bd.returns
  have hml : c.maxLocals = 2 := hml0
  have hown : s.vm.findClass "com/example/redoubt/redoubt/engine/IndexHeap" = some m.cls := findClass_of_methodNamed Bd.named
  have hnm := (name_of_methodNamed Bd.named Bd.method).1
  have X0 : Stand p l e ({ frames := 1, cells := 0, slots := 0, locals := 13 } : Room) s m #[(.double t)] below meth c s₁ [] 0 0 := Stand.of_body Bd
  have e0 : s₁.heap = h0 := by rw [← hh, Bd.state]; rfl
  have N0 := Fr.nil n0
  refine Goes.st (s := s) (Q := QTi Z t h0 n0) (cs := ({ frames := 1, cells := 0, slots := 0, locals := 13 } : Room).cells) (ss := ({ frames := 1, cells := 0, slots := 0, locals := 13 } : Room).slots) (fun tg kg => castTop (ef_Ti m t) kg) ?_
  show Gs p e below s _ _ _ s₁ m 0 #[.val (.double t), .second] []
  refine gdloadN X0 hx (hb hby dp23_27_0) rfl ?_
  obtain ⟨_, _, ⟨T1, L1, k1, n1⟩, -, X1, ⟨Lc1, hQ1, l1, y1, z1⟩, st1⟩ := Jvm.LawKit.callS X0 hx (y := mN2) hown (mvT hZ (hwk hw 57 rfl)) (mvT hZ (hwk hw 58 rfl)) (mvT hZ (hwk hw 59 rfl)) (mvT hZ (hwk hw 60 rfl)) (by decide) (backOf (W := 0) (rmNa l Z a0 hw [] t h0 n0 Z0 ht) hZ (hwk hw 60 rfl) (hwk hw 59 rfl) (by decide) (by decide)) (g := (mkF m 1 #[.val (.double t), .second] [(.double t)])) rfl (by rw [hml]; rfl) (argsL := [(.double t)]) (rest := []) (lenOf pd__D_Z_82d rfl) rfl (by show 2 * 0 + _ ≤ _; exact Nat.le_of_eq rfl) (hb hby dp23_27_1) (fun _ _ => ⟨rfl, e0, (by decide : 0 + 0 ≤ 0), (by decide : 0 + 0 ≤ 0)⟩)
  dsimp only [Pt.U, Pt.locs, Pt.cells, Pt.slots] at X1 l1 y1 z1 st1 hQ1
  subst l1 y1 z1
  obtain ⟨rfl, N1q, eh1⟩ := hQ1
  have N1 := Fr.app N0 N1q
  refine Goes.st st1 ?_
  show Gs p e below s _ _ _ T1 m 4 #[.val (.double t), .second] [(.int (0 : Int32))]
  refine gifYes X1 hx (pc' := 17) (hb hby dp23_27_4) (by decide) (by decide) (by decide) ?_
  show Gs p e below s _ _ _ T1 m 17 #[.val (.double t), .second] []
  refine Goes.retV X1 hx hlk hret (hb hby dp23_27_17) ?_ (by decide) (by decide)
  rw [eh1]
  exact ⟨rfl, N1, rfl⟩
theorem dp23_26_0 : decode prog_23_method_26_code 0 = .ok (.aload_n 0, 1) := by decide +kernel
theorem dp23_26_1 : decode prog_23_method_26_code 1 = .ok (.getfield 21, 3) := by decide +kernel
theorem dp23_26_4 : decode prog_23_method_26_code 4 = .ok (.iload_n 1, 1) := by decide +kernel
theorem dp23_26_5 : decode prog_23_method_26_code 5 = .ok (.iaload, 1) := by decide +kernel
theorem dp23_26_6 : decode prog_23_method_26_code 6 = .ok (.ifCond .lt 17, 3) := by decide +kernel
theorem dp23_26_9 : decode prog_23_method_26_code 9 = .ok (.new 95, 3) := by decide +kernel
theorem dp23_26_12 : decode prog_23_method_26_code 12 = .ok (.dup, 1) := by decide +kernel
theorem dp23_26_13 : decode prog_23_method_26_code 13 = .ok (.iload_n 1, 1) := by decide +kernel
theorem dp23_26_14 : decode prog_23_method_26_code 14 = .ok (.invokedynamic 102, 5) := by decide +kernel
theorem dp23_26_19 : decode prog_23_method_26_code 19 = .ok (.invokespecial 101, 3) := by decide +kernel
theorem dp23_26_22 : decode prog_23_method_26_code 22 = .ok (.athrow, 1) := by decide +kernel
theorem dp23_26_23 : decode prog_23_method_26_code 23 = .ok (.dload_n 2, 1) := by decide +kernel
theorem dp23_26_24 : decode prog_23_method_26_code 24 = .ok (.invokestatic 75, 3) := by decide +kernel
theorem dp23_26_27 : decode prog_23_method_26_code 27 = .ok (.return_, 1) := by decide +kernel
theorem pd__D_V_805 : parseMethodDescriptor "(D)V" = some ⟨[.double], none⟩ := by decide +kernel
theorem ef_Rn (m : MethodId) (x0 : Addr) (x1 : Int32) (x2 : UInt64) : entryFrame m #[(.ref x0), (.int x1), (.double x2)] 4 = mkF m 0 #[rv x0, iv x1, .val (.double x2), .second] [] := by first | (simp [entryFrame, mkF, argsToLocals, Value.category]; done) | rfl
def QRn (Z : State) (a : Addr) (x : Int32) (t : UInt64) (aP : Addr) (kP : ClassId) (P : Int32 → Int32) (h0 : Heap) (n0 : Nat) (v : Option Value) (h : Heap) (L : List Loc) : Prop := v = none ∧ Fr n0 L ∧ h = h0
set_option maxRecDepth 65536 in
set_option maxHeartbeats 40000000 in
theorem rmRn (l : Launch) (Z : State) (a0 : Array Value) (hw : ∀ d ∈ tables_1, d.before a0 Z = true) (ws : List Jvm.Cond) (a : Addr) (x : Int32) (t : UInt64) (aP : Addr) (kP : ClassId) (P : Int32 → Int32) (h0 : Heap) (n0 : Nat) (Z0 : n0 ≤ h0.size) (FP : Fld Z h0 a "com/example/redoubt/redoubt/engine/IndexHeap" "positions" "[I" (.ref aP)) (VP : Arv Z h0 aP kP .int (4 : Int32) (lst P) (.int (0 : Int32))) (hx4 : In4 x) (hp : P x = -1) (ht : NoNaN64 t) :
    MetFree l mN4 (head1 (Jvm.Cond.code mN4 prog_23_method_26_code 4 none :: ws) ({ frames := 2, cells := 0, slots := 0, locals := 26 } : Room)) (fun aa U => aa = #[(.ref a), (.int x), (.double t)] ∧ Z.Warmed39 U.vm ∧ U.heap = h0) (fun _ _ _ _ _ => True) (fun _ u1_ o_ u2_ => ∃ v_ l_, o_ = .returned v_ ∧ QRn Z a x t aP kP P h0 n0 v_ u2_.heap l_ ∧ FrameEnd u1_ o_ u2_ l_ ({ frames := 2, cells := 0, slots := 0, locals := 26 } : Room).cells ({ frames := 2, cells := 0, slots := 0, locals := 26 } : Room).slots) := by
  refine MetFree.of_bodySF (plainFor_of_name pn_com_example_redoubt_redoubt_engine_IndexHeap) hisR ?_
  intro p e s m args below meth c s₁ Bd hml0 hP hK
  obtain ⟨rfl, hZ, hh⟩ := hP
  have hx := Bd.exec
  have hby := Bd.bytes
  have hlk := BodyLoose.notSynchronized Bd
  have hret := Bd.returns
  have hml : c.maxLocals = 4 := hml0
  have hown : s.vm.findClass "com/example/redoubt/redoubt/engine/IndexHeap" = some m.cls := findClass_of_methodNamed Bd.named
  have hnm := (name_of_methodNamed Bd.named Bd.method).1
  have X0 : Stand p l e ({ frames := 2, cells := 0, slots := 0, locals := 26 } : Room) s m #[(.ref a), (.int x), (.double t)] below meth c s₁ [] 0 0 := Stand.of_body Bd
  have e0 : s₁.heap = h0 := by rw [← hh, Bd.state]; rfl
  have N0 := Fr.nil n0
  refine Goes.st (s := s) (Q := QRn Z a x t aP kP P h0 n0) (cs := ({ frames := 2, cells := 0, slots := 0, locals := 26 } : Room).cells) (ss := ({ frames := 2, cells := 0, slots := 0, locals := 26 } : Room).slots) (fun tg kg => castTop (ef_Rn m a x t) kg) ?_
  show Gs p e below s _ _ _ s₁ m 0 #[rv a, iv x, .val (.double t), .second] []
  refine galoadN X0 hx (hb hby dp23_26_0) rfl rfl ?_
  obtain ⟨T1, X1, e1, st1⟩ := getF X0 hx hZ hown (host := "") (Or.inl (hwk hw 17 rfl)) Via.refl e0 FP (g := (mkF m 1 #[rv a, iv x, .val (.double t), .second] [(.ref a)])) rfl rfl (hb hby dp23_26_1)
  refine Goes.st st1 ?_
  refine giloadN X1 hx (hb hby dp23_26_4) rfl ?_
  show Gs p e below s _ _ _ T1 m 5 #[rv a, iv x, .val (.double t), .second] [(.int x), (.ref aP)]
  obtain ⟨cl2, Ar2, qk2, Sz2, qz2, Ha2, Gf2⟩ := id VP
  have in2 := inb_of (j := x) Sz2 (own_in hx4)
  refine Goes.st (fun tg kg => X1.iaload hx (j := x) (v := (.int (P x))) (by rw [e1]; exact Ar2.1) (State.isArrayOf_alike hZ.alike Ar2.2.1) Ar2.2.2 in2 (Ha2.at in2 (get_lst hx4)) (g := (mkF m 5 #[rv a, iv x, .val (.double t), .second] [(.int x), (.ref aP)])) rfl rfl (hb hby dp23_26_5) tg kg) ?_
  show Gs p e below s _ _ _ T1 m 6 #[rv a, iv x, .val (.double t), .second] [(.int (P x))]
  refine gifYes X1 hx (pc' := 23) (hb hby dp23_26_6) ((if0 _ _).trans (tlt (by rw [hp]; decide)).1) (by decide) (by decide) ?_
  show Gs p e below s _ _ _ T1 m 23 #[rv a, iv x, .val (.double t), .second] []
  refine gdloadN X1 hx (hb hby dp23_26_23) rfl ?_
  obtain ⟨_, _, ⟨T3, L3, k3, n3⟩, -, X3, ⟨Lc3, hQ3, l3, y3, z3⟩, st3⟩ := Jvm.LawKit.callS X1 hx (y := mN3) hown (mvT hZ (hwk hw 54 rfl)) (mvT hZ (hwk hw 55 rfl)) (mvT hZ (hwk hw 2 rfl)) (mvT hZ (hwk hw 56 rfl)) (by decide) (backOf (W := 0) (rmTi l Z a0 hw [] t h0 n0 Z0 ht) hZ (hwk hw 56 rfl) (hwk hw 2 rfl) (by decide) (by decide)) (g := (mkF m 24 #[rv a, iv x, .val (.double t), .second] [(.double t)])) rfl (by rw [hml]; rfl) (argsL := [(.double t)]) (rest := []) (lenOf pd__D_V_805 rfl) rfl (by show 2 * 0 + _ ≤ _; exact Nat.le_of_eq rfl) (hb hby dp23_26_24) (fun _ _ => ⟨rfl, e1, (by decide : 0 + 0 ≤ 0), (by decide : 0 + 0 ≤ 0)⟩)
  dsimp only [Pt.U, Pt.locs, Pt.cells, Pt.slots] at X3 l3 y3 z3 st3 hQ3
  subst l3 y3 z3
  obtain ⟨rfl, N3q, eh3⟩ := hQ3
  have N3 := Fr.app N0 N3q
  refine Goes.st st3 ?_
  show Gs p e below s _ _ _ T3 m 27 #[rv a, iv x, .val (.double t), .second] []
  refine Goes.retV X3 hx hlk hret (hb hby dp23_26_27) ?_ (by decide) (by decide)
  rw [eh3]
  exact ⟨rfl, N3, rfl⟩
theorem dp23_24_0 : decode prog_23_method_24_code 0 = .ok (.aload_n 0, 1) := by decide +kernel
theorem dp23_24_1 : decode prog_23_method_24_code 1 = .ok (.getfield 13, 3) := by decide +kernel
theorem dp23_24_4 : decode prog_23_method_24_code 4 = .ok (.iload_n 1, 1) := by decide +kernel
theorem dp23_24_5 : decode prog_23_method_24_code 5 = .ok (.iload_n 2, 1) := by decide +kernel
theorem dp23_24_6 : decode prog_23_method_24_code 6 = .ok (.iastore, 1) := by decide +kernel
theorem dp23_24_7 : decode prog_23_method_24_code 7 = .ok (.aload_n 0, 1) := by decide +kernel
theorem dp23_24_8 : decode prog_23_method_24_code 8 = .ok (.getfield 17, 3) := by decide +kernel
theorem dp23_24_11 : decode prog_23_method_24_code 11 = .ok (.iload_n 1, 1) := by decide +kernel
theorem dp23_24_12 : decode prog_23_method_24_code 12 = .ok (.dload_n 3, 1) := by decide +kernel
theorem dp23_24_13 : decode prog_23_method_24_code 13 = .ok (.dastore, 1) := by decide +kernel
theorem dp23_24_14 : decode prog_23_method_24_code 14 = .ok (.aload_n 0, 1) := by decide +kernel
theorem dp23_24_15 : decode prog_23_method_24_code 15 = .ok (.getfield 21, 3) := by decide +kernel
theorem dp23_24_18 : decode prog_23_method_24_code 18 = .ok (.iload_n 2, 1) := by decide +kernel
theorem dp23_24_19 : decode prog_23_method_24_code 19 = .ok (.iload_n 1, 1) := by decide +kernel
theorem dp23_24_20 : decode prog_23_method_24_code 20 = .ok (.iastore, 1) := by decide +kernel
theorem dp23_24_21 : decode prog_23_method_24_code 21 = .ok (.return_, 1) := by decide +kernel
theorem ef_Pu (m : MethodId) (x0 : Addr) (x1 : Int32) (x2 : Int32) (x3 : UInt64) : entryFrame m #[(.ref x0), (.int x1), (.int x2), (.double x3)] 5 = mkF m 0 #[rv x0, iv x1, iv x2, .val (.double x3), .second] [] := by first | (simp [entryFrame, mkF, argsToLocals, Value.category]; done) | rfl
def QPu (Z : State) (a aI aT aP : Addr) (kI kT kP : ClassId) (I : Int32 → Int32) (D : Int32 → UInt64) (P : Int32 → Int32) (n o q x : Int32) (t : UInt64) (h0 : Heap) (n0 : Nat) (v : Option Value) (h : Heap) (L : List Loc) : Prop := v = none ∧ Fr n0 L ∧ Keep h0 h [a, aI, aT, aP] ∧ HR Z h a aI aT aP kI kT kP (upd I q x) (upd D q t) (upd P x q) n o
set_option maxRecDepth 65536 in
set_option maxHeartbeats 40000000 in
theorem rmPu (l : Launch) (Z : State) (a0 : Array Value) (hw : ∀ d ∈ tables_1, d.before a0 Z = true) (ws : List Jvm.Cond) (a aI aT aP : Addr) (kI kT kP : ClassId) (I : Int32 → Int32) (D : Int32 → UInt64) (P : Int32 → Int32) (n o q x : Int32) (t : UInt64) (h0 : Heap) (n0 : Nat) (Z0 : n0 ≤ h0.size) (hB : HB n0 a aI aT aP) (hR : HR Z h0 a aI aT aP kI kT kP I D P n o) (hq4 : In4 q) (hx4 : In4 x) :
    MetFree l mN5 (head1 (Jvm.Cond.code mN5 prog_23_method_24_code 5 none :: ws) ({ frames := 0, cells := 0, slots := 0, locals := 0 } : Room)) (fun aa U => aa = #[(.ref a), (.int q), (.int x), (.double t)] ∧ Z.Warmed39 U.vm ∧ U.heap = h0) (fun _ _ _ _ _ => True) (fun _ u1_ o_ u2_ => ∃ v_ l_, o_ = .returned v_ ∧ QPu Z a aI aT aP kI kT kP I D P n o q x t h0 n0 v_ u2_.heap l_ ∧ FrameEnd u1_ o_ u2_ l_ ({ frames := 0, cells := 0, slots := 0, locals := 0 } : Room).cells ({ frames := 0, cells := 0, slots := 0, locals := 0 } : Room).slots) := by
  refine MetFree.of_bodySF (plainFor_of_name pn_com_example_redoubt_redoubt_engine_IndexHeap) hisR ?_
  intro p e s m args below meth c s₁ Bd hml0 hP hK
  obtain ⟨rfl, hZ, hh⟩ := hP
  have hx := Bd.exec
  have hby := Bd.bytes
  have hlk := BodyLoose.notSynchronized Bd
  have hret := Bd.returns
  have hml : c.maxLocals = 5 := hml0
  have hown : s.vm.findClass "com/example/redoubt/redoubt/engine/IndexHeap" = some m.cls := findClass_of_methodNamed Bd.named
  have hnm := (name_of_methodNamed Bd.named Bd.method).1
  have X0 : Stand p l e ({ frames := 0, cells := 0, slots := 0, locals := 0 } : Room) s m #[(.ref a), (.int q), (.int x), (.double t)] below meth c s₁ [] 0 0 := Stand.of_body Bd
  have e0 : s₁.heap = h0 := by rw [← hh, Bd.state]; rfl
  have N0 := Fr.nil n0
  refine Goes.st (s := s) (Q := QPu Z a aI aT aP kI kT kP I D P n o q x t h0 n0) (cs := ({ frames := 0, cells := 0, slots := 0, locals := 0 } : Room).cells) (ss := ({ frames := 0, cells := 0, slots := 0, locals := 0 } : Room).slots) (fun tg kg => castTop (ef_Pu m a q x t) kg) ?_
  obtain ⟨la, lI, lT, lP, naI, naT, naP, nIT, nIP, nTP⟩ := id hB
  obtain ⟨E1, FI1, FT1, FP1, FS1, FO1, VI1, VT1, VP1⟩ := id hR
  have K0 : Keep h0 h0 [a, aI, aT, aP] := Keep.refl _ _
  show Gs p e below s _ _ _ s₁ m 0 #[rv a, iv q, iv x, .val (.double t), .second] []
  refine galoadN X0 hx (hb hby dp23_24_0) rfl rfl ?_
  obtain ⟨T2, X2, e2, st2⟩ := getF X0 hx hZ hown (host := "") (Or.inl (hwk hw 12 rfl)) Via.refl e0 FI1 (g := (mkF m 1 #[rv a, iv q, iv x, .val (.double t), .second] [(.ref a)])) rfl rfl (hb hby dp23_24_1)
  refine Goes.st st2 ?_
  refine giloadN X2 hx (hb hby dp23_24_4) rfl ?_
  refine giloadN X2 hx (hb hby dp23_24_5) rfl ?_
  show Gs p e below s _ _ _ T2 m 6 #[rv a, iv q, iv x, .val (.double t), .second] [(.int x), (.int q), (.ref aI)]
  obtain ⟨cl3, Ar3, qk3, Sz3, qz3, Ha3, Gf3⟩ := id VI1
  obtain ⟨T3, h3, X3, e3, W3, st3⟩ := stI X2 hx hZ e2 Ar3 (inb_of Sz3 (own_in hq4)) (g := (mkF m 6 #[rv a, iv q, iv x, .val (.double t), .second] [(.int x), (.int q), (.ref aI)])) rfl rfl (hb hby dp23_24_6)
  have N3 := Fr.snoc X3 N0 lI
  have V3 : Arv Z h3 aI kI .int (4 : Int32) (lst (upd I q x)) (.int (0 : Int32)) := setI Ar3 qk3 Sz3 qz3 Ha3 Gf3 W3 hq4
  refine Goes.st st3 ?_
  have KK4 := K0.wr W3 (Or.inl (List.mem_of_getElem? (i := 1) rfl))
  have Z3 : n0 ≤ h3.size := by have := W3.size; have := Z0; omega
  show Gs p e below s _ _ _ T3 m 7 #[rv a, iv q, iv x, .val (.double t), .second] []
  refine galoadN X3 hx (hb hby dp23_24_7) rfl rfl ?_
  have f6 := (FT1.other W3 (Or.inl naI))
  obtain ⟨T5, X5, e5, st5⟩ := getF X3 hx hZ hown (host := "") (Or.inl (hwk hw 15 rfl)) Via.refl e3 f6 (g := (mkF m 8 #[rv a, iv q, iv x, .val (.double t), .second] [(.ref a)])) rfl rfl (hb hby dp23_24_8)
  refine Goes.st st5 ?_
  refine giloadN X5 hx (hb hby dp23_24_11) rfl ?_
  refine gdloadN X5 hx (hb hby dp23_24_12) rfl ?_
  show Gs p e below s _ _ _ T5 m 13 #[rv a, iv q, iv x, .val (.double t), .second] [(.double t), (.int q), (.ref aT)]
  have f7 := (VT1.other W3 (Ne.symm nIT))
  obtain ⟨cl8, Ar8, qk8, Sz8, qz8, Ha8, Gf8⟩ := id f7
  obtain ⟨T8, h8, X8, e8, W8, st8⟩ := stD X5 hx hZ e5 Ar8 (inb_of Sz8 (own_in hq4)) (g := (mkF m 13 #[rv a, iv q, iv x, .val (.double t), .second] [(.double t), (.int q), (.ref aT)])) rfl rfl (hb hby dp23_24_13)
  have N8 := Fr.snoc X8 N3 lT
  have V8 : Arv Z h8 aT kT .double (4 : Int32) (dls (upd D q t)) (.double (0 : UInt64)) := setD Ar8 qk8 Sz8 qz8 Ha8 Gf8 W8 hq4
  refine Goes.st st8 ?_
  have KK9 := KK4.wr W8 (Or.inl (List.mem_of_getElem? (i := 2) rfl))
  have Z8 : n0 ≤ h8.size := by have := W8.size; have := Z3; omega
  show Gs p e below s _ _ _ T8 m 14 #[rv a, iv q, iv x, .val (.double t), .second] []
  refine galoadN X8 hx (hb hby dp23_24_14) rfl rfl ?_
  have f11 := ((FP1.other W3 (Or.inl naI)).other W8 (Or.inl naT))
  obtain ⟨T10, X10, e10, st10⟩ := getF X8 hx hZ hown (host := "") (Or.inl (hwk hw 17 rfl)) Via.refl e8 f11 (g := (mkF m 15 #[rv a, iv q, iv x, .val (.double t), .second] [(.ref a)])) rfl rfl (hb hby dp23_24_15)
  refine Goes.st st10 ?_
  refine giloadN X10 hx (hb hby dp23_24_18) rfl ?_
  refine giloadN X10 hx (hb hby dp23_24_19) rfl ?_
  show Gs p e below s _ _ _ T10 m 20 #[rv a, iv q, iv x, .val (.double t), .second] [(.int q), (.int x), (.ref aP)]
  have f12 := ((VP1.other W3 (Ne.symm nIP)).other W8 (Ne.symm nTP))
  obtain ⟨cl13, Ar13, qk13, Sz13, qz13, Ha13, Gf13⟩ := id f12
  obtain ⟨T13, h13, X13, e13, W13, st13⟩ := stI X10 hx hZ e10 Ar13 (inb_of Sz13 (own_in hx4)) (g := (mkF m 20 #[rv a, iv q, iv x, .val (.double t), .second] [(.int q), (.int x), (.ref aP)])) rfl rfl (hb hby dp23_24_20)
  have N13 := Fr.snoc X13 N8 lP
  have V13 : Arv Z h13 aP kP .int (4 : Int32) (lst (upd P x q)) (.int (0 : Int32)) := setI Ar13 qk13 Sz13 qz13 Ha13 Gf13 W13 hx4
  refine Goes.st st13 ?_
  have KK14 := KK9.wr W13 (Or.inl (List.mem_of_getElem? (i := 3) rfl))
  have Z13 : n0 ≤ h13.size := by have := W13.size; have := Z8; omega
  show Gs p e below s _ _ _ T13 m 21 #[rv a, iv q, iv x, .val (.double t), .second] []
  have f15 := (((E1.wr W3).wr W8).wr W13)
  have f16 := (((FI1.other W3 (Or.inl naI)).other W8 (Or.inl naT)).other W13 (Or.inl naP))
  have f17 := ((f6.other W8 (Or.inl naT)).other W13 (Or.inl naP))
  have f18 := (f11.other W13 (Or.inl naP))
  have f19 := (((FS1.other W3 (Or.inl naI)).other W8 (Or.inl naT)).other W13 (Or.inl naP))
  have f20 := (((FO1.other W3 (Or.inl naI)).other W8 (Or.inl naT)).other W13 (Or.inl naP))
  have f21 := ((V3.other W8 nIT).other W13 nIP)
  have f22 := (V8.other W13 nTP)
  have HR23 : HR Z h13 a aI aT aP kI kT kP (upd I q x) (upd D q t) (upd P x q) n o := ⟨f15, f16, f17, f18, f19, f20, f21, f22, V13⟩
  refine Goes.retV X13 hx hlk hret (hb hby dp23_24_21) ?_ (by decide) (by decide)
  rw [e13]
  exact ⟨rfl, N13, KK14, HR23⟩
theorem dp23_28_0 : decode prog_23_method_28_code 0 = .ok (.dload_n 0, 1) := by decide +kernel
theorem dp23_28_1 : decode prog_23_method_28_code 1 = .ok (.dload_n 3, 1) := by decide +kernel
theorem dp23_28_2 : decode prog_23_method_28_code 2 = .ok (.dcmp .g, 1) := by decide +kernel
theorem dp23_28_3 : decode prog_23_method_28_code 3 = .ok (.ifCond .lt 15, 3) := by decide +kernel
theorem dp23_28_6 : decode prog_23_method_28_code 6 = .ok (.dload_n 0, 1) := by decide +kernel
theorem dp23_28_7 : decode prog_23_method_28_code 7 = .ok (.dload_n 3, 1) := by decide +kernel
theorem dp23_28_8 : decode prog_23_method_28_code 8 = .ok (.dcmp .l, 1) := by decide +kernel
theorem dp23_28_9 : decode prog_23_method_28_code 9 = .ok (.ifCond .ne 13, 3) := by decide +kernel
theorem dp23_28_12 : decode prog_23_method_28_code 12 = .ok (.iload_n 2, 1) := by decide +kernel
theorem dp23_28_13 : decode prog_23_method_28_code 13 = .ok (.iload 5, 2) := by decide +kernel
theorem dp23_28_15 : decode prog_23_method_28_code 15 = .ok (.if_icmp .ge 7, 3) := by decide +kernel
theorem dp23_28_18 : decode prog_23_method_28_code 18 = .ok (.iconst 1, 1) := by decide +kernel
theorem dp23_28_19 : decode prog_23_method_28_code 19 = .ok (.goto 4, 3) := by decide +kernel
theorem dp23_28_22 : decode prog_23_method_28_code 22 = .ok (.iconst 0, 1) := by decide +kernel
theorem dp23_28_23 : decode prog_23_method_28_code 23 = .ok (.ireturn, 1) := by decide +kernel
theorem ef_Be (m : MethodId) (x0 : UInt64) (x1 : Int32) (x2 : UInt64) (x3 : Int32) : entryFrame m #[(.double x0), (.int x1), (.double x2), (.int x3)] 6 = mkF m 0 #[.val (.double x0), .second, iv x1, .val (.double x2), .second, iv x3] [] := by first | (simp [entryFrame, mkF, argsToLocals, Value.category]; done) | rfl
def QBe (Z : State) (ta : UInt64) (ia : Int32) (tb : UInt64) (ib : Int32) (h0 : Heap) (n0 : Nat) (v : Option Value) (h : Heap) (L : List Loc) : Prop := v = some (.int (bef ta ia tb ib)) ∧ Fr n0 L ∧ h = h0
set_option maxRecDepth 65536 in
set_option maxHeartbeats 40000000 in
theorem rmBe (l : Launch) (Z : State) (a0 : Array Value) (hw : ∀ d ∈ tables_1, d.before a0 Z = true) (ws : List Jvm.Cond) (ta : UInt64) (ia : Int32) (tb : UInt64) (ib : Int32) (h0 : Heap) (n0 : Nat) (Z0 : n0 ≤ h0.size)  :
    MetFree l mN6 (head1 (Jvm.Cond.code mN6 prog_23_method_28_code 6 (some .boolean) :: ws) ({ frames := 0, cells := 0, slots := 0, locals := 0 } : Room)) (fun aa U => aa = #[(.double ta), (.int ia), (.double tb), (.int ib)] ∧ Z.Warmed39 U.vm ∧ U.heap = h0) (fun _ _ _ _ _ => True) (fun _ u1_ o_ u2_ => ∃ v_ l_, o_ = .returned v_ ∧ QBe Z ta ia tb ib h0 n0 v_ u2_.heap l_ ∧ FrameEnd u1_ o_ u2_ l_ ({ frames := 0, cells := 0, slots := 0, locals := 0 } : Room).cells ({ frames := 0, cells := 0, slots := 0, locals := 0 } : Room).slots) := by
  refine MetFree.of_bodySF (plainFor_of_name pn_com_example_redoubt_redoubt_engine_IndexHeap) hisR ?_
  intro p e s m args below meth c s₁ Bd hml0 hP hK
  obtain ⟨rfl, hZ, hh⟩ := hP
  have hx := Bd.exec
  have hby := Bd.bytes
  have hlk := BodyLoose.notSynchronized Bd
  have hret := Bd.returns
  have hml : c.maxLocals = 6 := hml0
  have hown : s.vm.findClass "com/example/redoubt/redoubt/engine/IndexHeap" = some m.cls := findClass_of_methodNamed Bd.named
  have hnm := (name_of_methodNamed Bd.named Bd.method).1
  have X0 : Stand p l e ({ frames := 0, cells := 0, slots := 0, locals := 0 } : Room) s m #[(.double ta), (.int ia), (.double tb), (.int ib)] below meth c s₁ [] 0 0 := Stand.of_body Bd
  have e0 : s₁.heap = h0 := by rw [← hh, Bd.state]; rfl
  have N0 := Fr.nil n0
  refine Goes.st (s := s) (Q := QBe Z ta ia tb ib h0 n0) (cs := ({ frames := 0, cells := 0, slots := 0, locals := 0 } : Room).cells) (ss := ({ frames := 0, cells := 0, slots := 0, locals := 0 } : Room).slots) (fun tg kg => castTop (ef_Be m ta ia tb ib) kg) ?_
  show Gs p e below s _ _ _ s₁ m 0 #[.val (.double ta), .second, iv ia, .val (.double tb), .second, iv ib] []
  refine gdloadN X0 hx (hb hby dp23_28_0) rfl ?_
  refine gdloadN X0 hx (hb hby dp23_28_1) rfl ?_
  refine Goes.st (fun tg kg => XS.dcmpS X0.here hx rfl (hb hby dp23_28_2) rfl (v := (cmpValue (FP.dcmp ta tb) .g)) rfl kg) ?_
  show Gs p e below s _ _ _ s₁ m 3 #[.val (.double ta), .second, iv ia, .val (.double tb), .second, iv ib] [(.int (cmpValue (FP.dcmp ta tb) .g))]
  by_cases c1 : (cmpValue (FP.dcmp ta tb) .g) < (0 : Int32)
  · refine gifYes X0 hx (pc' := 18) (hb hby dp23_28_3) ((if0 _ _).trans (tlt c1).1) (by decide) (by decide) ?_
    show Gs p e below s _ _ _ s₁ m 18 #[.val (.double ta), .second, iv ia, .val (.double tb), .second, iv ib] []
    refine giconst X0 hx (hb hby dp23_28_18) ?_
    show Gs p e below s _ _ _ s₁ m 19 #[.val (.double ta), .second, iv ia, .val (.double tb), .second, iv ib] [(.int (1 : Int32))]
    refine ggoto X0 hx (pc' := 23) (hb hby dp23_28_19) (by decide) (by decide) ?_
    show Gs p e below s _ _ _ s₁ m 23 #[.val (.double ta), .second, iv ia, .val (.double tb), .second, iv ib] [(.int (1 : Int32))]
    refine Goes.retN X0 hx hlk hret (by simp) (hb hby dp23_28_23) (by decide) ?_ (by decide) (by decide)
    rw [e0]
    exact ⟨by simp [bef, c1], N0, rfl⟩
  · refine gifNo X0 hx (hb hby dp23_28_3) ((if0 _ _).trans (flt c1).1) ?_
    show Gs p e below s _ _ _ s₁ m 6 #[.val (.double ta), .second, iv ia, .val (.double tb), .second, iv ib] []
    refine gdloadN X0 hx (hb hby dp23_28_6) rfl ?_
    refine gdloadN X0 hx (hb hby dp23_28_7) rfl ?_
    refine Goes.st (fun tg kg => XS.dcmpS X0.here hx rfl (hb hby dp23_28_8) rfl (v := (cmpValue (FP.dcmp ta tb) .l)) rfl kg) ?_
    show Gs p e below s _ _ _ s₁ m 9 #[.val (.double ta), .second, iv ia, .val (.double tb), .second, iv ib] [(.int (cmpValue (FP.dcmp ta tb) .l))]
    by_cases c2 : (cmpValue (FP.dcmp ta tb) .l) = (0 : Int32)
    · refine gifNo X0 hx (hb hby dp23_28_9) ((if0 _ _).trans (teq c2).2) ?_
      show Gs p e below s _ _ _ s₁ m 12 #[.val (.double ta), .second, iv ia, .val (.double tb), .second, iv ib] []
      refine giloadN X0 hx (hb hby dp23_28_12) rfl ?_
      refine giload X0 hx (hb hby dp23_28_13) rfl ?_
      show Gs p e below s _ _ _ s₁ m 15 #[.val (.double ta), .second, iv ia, .val (.double tb), .second, iv ib] [(.int ib), (.int ia)]
      by_cases c3 : ia < ib
      · refine gicmpNo X0 hx (hb hby dp23_28_15) (tlt c3).2.1 ?_
        show Gs p e below s _ _ _ s₁ m 18 #[.val (.double ta), .second, iv ia, .val (.double tb), .second, iv ib] []
        refine giconst X0 hx (hb hby dp23_28_18) ?_
        show Gs p e below s _ _ _ s₁ m 19 #[.val (.double ta), .second, iv ia, .val (.double tb), .second, iv ib] [(.int (1 : Int32))]
        refine ggoto X0 hx (pc' := 23) (hb hby dp23_28_19) (by decide) (by decide) ?_
        show Gs p e below s _ _ _ s₁ m 23 #[.val (.double ta), .second, iv ia, .val (.double tb), .second, iv ib] [(.int (1 : Int32))]
        refine Goes.retN X0 hx hlk hret (by simp) (hb hby dp23_28_23) (by decide) ?_ (by decide) (by decide)
        rw [e0]
        exact ⟨by simp [bef, c1, c2, c3], N0, rfl⟩
      · refine gicmpYes X0 hx (pc' := 22) (hb hby dp23_28_15) (flt c3).2.1 (by decide) (by decide) ?_
        show Gs p e below s _ _ _ s₁ m 22 #[.val (.double ta), .second, iv ia, .val (.double tb), .second, iv ib] []
        refine giconst X0 hx (hb hby dp23_28_22) ?_
        show Gs p e below s _ _ _ s₁ m 23 #[.val (.double ta), .second, iv ia, .val (.double tb), .second, iv ib] [(.int (0 : Int32))]
        refine Goes.retN X0 hx hlk hret (by simp) (hb hby dp23_28_23) (by decide) ?_ (by decide) (by decide)
        rw [e0]
        exact ⟨by simp [bef, c1, c2, c3], N0, rfl⟩
    · refine gifYes X0 hx (pc' := 22) (hb hby dp23_28_9) ((if0 _ _).trans (feq c2).2) (by decide) (by decide) ?_
      show Gs p e below s _ _ _ s₁ m 22 #[.val (.double ta), .second, iv ia, .val (.double tb), .second, iv ib] []
      refine giconst X0 hx (hb hby dp23_28_22) ?_
      show Gs p e below s _ _ _ s₁ m 23 #[.val (.double ta), .second, iv ia, .val (.double tb), .second, iv ib] [(.int (0 : Int32))]
      refine Goes.retN X0 hx hlk hret (by simp) (hb hby dp23_28_23) (by decide) ?_ (by decide) (by decide)
      rw [e0]
      exact ⟨by simp [bef, c1, c2], N0, rfl⟩
theorem dp23_22_0 : decode prog_23_method_22_code 0 = .ok (.iload_n 1, 1) := by decide +kernel
theorem dp23_22_1 : decode prog_23_method_22_code 1 = .ok (.istore 5, 2) := by decide +kernel
theorem dp23_22_3 : decode prog_23_method_22_code 3 = .ok (.iload 5, 2) := by decide +kernel
theorem dp23_22_5 : decode prog_23_method_22_code 5 = .ok (.ifCond .le 63, 3) := by decide +kernel
theorem dp23_22_8 : decode prog_23_method_22_code 8 = .ok (.iload 5, 2) := by decide +kernel
theorem dp23_22_10 : decode prog_23_method_22_code 10 = .ok (.iconst 1, 1) := by decide +kernel
theorem dp23_22_11 : decode prog_23_method_22_code 11 = .ok (.isub, 1) := by decide +kernel
theorem dp23_22_12 : decode prog_23_method_22_code 12 = .ok (.iconst 1, 1) := by decide +kernel
theorem dp23_22_13 : decode prog_23_method_22_code 13 = .ok (.iushr, 1) := by decide +kernel
theorem dp23_22_14 : decode prog_23_method_22_code 14 = .ok (.istore 6, 2) := by decide +kernel
theorem dp23_22_16 : decode prog_23_method_22_code 16 = .ok (.dload_n 3, 1) := by decide +kernel
theorem dp23_22_17 : decode prog_23_method_22_code 17 = .ok (.iload_n 2, 1) := by decide +kernel
theorem dp23_22_18 : decode prog_23_method_22_code 18 = .ok (.aload_n 0, 1) := by decide +kernel
theorem dp23_22_19 : decode prog_23_method_22_code 19 = .ok (.getfield 17, 3) := by decide +kernel
theorem dp23_22_22 : decode prog_23_method_22_code 22 = .ok (.iload 6, 2) := by decide +kernel
theorem dp23_22_24 : decode prog_23_method_22_code 24 = .ok (.daload, 1) := by decide +kernel
theorem dp23_22_25 : decode prog_23_method_22_code 25 = .ok (.aload_n 0, 1) := by decide +kernel
theorem dp23_22_26 : decode prog_23_method_22_code 26 = .ok (.getfield 13, 3) := by decide +kernel
theorem dp23_22_29 : decode prog_23_method_22_code 29 = .ok (.iload 6, 2) := by decide +kernel
theorem dp23_22_31 : decode prog_23_method_22_code 31 = .ok (.iaload, 1) := by decide +kernel
theorem dp23_22_32 : decode prog_23_method_22_code 32 = .ok (.invokestatic 91, 3) := by decide +kernel
theorem dp23_22_35 : decode prog_23_method_22_code 35 = .ok (.ifCond .ne 6, 3) := by decide +kernel
theorem dp23_22_38 : decode prog_23_method_22_code 38 = .ok (.goto 30, 3) := by decide +kernel
theorem dp23_22_41 : decode prog_23_method_22_code 41 = .ok (.aload_n 0, 1) := by decide +kernel
theorem dp23_22_42 : decode prog_23_method_22_code 42 = .ok (.iload 5, 2) := by decide +kernel
theorem dp23_22_44 : decode prog_23_method_22_code 44 = .ok (.aload_n 0, 1) := by decide +kernel
theorem dp23_22_45 : decode prog_23_method_22_code 45 = .ok (.getfield 13, 3) := by decide +kernel
theorem dp23_22_48 : decode prog_23_method_22_code 48 = .ok (.iload 6, 2) := by decide +kernel
theorem dp23_22_50 : decode prog_23_method_22_code 50 = .ok (.iaload, 1) := by decide +kernel
theorem dp23_22_51 : decode prog_23_method_22_code 51 = .ok (.aload_n 0, 1) := by decide +kernel
theorem dp23_22_52 : decode prog_23_method_22_code 52 = .ok (.getfield 17, 3) := by decide +kernel
theorem dp23_22_55 : decode prog_23_method_22_code 55 = .ok (.iload 6, 2) := by decide +kernel
theorem dp23_22_57 : decode prog_23_method_22_code 57 = .ok (.daload, 1) := by decide +kernel
theorem dp23_22_58 : decode prog_23_method_22_code 58 = .ok (.invokevirtual 64, 3) := by decide +kernel
theorem dp23_22_61 : decode prog_23_method_22_code 61 = .ok (.iload 6, 2) := by decide +kernel
theorem dp23_22_63 : decode prog_23_method_22_code 63 = .ok (.istore 5, 2) := by decide +kernel
theorem dp23_22_65 : decode prog_23_method_22_code 65 = .ok (.goto (-62), 3) := by decide +kernel
theorem dp23_22_68 : decode prog_23_method_22_code 68 = .ok (.aload_n 0, 1) := by decide +kernel
theorem dp23_22_69 : decode prog_23_method_22_code 69 = .ok (.iload 5, 2) := by decide +kernel
theorem dp23_22_71 : decode prog_23_method_22_code 71 = .ok (.iload_n 2, 1) := by decide +kernel
theorem dp23_22_72 : decode prog_23_method_22_code 72 = .ok (.dload_n 3, 1) := by decide +kernel
theorem dp23_22_73 : decode prog_23_method_22_code 73 = .ok (.invokevirtual 64, 3) := by decide +kernel
theorem dp23_22_76 : decode prog_23_method_22_code 76 = .ok (.return_, 1) := by decide +kernel
theorem pd__IID_V_e64 : parseMethodDescriptor "(IID)V" = some ⟨[.int, .int, .double], none⟩ := by decide +kernel
theorem ef_U0 (m : MethodId) (x0 : Addr) (x1 : Int32) (x2 : Int32) (x3 : UInt64) : entryFrame m #[(.ref x0), (.int x1), (.int x2), (.double x3)] 7 = mkF m 0 #[rv x0, iv x1, iv x2, .val (.double x3), .second, .unset, .unset] [] := by first | (simp [entryFrame, mkF, argsToLocals, Value.category]; done) | rfl
def QU0 (Z : State) (a aI aT aP : Addr) (kI kT kP : ClassId) (I : Int32 → Int32) (D : Int32 → UInt64) (P : Int32 → Int32) (n o x : Int32) (t : UInt64) (S : Int32 → Prop) (h0 : Heap) (n0 : Nat) (v : Option Value) (h : Heap) (L : List Loc) : Prop := ∃ (I1 : Int32 → Int32) (D1 : Int32 → UInt64) (P1 : Int32 → Int32), v = none ∧ Fr n0 L ∧ Keep h0 h [a, aI, aT, aP] ∧ HR Z h a aI aT aP kI kT kP I1 D1 P1 n o ∧ Inv n S I1 P1
set_option maxRecDepth 65536 in
set_option maxHeartbeats 40000000 in
theorem rmU0 (l : Launch) (Z : State) (a0 : Array Value) (hw : ∀ d ∈ tables_1, d.before a0 Z = true) (ws : List Jvm.Cond) (a aI aT aP : Addr) (kI kT kP : ClassId) (I : Int32 → Int32) (D : Int32 → UInt64) (P : Int32 → Int32) (n o x : Int32) (t : UInt64) (S : Int32 → Prop) (h0 : Heap) (n0 : Nat) (Z0 : n0 ≤ h0.size) (hB : HB n0 a aI aT aP) (hR : HR Z h0 a aI aT aP kI kT kP I D P n o) (hx4 : In4 x) (hH : Hol n (0 : Int32) x S I P) (hS : S x) (hn : (0 : Int32) < n) :
    MetFree l mN7 (head1 (Jvm.Cond.code mN7 prog_23_method_22_code 7 none :: ws) ({ frames := 1, cells := 0, slots := 0, locals := 16 } : Room)) (fun aa U => aa = #[(.ref a), (.int (0 : Int32)), (.int x), (.double t)] ∧ Z.Warmed39 U.vm ∧ U.heap = h0) (fun _ _ _ _ _ => True) (fun _ u1_ o_ u2_ => ∃ v_ l_, o_ = .returned v_ ∧ QU0 Z a aI aT aP kI kT kP I D P n o x t S h0 n0 v_ u2_.heap l_ ∧ FrameEnd u1_ o_ u2_ l_ ({ frames := 1, cells := 0, slots := 0, locals := 16 } : Room).cells ({ frames := 1, cells := 0, slots := 0, locals := 16 } : Room).slots) := by
  refine MetFree.of_bodySF (plainFor_of_name pn_com_example_redoubt_redoubt_engine_IndexHeap) hisR ?_
  intro p e s m args below meth c s₁ Bd hml0 hP hK
  obtain ⟨rfl, hZ, hh⟩ := hP
  have hx := Bd.exec
  have hby := Bd.bytes
  have hlk := BodyLoose.notSynchronized Bd
  have hret := Bd.returns
  have hml : c.maxLocals = 7 := hml0
  have hown : s.vm.findClass "com/example/redoubt/redoubt/engine/IndexHeap" = some m.cls := findClass_of_methodNamed Bd.named
  have hnm := (name_of_methodNamed Bd.named Bd.method).1
  have X0 : Stand p l e ({ frames := 1, cells := 0, slots := 0, locals := 16 } : Room) s m #[(.ref a), (.int (0 : Int32)), (.int x), (.double t)] below meth c s₁ [] 0 0 := Stand.of_body Bd
  have e0 : s₁.heap = h0 := by rw [← hh, Bd.state]; rfl
  have N0 := Fr.nil n0
  refine Goes.st (s := s) (Q := QU0 Z a aI aT aP kI kT kP I D P n o x t S h0 n0) (cs := ({ frames := 1, cells := 0, slots := 0, locals := 16 } : Room).cells) (ss := ({ frames := 1, cells := 0, slots := 0, locals := 16 } : Room).slots) (fun tg kg => castTop (ef_U0 m a (0 : Int32) x t) kg) ?_
  obtain ⟨la, lI, lT, lP, naI, naT, naP, nIT, nIP, nTP⟩ := id hB
  obtain ⟨E1, FI1, FT1, FP1, FS1, FO1, VI1, VT1, VP1⟩ := id hR
  have K0 : Keep h0 h0 [a, aI, aT, aP] := Keep.refl _ _
  have lt0 : (0 : Int32) < n := hn
  show Gs p e below s _ _ _ s₁ m 0 #[rv a, iv (0 : Int32), iv x, .val (.double t), .second, .unset, .unset] []
  refine giloadN X0 hx (hb hby dp23_22_0) rfl ?_
  refine gistore X0 hx (hb hby dp23_22_1) trivial (l' := #[rv a, iv (0 : Int32), iv x, .val (.double t), .second, iv (0 : Int32), .unset]) rfl ?_
  refine giload X0 hx (hb hby dp23_22_3) rfl ?_
  show Gs p e below s _ _ _ s₁ m 5 #[rv a, iv (0 : Int32), iv x, .val (.double t), .second, iv (0 : Int32), .unset] [(.int (0 : Int32))]
  refine gifYes X0 hx (pc' := 68) (hb hby dp23_22_5) (by decide) (by decide) (by decide) ?_
  show Gs p e below s _ _ _ s₁ m 68 #[rv a, iv (0 : Int32), iv x, .val (.double t), .second, iv (0 : Int32), .unset] []
  refine galoadN X0 hx (hb hby dp23_22_68) rfl rfl ?_
  refine giload X0 hx (hb hby dp23_22_69) rfl ?_
  refine giloadN X0 hx (hb hby dp23_22_71) rfl ?_
  refine gdloadN X0 hx (hb hby dp23_22_72) rfl ?_
  have HR2 : HR Z h0 a aI aT aP kI kT kP I D P n o := ⟨E1, FI1, FT1, FP1, FS1, FO1, VI1, VT1, VP1⟩
  obtain ⟨cc3, qa3, qb3⟩ := Exa.cell E1
  obtain ⟨_, _, ⟨T3, L3, k3, n3⟩, -, X3, ⟨Lc3, hQ3, l3, y3, z3⟩, st3⟩ := X0.privateBack hx (y := mN5) hown (mvT hZ (hwk hw 65 rfl)) (mvT hZ (hwk hw 66 rfl)) (selP (y := mN5) (as := #[]) (mvT hZ (hwk hw 1 rfl)) (mvP hZ (hwk hw 67 rfl)) (mvT hZ (hwk hw 66 rfl)) (by decide)) (Cond.privateMethod_at (mvP hZ (hwk hw 67 rfl) (args := #[]))) (mvT hZ (hwk hw 68 rfl)) (by decide) (backOf (W := 0) (rmPu l Z a0 hw [] a aI aT aP kI kT kP I D P n o (0 : Int32) x t h0 n0 Z0 hB HR2 i4_0 hx4) hZ (hwk hw 68 rfl) (hwk hw 2 rfl) (by decide) (by decide)) (g := (mkF m 73 #[rv a, iv (0 : Int32), iv x, .val (.double t), .second, iv (0 : Int32), .unset] [(.double t), (.int x), (.int (0 : Int32)), (.ref a)])) rfl (by rw [hml]; rfl) (Steps.refl _) (a := a) (by rw [e0]; exact qa3) qb3 (argsL := [(.int (0 : Int32)), (.int x), (.double t)]) (rest := []) (lenOf pd__IID_V_e64 rfl) rfl (by show 2 * 0 + _ ≤ _; exact Nat.le_of_eq rfl) (hb hby dp23_22_73) (fun _ _ => ⟨rfl, e0, (by decide : 0 + 0 ≤ 0), (by decide : 0 + 0 ≤ 0)⟩)
  dsimp only [Pt.U, Pt.locs, Pt.cells, Pt.slots] at X3 l3 y3 z3 st3 hQ3
  subst l3 y3 z3
  obtain ⟨rfl, N3q, K3, HQ3⟩ := hQ3
  have KK4 := K0.trans K3 (allS (Or.inl (List.mem_of_getElem? (i := 0) rfl)) (allS (Or.inl (List.mem_of_getElem? (i := 1) rfl)) (allS (Or.inl (List.mem_of_getElem? (i := 2) rfl)) (allS (Or.inl (List.mem_of_getElem? (i := 3) rfl)) all0))))
  have Z3 : n0 ≤ T3.heap.size := Nat.le_trans Z0 K3.1
  obtain ⟨E5, FI5, FT5, FP5, FS5, FO5, VI5, VT5, VP5⟩ := id HQ3
  have inv6 := hol_end hH i4_0 lt0 hx4 hS
  have N3 := Fr.app N0 N3q
  refine Goes.sts st3 ?_
  show Gs p e below s _ _ _ T3 m 76 #[rv a, iv (0 : Int32), iv x, .val (.double t), .second, iv (0 : Int32), .unset] []
  have HR7 : HR Z T3.heap a aI aT aP kI kT kP (upd I (0 : Int32) x) (upd D (0 : Int32) t) (upd P x (0 : Int32)) n o := ⟨E5, FI5, FT5, FP5, FS5, FO5, VI5, VT5, VP5⟩
  refine Goes.retV X3 hx hlk hret (hb hby dp23_22_76) ?_ (by decide) (by decide)
  exact ⟨(upd I (0 : Int32) x), (upd D (0 : Int32) t), (upd P x (0 : Int32)), rfl, N3, KK4, HR7, inv6⟩
theorem pd__DIDI_Z_1212 : parseMethodDescriptor "(DIDI)Z" = some ⟨[.double, .int, .double, .int], some .boolean⟩ := by decide +kernel
theorem ef_U1 (m : MethodId) (x0 : Addr) (x1 : Int32) (x2 : Int32) (x3 : UInt64) : entryFrame m #[(.ref x0), (.int x1), (.int x2), (.double x3)] 7 = mkF m 0 #[rv x0, iv x1, iv x2, .val (.double x3), .second, .unset, .unset] [] := by first | (simp [entryFrame, mkF, argsToLocals, Value.category]; done) | rfl
def QU1 (Z : State) (a aI aT aP : Addr) (kI kT kP : ClassId) (I : Int32 → Int32) (D : Int32 → UInt64) (P : Int32 → Int32) (n o x : Int32) (t : UInt64) (S : Int32 → Prop) (h0 : Heap) (n0 : Nat) (v : Option Value) (h : Heap) (L : List Loc) : Prop := ∃ (I1 : Int32 → Int32) (D1 : Int32 → UInt64) (P1 : Int32 → Int32), v = none ∧ Fr n0 L ∧ Keep h0 h [a, aI, aT, aP] ∧ HR Z h a aI aT aP kI kT kP I1 D1 P1 n o ∧ Inv n S I1 P1
set_option maxRecDepth 65536 in
set_option maxHeartbeats 40000000 in
theorem rmU1 (l : Launch) (Z : State) (a0 : Array Value) (hw : ∀ d ∈ tables_1, d.before a0 Z = true) (ws : List Jvm.Cond) (a aI aT aP : Addr) (kI kT kP : ClassId) (I : Int32 → Int32) (D : Int32 → UInt64) (P : Int32 → Int32) (n o x : Int32) (t : UInt64) (S : Int32 → Prop) (h0 : Heap) (n0 : Nat) (Z0 : n0 ≤ h0.size) (hB : HB n0 a aI aT aP) (hR : HR Z h0 a aI aT aP kI kT kP I D P n o) (hx4 : In4 x) (hH : Hol n (1 : Int32) x S I P) (hS : S x) (hn : (1 : Int32) < n) :
    MetFree l mN7 (head1 (Jvm.Cond.code mN7 prog_23_method_22_code 7 none :: ws) ({ frames := 1, cells := 0, slots := 0, locals := 17 } : Room)) (fun aa U => aa = #[(.ref a), (.int (1 : Int32)), (.int x), (.double t)] ∧ Z.Warmed39 U.vm ∧ U.heap = h0) (fun _ _ _ _ _ => True) (fun _ u1_ o_ u2_ => ∃ v_ l_, o_ = .returned v_ ∧ QU1 Z a aI aT aP kI kT kP I D P n o x t S h0 n0 v_ u2_.heap l_ ∧ FrameEnd u1_ o_ u2_ l_ ({ frames := 1, cells := 0, slots := 0, locals := 17 } : Room).cells ({ frames := 1, cells := 0, slots := 0, locals := 17 } : Room).slots) := by
  refine MetFree.of_bodySF (plainFor_of_name pn_com_example_redoubt_redoubt_engine_IndexHeap) hisR ?_
  intro p e s m args below meth c s₁ Bd hml0 hP hK
  obtain ⟨rfl, hZ, hh⟩ := hP
  have hx := Bd.exec
  have hby := Bd.bytes
  have hlk := BodyLoose.notSynchronized Bd
  have hret := Bd.returns
  have hml : c.maxLocals = 7 := hml0
  have hown : s.vm.findClass "com/example/redoubt/redoubt/engine/IndexHeap" = some m.cls := findClass_of_methodNamed Bd.named
  have hnm := (name_of_methodNamed Bd.named Bd.method).1
  have X0 : Stand p l e ({ frames := 1, cells := 0, slots := 0, locals := 17 } : Room) s m #[(.ref a), (.int (1 : Int32)), (.int x), (.double t)] below meth c s₁ [] 0 0 := Stand.of_body Bd
  have e0 : s₁.heap = h0 := by rw [← hh, Bd.state]; rfl
  have N0 := Fr.nil n0
  refine Goes.st (s := s) (Q := QU1 Z a aI aT aP kI kT kP I D P n o x t S h0 n0) (cs := ({ frames := 1, cells := 0, slots := 0, locals := 17 } : Room).cells) (ss := ({ frames := 1, cells := 0, slots := 0, locals := 17 } : Room).slots) (fun tg kg => castTop (ef_U1 m a (1 : Int32) x t) kg) ?_
  obtain ⟨la, lI, lT, lP, naI, naT, naP, nIT, nIP, nTP⟩ := id hB
  obtain ⟨E1, FI1, FT1, FP1, FS1, FO1, VI1, VT1, VP1⟩ := id hR
  have K0 : Keep h0 h0 [a, aI, aT, aP] := Keep.refl _ _
  have lt0 : (0 : Int32) < n := own_ltt (b := (1 : Int32)) (by decide) hn
  have lt1 : (1 : Int32) < n := hn
  show Gs p e below s _ _ _ s₁ m 0 #[rv a, iv (1 : Int32), iv x, .val (.double t), .second, .unset, .unset] []
  refine giloadN X0 hx (hb hby dp23_22_0) rfl ?_
  refine gistore X0 hx (hb hby dp23_22_1) trivial (l' := #[rv a, iv (1 : Int32), iv x, .val (.double t), .second, iv (1 : Int32), .unset]) rfl ?_
  refine giload X0 hx (hb hby dp23_22_3) rfl ?_
  show Gs p e below s _ _ _ s₁ m 5 #[rv a, iv (1 : Int32), iv x, .val (.double t), .second, iv (1 : Int32), .unset] [(.int (1 : Int32))]
  refine gifNo X0 hx (hb hby dp23_22_5) (by decide) ?_
  show Gs p e below s _ _ _ s₁ m 8 #[rv a, iv (1 : Int32), iv x, .val (.double t), .second, iv (1 : Int32), .unset] []
  refine giload X0 hx (hb hby dp23_22_8) rfl ?_
  refine giconst X0 hx (hb hby dp23_22_10) ?_
  refine gisub X0 hx (hb hby dp23_22_11) trivial ?_
  show Gs p e below s _ _ _ s₁ m 12 #[rv a, iv (1 : Int32), iv x, .val (.double t), .second, iv (1 : Int32), .unset] [(.int ((1 : Int32) - (1 : Int32)))]
  rw [show ((1 : Int32) - (1 : Int32)) = (0 : Int32) from by decide]
  show Gs p e below s _ _ _ s₁ m 12 #[rv a, iv (1 : Int32), iv x, .val (.double t), .second, iv (1 : Int32), .unset] [(.int (0 : Int32))]
  refine giconst X0 hx (hb hby dp23_22_12) ?_
  show Gs p e below s _ _ _ s₁ m 13 #[rv a, iv (1 : Int32), iv x, .val (.double t), .second, iv (1 : Int32), .unset] [(.int (1 : Int32)), (.int (0 : Int32))]
  refine Goes.st (fun tg kg => XT.iushr X0.here hx rfl (hb hby dp23_22_13) rfl kg) ?_
  show Gs p e below s _ _ _ s₁ m 14 #[rv a, iv (1 : Int32), iv x, .val (.double t), .second, iv (1 : Int32), .unset] [(.int (XT.ushr (0 : Int32) (1 : Int32)))]
  rw [show (XT.ushr (0 : Int32) (1 : Int32)) = (0 : Int32) from by decide]
  show Gs p e below s _ _ _ s₁ m 14 #[rv a, iv (1 : Int32), iv x, .val (.double t), .second, iv (1 : Int32), .unset] [(.int (0 : Int32))]
  refine gistore X0 hx (hb hby dp23_22_14) trivial (l' := #[rv a, iv (1 : Int32), iv x, .val (.double t), .second, iv (1 : Int32), iv (0 : Int32)]) rfl ?_
  refine gdloadN X0 hx (hb hby dp23_22_16) rfl ?_
  refine giloadN X0 hx (hb hby dp23_22_17) rfl ?_
  refine galoadN X0 hx (hb hby dp23_22_18) rfl rfl ?_
  obtain ⟨T2, X2, e2, st2⟩ := getF X0 hx hZ hown (host := "") (Or.inl (hwk hw 15 rfl)) Via.refl e0 FT1 (g := (mkF m 19 #[rv a, iv (1 : Int32), iv x, .val (.double t), .second, iv (1 : Int32), iv (0 : Int32)] [(.ref a), (.int x), (.double t)])) rfl rfl (hb hby dp23_22_19)
  refine Goes.st st2 ?_
  show Gs p e below s _ _ _ T2 m 22 #[rv a, iv (1 : Int32), iv x, .val (.double t), .second, iv (1 : Int32), iv (0 : Int32)] [(.ref aT), (.int x), (.double t)]
  refine giload X2 hx (hb hby dp23_22_22) rfl ?_
  show Gs p e below s _ _ _ T2 m 24 #[rv a, iv (1 : Int32), iv x, .val (.double t), .second, iv (1 : Int32), iv (0 : Int32)] [(.int (0 : Int32)), (.ref aT), (.int x), (.double t)]
  obtain ⟨cl3, Ar3, qk3, Sz3, qz3, Ha3, Gf3⟩ := id VT1
  have in3 := inb_of (j := (0 : Int32)) Sz3 ⟨by decide, by decide⟩
  refine Goes.st (fun tg kg => X2.daload hx (j := (0 : Int32)) (v := (.double (D (0 : Int32)))) (by rw [e2]; exact Ar3.1) (State.isArrayOf_alike hZ.alike Ar3.2.1) Ar3.2.2 in3 (Ha3.at in3 (get_dls i4_0)) (g := (mkF m 24 #[rv a, iv (1 : Int32), iv x, .val (.double t), .second, iv (1 : Int32), iv (0 : Int32)] [(.int (0 : Int32)), (.ref aT), (.int x), (.double t)])) rfl rfl (hb hby dp23_22_24) tg kg) ?_
  refine galoadN X2 hx (hb hby dp23_22_25) rfl rfl ?_
  obtain ⟨T4, X4, e4, st4⟩ := getF X2 hx hZ hown (host := "") (Or.inl (hwk hw 12 rfl)) Via.refl e2 FI1 (g := (mkF m 26 #[rv a, iv (1 : Int32), iv x, .val (.double t), .second, iv (1 : Int32), iv (0 : Int32)] [(.ref a), (.double (D (0 : Int32))), (.int x), (.double t)])) rfl rfl (hb hby dp23_22_26)
  refine Goes.st st4 ?_
  refine giload X4 hx (hb hby dp23_22_29) rfl ?_
  show Gs p e below s _ _ _ T4 m 31 #[rv a, iv (1 : Int32), iv x, .val (.double t), .second, iv (1 : Int32), iv (0 : Int32)] [(.int (0 : Int32)), (.ref aI), (.double (D (0 : Int32))), (.int x), (.double t)]
  obtain ⟨cl5, Ar5, qk5, Sz5, qz5, Ha5, Gf5⟩ := id VI1
  have in5 := inb_of (j := (0 : Int32)) Sz5 ⟨by decide, by decide⟩
  refine Goes.st (fun tg kg => X4.iaload hx (j := (0 : Int32)) (v := (.int (I (0 : Int32)))) (by rw [e4]; exact Ar5.1) (State.isArrayOf_alike hZ.alike Ar5.2.1) Ar5.2.2 in5 (Ha5.at in5 (get_lst i4_0)) (g := (mkF m 31 #[rv a, iv (1 : Int32), iv x, .val (.double t), .second, iv (1 : Int32), iv (0 : Int32)] [(.int (0 : Int32)), (.ref aI), (.double (D (0 : Int32))), (.int x), (.double t)])) rfl rfl (hb hby dp23_22_31) tg kg) ?_
  obtain ⟨_, _, ⟨T6, L6, k6, n6⟩, -, X6, ⟨Lc6, hQ6, l6, y6, z6⟩, st6⟩ := Jvm.LawKit.callS X4 hx (y := mN6) hown (mvT hZ (hwk hw 69 rfl)) (mvT hZ (hwk hw 70 rfl)) (mvT hZ (hwk hw 2 rfl)) (mvT hZ (hwk hw 71 rfl)) (by decide) (backOf (W := 0) (rmBe l Z a0 hw [] t x (D (0 : Int32)) (I (0 : Int32)) h0 n0 Z0 ) hZ (hwk hw 71 rfl) (hwk hw 2 rfl) (by decide) (by decide)) (g := (mkF m 32 #[rv a, iv (1 : Int32), iv x, .val (.double t), .second, iv (1 : Int32), iv (0 : Int32)] [(.int (I (0 : Int32))), (.double (D (0 : Int32))), (.int x), (.double t)])) rfl (by rw [hml]; rfl) (argsL := [(.double t), (.int x), (.double (D (0 : Int32))), (.int (I (0 : Int32)))]) (rest := []) (lenOf pd__DIDI_Z_1212 rfl) rfl (by show 2 * 0 + _ ≤ _; exact Nat.le_of_eq rfl) (hb hby dp23_22_32) (fun _ _ => ⟨rfl, e4, (by decide : 0 + 0 ≤ 0), (by decide : 0 + 0 ≤ 0)⟩)
  dsimp only [Pt.U, Pt.locs, Pt.cells, Pt.slots] at X6 l6 y6 z6 st6 hQ6
  subst l6 y6 z6
  obtain ⟨rfl, N6q, eh6⟩ := hQ6
  have N6 := Fr.app N0 N6q
  refine Goes.st st6 ?_
  show Gs p e below s _ _ _ T6 m 35 #[rv a, iv (1 : Int32), iv x, .val (.double t), .second, iv (1 : Int32), iv (0 : Int32)] [(.int (bef t x (D (0 : Int32)) (I (0 : Int32))))]
  by_cases c7 : (bef t x (D (0 : Int32)) (I (0 : Int32))) = (0 : Int32)
  · refine gifNo X6 hx (hb hby dp23_22_35) ((if0 _ _).trans (teq c7).2) ?_
    show Gs p e below s _ _ _ T6 m 38 #[rv a, iv (1 : Int32), iv x, .val (.double t), .second, iv (1 : Int32), iv (0 : Int32)] []
    refine ggoto X6 hx (pc' := 68) (hb hby dp23_22_38) (by decide) (by decide) ?_
    show Gs p e below s _ _ _ T6 m 68 #[rv a, iv (1 : Int32), iv x, .val (.double t), .second, iv (1 : Int32), iv (0 : Int32)] []
    refine galoadN X6 hx (hb hby dp23_22_68) rfl rfl ?_
    refine giload X6 hx (hb hby dp23_22_69) rfl ?_
    refine giloadN X6 hx (hb hby dp23_22_71) rfl ?_
    refine gdloadN X6 hx (hb hby dp23_22_72) rfl ?_
    have HR8 : HR Z h0 a aI aT aP kI kT kP I D P n o := ⟨E1, FI1, FT1, FP1, FS1, FO1, VI1, VT1, VP1⟩
    obtain ⟨cc9, qa9, qb9⟩ := Exa.cell E1
    obtain ⟨_, _, ⟨T9, L9, k9, n9⟩, -, X9, ⟨Lc9, hQ9, l9, y9, z9⟩, st9⟩ := X6.privateBack hx (y := mN5) hown (mvT hZ (hwk hw 65 rfl)) (mvT hZ (hwk hw 66 rfl)) (selP (y := mN5) (as := #[]) (mvT hZ (hwk hw 1 rfl)) (mvP hZ (hwk hw 67 rfl)) (mvT hZ (hwk hw 66 rfl)) (by decide)) (Cond.privateMethod_at (mvP hZ (hwk hw 67 rfl) (args := #[]))) (mvT hZ (hwk hw 68 rfl)) (by decide) (backOf (W := 0) (rmPu l Z a0 hw [] a aI aT aP kI kT kP I D P n o (1 : Int32) x t h0 n0 Z0 hB HR8 i4_1 hx4) hZ (hwk hw 68 rfl) (hwk hw 2 rfl) (by decide) (by decide)) (g := (mkF m 73 #[rv a, iv (1 : Int32), iv x, .val (.double t), .second, iv (1 : Int32), iv (0 : Int32)] [(.double t), (.int x), (.int (1 : Int32)), (.ref a)])) rfl (by rw [hml]; rfl) (Steps.refl _) (a := a) (by rw [eh6]; exact qa9) qb9 (argsL := [(.int (1 : Int32)), (.int x), (.double t)]) (rest := []) (lenOf pd__IID_V_e64 rfl) rfl (by show 2 * 0 + _ ≤ _; exact Nat.le_of_eq rfl) (hb hby dp23_22_73) (fun _ _ => ⟨rfl, eh6, (by decide : 0 + 0 ≤ 0), (by decide : 0 + 0 ≤ 0)⟩)
    dsimp only [Pt.U, Pt.locs, Pt.cells, Pt.slots] at X9 l9 y9 z9 st9 hQ9
    subst l9 y9 z9
    obtain ⟨rfl, N9q, K9, HQ9⟩ := hQ9
    have KK10 := K0.trans K9 (allS (Or.inl (List.mem_of_getElem? (i := 0) rfl)) (allS (Or.inl (List.mem_of_getElem? (i := 1) rfl)) (allS (Or.inl (List.mem_of_getElem? (i := 2) rfl)) (allS (Or.inl (List.mem_of_getElem? (i := 3) rfl)) all0))))
    have Z9 : n0 ≤ T9.heap.size := Nat.le_trans Z0 K9.1
    obtain ⟨E11, FI11, FT11, FP11, FS11, FO11, VI11, VT11, VP11⟩ := id HQ9
    have inv12 := hol_end hH i4_1 lt1 hx4 hS
    have N9 := Fr.app N6 N9q
    refine Goes.sts st9 ?_
    show Gs p e below s _ _ _ T9 m 76 #[rv a, iv (1 : Int32), iv x, .val (.double t), .second, iv (1 : Int32), iv (0 : Int32)] []
    have HR13 : HR Z T9.heap a aI aT aP kI kT kP (upd I (1 : Int32) x) (upd D (1 : Int32) t) (upd P x (1 : Int32)) n o := ⟨E11, FI11, FT11, FP11, FS11, FO11, VI11, VT11, VP11⟩
    refine Goes.retV X9 hx hlk hret (hb hby dp23_22_76) ?_ (by decide) (by decide)
    exact ⟨(upd I (1 : Int32) x), (upd D (1 : Int32) t), (upd P x (1 : Int32)), rfl, N9, KK10, HR13, inv12⟩
  · refine gifYes X6 hx (pc' := 41) (hb hby dp23_22_35) ((if0 _ _).trans (feq c7).2) (by decide) (by decide) ?_
    show Gs p e below s _ _ _ T6 m 41 #[rv a, iv (1 : Int32), iv x, .val (.double t), .second, iv (1 : Int32), iv (0 : Int32)] []
    refine galoadN X6 hx (hb hby dp23_22_41) rfl rfl ?_
    refine giload X6 hx (hb hby dp23_22_42) rfl ?_
    refine galoadN X6 hx (hb hby dp23_22_44) rfl rfl ?_
    obtain ⟨T14, X14, e14, st14⟩ := getF X6 hx hZ hown (host := "") (Or.inl (hwk hw 12 rfl)) Via.refl eh6 FI1 (g := (mkF m 45 #[rv a, iv (1 : Int32), iv x, .val (.double t), .second, iv (1 : Int32), iv (0 : Int32)] [(.ref a), (.int (1 : Int32)), (.ref a)])) rfl rfl (hb hby dp23_22_45)
    refine Goes.st st14 ?_
    refine giload X14 hx (hb hby dp23_22_48) rfl ?_
    show Gs p e below s _ _ _ T14 m 50 #[rv a, iv (1 : Int32), iv x, .val (.double t), .second, iv (1 : Int32), iv (0 : Int32)] [(.int (0 : Int32)), (.ref aI), (.int (1 : Int32)), (.ref a)]
    obtain ⟨cl15, Ar15, qk15, Sz15, qz15, Ha15, Gf15⟩ := id VI1
    have in15 := inb_of (j := (0 : Int32)) Sz15 ⟨by decide, by decide⟩
    refine Goes.st (fun tg kg => X14.iaload hx (j := (0 : Int32)) (v := (.int (I (0 : Int32)))) (by rw [e14]; exact Ar15.1) (State.isArrayOf_alike hZ.alike Ar15.2.1) Ar15.2.2 in15 (Ha15.at in15 (get_lst i4_0)) (g := (mkF m 50 #[rv a, iv (1 : Int32), iv x, .val (.double t), .second, iv (1 : Int32), iv (0 : Int32)] [(.int (0 : Int32)), (.ref aI), (.int (1 : Int32)), (.ref a)])) rfl rfl (hb hby dp23_22_50) tg kg) ?_
    refine galoadN X14 hx (hb hby dp23_22_51) rfl rfl ?_
    obtain ⟨T16, X16, e16, st16⟩ := getF X14 hx hZ hown (host := "") (Or.inl (hwk hw 15 rfl)) Via.refl e14 FT1 (g := (mkF m 52 #[rv a, iv (1 : Int32), iv x, .val (.double t), .second, iv (1 : Int32), iv (0 : Int32)] [(.ref a), (.int (I (0 : Int32))), (.int (1 : Int32)), (.ref a)])) rfl rfl (hb hby dp23_22_52)
    refine Goes.st st16 ?_
    refine giload X16 hx (hb hby dp23_22_55) rfl ?_
    show Gs p e below s _ _ _ T16 m 57 #[rv a, iv (1 : Int32), iv x, .val (.double t), .second, iv (1 : Int32), iv (0 : Int32)] [(.int (0 : Int32)), (.ref aT), (.int (I (0 : Int32))), (.int (1 : Int32)), (.ref a)]
    obtain ⟨cl17, Ar17, qk17, Sz17, qz17, Ha17, Gf17⟩ := id VT1
    have in17 := inb_of (j := (0 : Int32)) Sz17 ⟨by decide, by decide⟩
    refine Goes.st (fun tg kg => X16.daload hx (j := (0 : Int32)) (v := (.double (D (0 : Int32)))) (by rw [e16]; exact Ar17.1) (State.isArrayOf_alike hZ.alike Ar17.2.1) Ar17.2.2 in17 (Ha17.at in17 (get_dls i4_0)) (g := (mkF m 57 #[rv a, iv (1 : Int32), iv x, .val (.double t), .second, iv (1 : Int32), iv (0 : Int32)] [(.int (0 : Int32)), (.ref aT), (.int (I (0 : Int32))), (.int (1 : Int32)), (.ref a)])) rfl rfl (hb hby dp23_22_57) tg kg) ?_
    have HR18 : HR Z h0 a aI aT aP kI kT kP I D P n o := ⟨E1, FI1, FT1, FP1, FS1, FO1, VI1, VT1, VP1⟩
    obtain ⟨cc19, qa19, qb19⟩ := Exa.cell E1
    obtain ⟨_, _, ⟨T19, L19, k19, n19⟩, -, X19, ⟨Lc19, hQ19, l19, y19, z19⟩, st19⟩ := X16.privateBack hx (y := mN5) hown (mvT hZ (hwk hw 65 rfl)) (mvT hZ (hwk hw 66 rfl)) (selP (y := mN5) (as := #[]) (mvT hZ (hwk hw 1 rfl)) (mvP hZ (hwk hw 67 rfl)) (mvT hZ (hwk hw 66 rfl)) (by decide)) (Cond.privateMethod_at (mvP hZ (hwk hw 67 rfl) (args := #[]))) (mvT hZ (hwk hw 68 rfl)) (by decide) (backOf (W := 0) (rmPu l Z a0 hw [] a aI aT aP kI kT kP I D P n o (1 : Int32) (I (0 : Int32)) (D (0 : Int32)) h0 n0 Z0 hB HR18 i4_1 (hH.1 _ i4_0)) hZ (hwk hw 68 rfl) (hwk hw 2 rfl) (by decide) (by decide)) (g := (mkF m 58 #[rv a, iv (1 : Int32), iv x, .val (.double t), .second, iv (1 : Int32), iv (0 : Int32)] [(.double (D (0 : Int32))), (.int (I (0 : Int32))), (.int (1 : Int32)), (.ref a)])) rfl (by rw [hml]; rfl) (Steps.refl _) (a := a) (by rw [e16]; exact qa19) qb19 (argsL := [(.int (1 : Int32)), (.int (I (0 : Int32))), (.double (D (0 : Int32)))]) (rest := []) (lenOf pd__IID_V_e64 rfl) rfl (by show 2 * 0 + _ ≤ _; exact Nat.le_of_eq rfl) (hb hby dp23_22_58) (fun _ _ => ⟨rfl, e16, (by decide : 0 + 0 ≤ 0), (by decide : 0 + 0 ≤ 0)⟩)
    dsimp only [Pt.U, Pt.locs, Pt.cells, Pt.slots] at X19 l19 y19 z19 st19 hQ19
    subst l19 y19 z19
    obtain ⟨rfl, N19q, K19, HQ19⟩ := hQ19
    have KK20 := K0.trans K19 (allS (Or.inl (List.mem_of_getElem? (i := 0) rfl)) (allS (Or.inl (List.mem_of_getElem? (i := 1) rfl)) (allS (Or.inl (List.mem_of_getElem? (i := 2) rfl)) (allS (Or.inl (List.mem_of_getElem? (i := 3) rfl)) all0))))
    have Z19 : n0 ≤ T19.heap.size := Nat.le_trans Z0 K19.1
    obtain ⟨E21, FI21, FT21, FP21, FS21, FO21, VI21, VT21, VP21⟩ := id HQ19
    have hol22 := hol_move hH i4_0 lt0 (by decide) i4_1 lt1
    have N19 := Fr.app N6 N19q
    refine Goes.sts st19 ?_
    show Gs p e below s _ _ _ T19 m 61 #[rv a, iv (1 : Int32), iv x, .val (.double t), .second, iv (1 : Int32), iv (0 : Int32)] []
    refine giload X19 hx (hb hby dp23_22_61) rfl ?_
    refine gistore X19 hx (hb hby dp23_22_63) trivial (l' := #[rv a, iv (1 : Int32), iv x, .val (.double t), .second, iv (0 : Int32), iv (0 : Int32)]) rfl ?_
    show Gs p e below s _ _ _ T19 m 65 #[rv a, iv (1 : Int32), iv x, .val (.double t), .second, iv (0 : Int32), iv (0 : Int32)] []
    refine ggoto X19 hx (pc' := 3) (hb hby dp23_22_65) (by decide) (by decide) ?_
    show Gs p e below s _ _ _ T19 m 3 #[rv a, iv (1 : Int32), iv x, .val (.double t), .second, iv (0 : Int32), iv (0 : Int32)] []
    refine giload X19 hx (hb hby dp23_22_3) rfl ?_
    show Gs p e below s _ _ _ T19 m 5 #[rv a, iv (1 : Int32), iv x, .val (.double t), .second, iv (0 : Int32), iv (0 : Int32)] [(.int (0 : Int32))]
    refine gifYes X19 hx (pc' := 68) (hb hby dp23_22_5) (by decide) (by decide) (by decide) ?_
    show Gs p e below s _ _ _ T19 m 68 #[rv a, iv (1 : Int32), iv x, .val (.double t), .second, iv (0 : Int32), iv (0 : Int32)] []
    refine galoadN X19 hx (hb hby dp23_22_68) rfl rfl ?_
    refine giload X19 hx (hb hby dp23_22_69) rfl ?_
    refine giloadN X19 hx (hb hby dp23_22_71) rfl ?_
    refine gdloadN X19 hx (hb hby dp23_22_72) rfl ?_
    have HR23 : HR Z T19.heap a aI aT aP kI kT kP (upd I (1 : Int32) (I (0 : Int32))) (upd D (1 : Int32) (D (0 : Int32))) (upd P (I (0 : Int32)) (1 : Int32)) n o := ⟨E21, FI21, FT21, FP21, FS21, FO21, VI21, VT21, VP21⟩
    obtain ⟨cc24, qa24, qb24⟩ := Exa.cell E21
    obtain ⟨_, _, ⟨T24, L24, k24, n24⟩, -, X24, ⟨Lc24, hQ24, l24, y24, z24⟩, st24⟩ := X19.privateBack hx (y := mN5) hown (mvT hZ (hwk hw 65 rfl)) (mvT hZ (hwk hw 66 rfl)) (selP (y := mN5) (as := #[]) (mvT hZ (hwk hw 1 rfl)) (mvP hZ (hwk hw 67 rfl)) (mvT hZ (hwk hw 66 rfl)) (by decide)) (Cond.privateMethod_at (mvP hZ (hwk hw 67 rfl) (args := #[]))) (mvT hZ (hwk hw 68 rfl)) (by decide) (backOf (W := 0) (rmPu l Z a0 hw [] a aI aT aP kI kT kP (upd I (1 : Int32) (I (0 : Int32))) (upd D (1 : Int32) (D (0 : Int32))) (upd P (I (0 : Int32)) (1 : Int32)) n o (0 : Int32) x t T19.heap n0 Z19 hB HR23 i4_0 hx4) hZ (hwk hw 68 rfl) (hwk hw 2 rfl) (by decide) (by decide)) (g := (mkF m 73 #[rv a, iv (1 : Int32), iv x, .val (.double t), .second, iv (0 : Int32), iv (0 : Int32)] [(.double t), (.int x), (.int (0 : Int32)), (.ref a)])) rfl (by rw [hml]; rfl) (Steps.refl _) (a := a) qa24 qb24 (argsL := [(.int (0 : Int32)), (.int x), (.double t)]) (rest := []) (lenOf pd__IID_V_e64 rfl) rfl (by show 2 * 0 + _ ≤ _; exact Nat.le_of_eq rfl) (hb hby dp23_22_73) (fun _ _ => ⟨rfl, rfl, (by decide : 0 + 0 ≤ 0), (by decide : 0 + 0 ≤ 0)⟩)
    dsimp only [Pt.U, Pt.locs, Pt.cells, Pt.slots] at X24 l24 y24 z24 st24 hQ24
    subst l24 y24 z24
    obtain ⟨rfl, N24q, K24, HQ24⟩ := hQ24
    have KK25 := KK20.trans K24 (allS (Or.inl (List.mem_of_getElem? (i := 0) rfl)) (allS (Or.inl (List.mem_of_getElem? (i := 1) rfl)) (allS (Or.inl (List.mem_of_getElem? (i := 2) rfl)) (allS (Or.inl (List.mem_of_getElem? (i := 3) rfl)) all0))))
    have Z24 : n0 ≤ T24.heap.size := Nat.le_trans Z19 K24.1
    obtain ⟨E26, FI26, FT26, FP26, FS26, FO26, VI26, VT26, VP26⟩ := id HQ24
    have inv27 := hol_end hol22 i4_0 lt0 hx4 hS
    have N24 := Fr.app N19 N24q
    refine Goes.sts st24 ?_
    show Gs p e below s _ _ _ T24 m 76 #[rv a, iv (1 : Int32), iv x, .val (.double t), .second, iv (0 : Int32), iv (0 : Int32)] []
    have HR28 : HR Z T24.heap a aI aT aP kI kT kP (upd (upd I (1 : Int32) (I (0 : Int32))) (0 : Int32) x) (upd (upd D (1 : Int32) (D (0 : Int32))) (0 : Int32) t) (upd (upd P (I (0 : Int32)) (1 : Int32)) x (0 : Int32)) n o := ⟨E26, FI26, FT26, FP26, FS26, FO26, VI26, VT26, VP26⟩
    refine Goes.retV X24 hx hlk hret (hb hby dp23_22_76) ?_ (by decide) (by decide)
    exact ⟨(upd (upd I (1 : Int32) (I (0 : Int32))) (0 : Int32) x), (upd (upd D (1 : Int32) (D (0 : Int32))) (0 : Int32) t), (upd (upd P (I (0 : Int32)) (1 : Int32)) x (0 : Int32)), rfl, N24, KK25, HR28, inv27⟩
theorem ef_U2 (m : MethodId) (x0 : Addr) (x1 : Int32) (x2 : Int32) (x3 : UInt64) : entryFrame m #[(.ref x0), (.int x1), (.int x2), (.double x3)] 7 = mkF m 0 #[rv x0, iv x1, iv x2, .val (.double x3), .second, .unset, .unset] [] := by first | (simp [entryFrame, mkF, argsToLocals, Value.category]; done) | rfl
def QU2 (Z : State) (a aI aT aP : Addr) (kI kT kP : ClassId) (I : Int32 → Int32) (D : Int32 → UInt64) (P : Int32 → Int32) (n o x : Int32) (t : UInt64) (S : Int32 → Prop) (h0 : Heap) (n0 : Nat) (v : Option Value) (h : Heap) (L : List Loc) : Prop := ∃ (I1 : Int32 → Int32) (D1 : Int32 → UInt64) (P1 : Int32 → Int32), v = none ∧ Fr n0 L ∧ Keep h0 h [a, aI, aT, aP] ∧ HR Z h a aI aT aP kI kT kP I1 D1 P1 n o ∧ Inv n S I1 P1
set_option maxRecDepth 65536 in
set_option maxHeartbeats 40000000 in
theorem rmU2 (l : Launch) (Z : State) (a0 : Array Value) (hw : ∀ d ∈ tables_1, d.before a0 Z = true) (ws : List Jvm.Cond) (a aI aT aP : Addr) (kI kT kP : ClassId) (I : Int32 → Int32) (D : Int32 → UInt64) (P : Int32 → Int32) (n o x : Int32) (t : UInt64) (S : Int32 → Prop) (h0 : Heap) (n0 : Nat) (Z0 : n0 ≤ h0.size) (hB : HB n0 a aI aT aP) (hR : HR Z h0 a aI aT aP kI kT kP I D P n o) (hx4 : In4 x) (hH : Hol n (2 : Int32) x S I P) (hS : S x) (hn : (2 : Int32) < n) :
    MetFree l mN7 (head1 (Jvm.Cond.code mN7 prog_23_method_22_code 7 none :: ws) ({ frames := 1, cells := 0, slots := 0, locals := 17 } : Room)) (fun aa U => aa = #[(.ref a), (.int (2 : Int32)), (.int x), (.double t)] ∧ Z.Warmed39 U.vm ∧ U.heap = h0) (fun _ _ _ _ _ => True) (fun _ u1_ o_ u2_ => ∃ v_ l_, o_ = .returned v_ ∧ QU2 Z a aI aT aP kI kT kP I D P n o x t S h0 n0 v_ u2_.heap l_ ∧ FrameEnd u1_ o_ u2_ l_ ({ frames := 1, cells := 0, slots := 0, locals := 17 } : Room).cells ({ frames := 1, cells := 0, slots := 0, locals := 17 } : Room).slots) := by
  refine MetFree.of_bodySF (plainFor_of_name pn_com_example_redoubt_redoubt_engine_IndexHeap) hisR ?_
  intro p e s m args below meth c s₁ Bd hml0 hP hK
  obtain ⟨rfl, hZ, hh⟩ := hP
  have hx := Bd.exec
  have hby := Bd.bytes
  have hlk := BodyLoose.notSynchronized Bd
  have hret := Bd.returns
  have hml : c.maxLocals = 7 := hml0
  have hown : s.vm.findClass "com/example/redoubt/redoubt/engine/IndexHeap" = some m.cls := findClass_of_methodNamed Bd.named
  have hnm := (name_of_methodNamed Bd.named Bd.method).1
  have X0 : Stand p l e ({ frames := 1, cells := 0, slots := 0, locals := 17 } : Room) s m #[(.ref a), (.int (2 : Int32)), (.int x), (.double t)] below meth c s₁ [] 0 0 := Stand.of_body Bd
  have e0 : s₁.heap = h0 := by rw [← hh, Bd.state]; rfl
  have N0 := Fr.nil n0
  refine Goes.st (s := s) (Q := QU2 Z a aI aT aP kI kT kP I D P n o x t S h0 n0) (cs := ({ frames := 1, cells := 0, slots := 0, locals := 17 } : Room).cells) (ss := ({ frames := 1, cells := 0, slots := 0, locals := 17 } : Room).slots) (fun tg kg => castTop (ef_U2 m a (2 : Int32) x t) kg) ?_
  obtain ⟨la, lI, lT, lP, naI, naT, naP, nIT, nIP, nTP⟩ := id hB
  obtain ⟨E1, FI1, FT1, FP1, FS1, FO1, VI1, VT1, VP1⟩ := id hR
  have K0 : Keep h0 h0 [a, aI, aT, aP] := Keep.refl _ _
  have lt0 : (0 : Int32) < n := own_ltt (b := (2 : Int32)) (by decide) hn
  have lt1 : (1 : Int32) < n := own_ltt (b := (2 : Int32)) (by decide) hn
  have lt2 : (2 : Int32) < n := hn
  show Gs p e below s _ _ _ s₁ m 0 #[rv a, iv (2 : Int32), iv x, .val (.double t), .second, .unset, .unset] []
  refine giloadN X0 hx (hb hby dp23_22_0) rfl ?_
  refine gistore X0 hx (hb hby dp23_22_1) trivial (l' := #[rv a, iv (2 : Int32), iv x, .val (.double t), .second, iv (2 : Int32), .unset]) rfl ?_
  refine giload X0 hx (hb hby dp23_22_3) rfl ?_
  show Gs p e below s _ _ _ s₁ m 5 #[rv a, iv (2 : Int32), iv x, .val (.double t), .second, iv (2 : Int32), .unset] [(.int (2 : Int32))]
  refine gifNo X0 hx (hb hby dp23_22_5) (by decide) ?_
  show Gs p e below s _ _ _ s₁ m 8 #[rv a, iv (2 : Int32), iv x, .val (.double t), .second, iv (2 : Int32), .unset] []
  refine giload X0 hx (hb hby dp23_22_8) rfl ?_
  refine giconst X0 hx (hb hby dp23_22_10) ?_
  refine gisub X0 hx (hb hby dp23_22_11) trivial ?_
  show Gs p e below s _ _ _ s₁ m 12 #[rv a, iv (2 : Int32), iv x, .val (.double t), .second, iv (2 : Int32), .unset] [(.int ((2 : Int32) - (1 : Int32)))]
  rw [show ((2 : Int32) - (1 : Int32)) = (1 : Int32) from by decide]
  show Gs p e below s _ _ _ s₁ m 12 #[rv a, iv (2 : Int32), iv x, .val (.double t), .second, iv (2 : Int32), .unset] [(.int (1 : Int32))]
  refine giconst X0 hx (hb hby dp23_22_12) ?_
  show Gs p e below s _ _ _ s₁ m 13 #[rv a, iv (2 : Int32), iv x, .val (.double t), .second, iv (2 : Int32), .unset] [(.int (1 : Int32)), (.int (1 : Int32))]
  refine Goes.st (fun tg kg => XT.iushr X0.here hx rfl (hb hby dp23_22_13) rfl kg) ?_
  show Gs p e below s _ _ _ s₁ m 14 #[rv a, iv (2 : Int32), iv x, .val (.double t), .second, iv (2 : Int32), .unset] [(.int (XT.ushr (1 : Int32) (1 : Int32)))]
  rw [show (XT.ushr (1 : Int32) (1 : Int32)) = (0 : Int32) from by decide]
  show Gs p e below s _ _ _ s₁ m 14 #[rv a, iv (2 : Int32), iv x, .val (.double t), .second, iv (2 : Int32), .unset] [(.int (0 : Int32))]
  refine gistore X0 hx (hb hby dp23_22_14) trivial (l' := #[rv a, iv (2 : Int32), iv x, .val (.double t), .second, iv (2 : Int32), iv (0 : Int32)]) rfl ?_
  refine gdloadN X0 hx (hb hby dp23_22_16) rfl ?_
  refine giloadN X0 hx (hb hby dp23_22_17) rfl ?_
  refine galoadN X0 hx (hb hby dp23_22_18) rfl rfl ?_
  obtain ⟨T2, X2, e2, st2⟩ := getF X0 hx hZ hown (host := "") (Or.inl (hwk hw 15 rfl)) Via.refl e0 FT1 (g := (mkF m 19 #[rv a, iv (2 : Int32), iv x, .val (.double t), .second, iv (2 : Int32), iv (0 : Int32)] [(.ref a), (.int x), (.double t)])) rfl rfl (hb hby dp23_22_19)
  refine Goes.st st2 ?_
  show Gs p e below s _ _ _ T2 m 22 #[rv a, iv (2 : Int32), iv x, .val (.double t), .second, iv (2 : Int32), iv (0 : Int32)] [(.ref aT), (.int x), (.double t)]
  refine giload X2 hx (hb hby dp23_22_22) rfl ?_
  show Gs p e below s _ _ _ T2 m 24 #[rv a, iv (2 : Int32), iv x, .val (.double t), .second, iv (2 : Int32), iv (0 : Int32)] [(.int (0 : Int32)), (.ref aT), (.int x), (.double t)]
  obtain ⟨cl3, Ar3, qk3, Sz3, qz3, Ha3, Gf3⟩ := id VT1
  have in3 := inb_of (j := (0 : Int32)) Sz3 ⟨by decide, by decide⟩
  refine Goes.st (fun tg kg => X2.daload hx (j := (0 : Int32)) (v := (.double (D (0 : Int32)))) (by rw [e2]; exact Ar3.1) (State.isArrayOf_alike hZ.alike Ar3.2.1) Ar3.2.2 in3 (Ha3.at in3 (get_dls i4_0)) (g := (mkF m 24 #[rv a, iv (2 : Int32), iv x, .val (.double t), .second, iv (2 : Int32), iv (0 : Int32)] [(.int (0 : Int32)), (.ref aT), (.int x), (.double t)])) rfl rfl (hb hby dp23_22_24) tg kg) ?_
  refine galoadN X2 hx (hb hby dp23_22_25) rfl rfl ?_
  obtain ⟨T4, X4, e4, st4⟩ := getF X2 hx hZ hown (host := "") (Or.inl (hwk hw 12 rfl)) Via.refl e2 FI1 (g := (mkF m 26 #[rv a, iv (2 : Int32), iv x, .val (.double t), .second, iv (2 : Int32), iv (0 : Int32)] [(.ref a), (.double (D (0 : Int32))), (.int x), (.double t)])) rfl rfl (hb hby dp23_22_26)
  refine Goes.st st4 ?_
  refine giload X4 hx (hb hby dp23_22_29) rfl ?_
  show Gs p e below s _ _ _ T4 m 31 #[rv a, iv (2 : Int32), iv x, .val (.double t), .second, iv (2 : Int32), iv (0 : Int32)] [(.int (0 : Int32)), (.ref aI), (.double (D (0 : Int32))), (.int x), (.double t)]
  obtain ⟨cl5, Ar5, qk5, Sz5, qz5, Ha5, Gf5⟩ := id VI1
  have in5 := inb_of (j := (0 : Int32)) Sz5 ⟨by decide, by decide⟩
  refine Goes.st (fun tg kg => X4.iaload hx (j := (0 : Int32)) (v := (.int (I (0 : Int32)))) (by rw [e4]; exact Ar5.1) (State.isArrayOf_alike hZ.alike Ar5.2.1) Ar5.2.2 in5 (Ha5.at in5 (get_lst i4_0)) (g := (mkF m 31 #[rv a, iv (2 : Int32), iv x, .val (.double t), .second, iv (2 : Int32), iv (0 : Int32)] [(.int (0 : Int32)), (.ref aI), (.double (D (0 : Int32))), (.int x), (.double t)])) rfl rfl (hb hby dp23_22_31) tg kg) ?_
  obtain ⟨_, _, ⟨T6, L6, k6, n6⟩, -, X6, ⟨Lc6, hQ6, l6, y6, z6⟩, st6⟩ := Jvm.LawKit.callS X4 hx (y := mN6) hown (mvT hZ (hwk hw 69 rfl)) (mvT hZ (hwk hw 70 rfl)) (mvT hZ (hwk hw 2 rfl)) (mvT hZ (hwk hw 71 rfl)) (by decide) (backOf (W := 0) (rmBe l Z a0 hw [] t x (D (0 : Int32)) (I (0 : Int32)) h0 n0 Z0 ) hZ (hwk hw 71 rfl) (hwk hw 2 rfl) (by decide) (by decide)) (g := (mkF m 32 #[rv a, iv (2 : Int32), iv x, .val (.double t), .second, iv (2 : Int32), iv (0 : Int32)] [(.int (I (0 : Int32))), (.double (D (0 : Int32))), (.int x), (.double t)])) rfl (by rw [hml]; rfl) (argsL := [(.double t), (.int x), (.double (D (0 : Int32))), (.int (I (0 : Int32)))]) (rest := []) (lenOf pd__DIDI_Z_1212 rfl) rfl (by show 2 * 0 + _ ≤ _; exact Nat.le_of_eq rfl) (hb hby dp23_22_32) (fun _ _ => ⟨rfl, e4, (by decide : 0 + 0 ≤ 0), (by decide : 0 + 0 ≤ 0)⟩)
  dsimp only [Pt.U, Pt.locs, Pt.cells, Pt.slots] at X6 l6 y6 z6 st6 hQ6
  subst l6 y6 z6
  obtain ⟨rfl, N6q, eh6⟩ := hQ6
  have N6 := Fr.app N0 N6q
  refine Goes.st st6 ?_
  show Gs p e below s _ _ _ T6 m 35 #[rv a, iv (2 : Int32), iv x, .val (.double t), .second, iv (2 : Int32), iv (0 : Int32)] [(.int (bef t x (D (0 : Int32)) (I (0 : Int32))))]
  by_cases c7 : (bef t x (D (0 : Int32)) (I (0 : Int32))) = (0 : Int32)
  · refine gifNo X6 hx (hb hby dp23_22_35) ((if0 _ _).trans (teq c7).2) ?_
    show Gs p e below s _ _ _ T6 m 38 #[rv a, iv (2 : Int32), iv x, .val (.double t), .second, iv (2 : Int32), iv (0 : Int32)] []
    refine ggoto X6 hx (pc' := 68) (hb hby dp23_22_38) (by decide) (by decide) ?_
    show Gs p e below s _ _ _ T6 m 68 #[rv a, iv (2 : Int32), iv x, .val (.double t), .second, iv (2 : Int32), iv (0 : Int32)] []
    refine galoadN X6 hx (hb hby dp23_22_68) rfl rfl ?_
    refine giload X6 hx (hb hby dp23_22_69) rfl ?_
    refine giloadN X6 hx (hb hby dp23_22_71) rfl ?_
    refine gdloadN X6 hx (hb hby dp23_22_72) rfl ?_
    have HR8 : HR Z h0 a aI aT aP kI kT kP I D P n o := ⟨E1, FI1, FT1, FP1, FS1, FO1, VI1, VT1, VP1⟩
    obtain ⟨cc9, qa9, qb9⟩ := Exa.cell E1
    obtain ⟨_, _, ⟨T9, L9, k9, n9⟩, -, X9, ⟨Lc9, hQ9, l9, y9, z9⟩, st9⟩ := X6.privateBack hx (y := mN5) hown (mvT hZ (hwk hw 65 rfl)) (mvT hZ (hwk hw 66 rfl)) (selP (y := mN5) (as := #[]) (mvT hZ (hwk hw 1 rfl)) (mvP hZ (hwk hw 67 rfl)) (mvT hZ (hwk hw 66 rfl)) (by decide)) (Cond.privateMethod_at (mvP hZ (hwk hw 67 rfl) (args := #[]))) (mvT hZ (hwk hw 68 rfl)) (by decide) (backOf (W := 0) (rmPu l Z a0 hw [] a aI aT aP kI kT kP I D P n o (2 : Int32) x t h0 n0 Z0 hB HR8 i4_2 hx4) hZ (hwk hw 68 rfl) (hwk hw 2 rfl) (by decide) (by decide)) (g := (mkF m 73 #[rv a, iv (2 : Int32), iv x, .val (.double t), .second, iv (2 : Int32), iv (0 : Int32)] [(.double t), (.int x), (.int (2 : Int32)), (.ref a)])) rfl (by rw [hml]; rfl) (Steps.refl _) (a := a) (by rw [eh6]; exact qa9) qb9 (argsL := [(.int (2 : Int32)), (.int x), (.double t)]) (rest := []) (lenOf pd__IID_V_e64 rfl) rfl (by show 2 * 0 + _ ≤ _; exact Nat.le_of_eq rfl) (hb hby dp23_22_73) (fun _ _ => ⟨rfl, eh6, (by decide : 0 + 0 ≤ 0), (by decide : 0 + 0 ≤ 0)⟩)
    dsimp only [Pt.U, Pt.locs, Pt.cells, Pt.slots] at X9 l9 y9 z9 st9 hQ9
    subst l9 y9 z9
    obtain ⟨rfl, N9q, K9, HQ9⟩ := hQ9
    have KK10 := K0.trans K9 (allS (Or.inl (List.mem_of_getElem? (i := 0) rfl)) (allS (Or.inl (List.mem_of_getElem? (i := 1) rfl)) (allS (Or.inl (List.mem_of_getElem? (i := 2) rfl)) (allS (Or.inl (List.mem_of_getElem? (i := 3) rfl)) all0))))
    have Z9 : n0 ≤ T9.heap.size := Nat.le_trans Z0 K9.1
    obtain ⟨E11, FI11, FT11, FP11, FS11, FO11, VI11, VT11, VP11⟩ := id HQ9
    have inv12 := hol_end hH i4_2 lt2 hx4 hS
    have N9 := Fr.app N6 N9q
    refine Goes.sts st9 ?_
    show Gs p e below s _ _ _ T9 m 76 #[rv a, iv (2 : Int32), iv x, .val (.double t), .second, iv (2 : Int32), iv (0 : Int32)] []
    have HR13 : HR Z T9.heap a aI aT aP kI kT kP (upd I (2 : Int32) x) (upd D (2 : Int32) t) (upd P x (2 : Int32)) n o := ⟨E11, FI11, FT11, FP11, FS11, FO11, VI11, VT11, VP11⟩
    refine Goes.retV X9 hx hlk hret (hb hby dp23_22_76) ?_ (by decide) (by decide)
    exact ⟨(upd I (2 : Int32) x), (upd D (2 : Int32) t), (upd P x (2 : Int32)), rfl, N9, KK10, HR13, inv12⟩
  · refine gifYes X6 hx (pc' := 41) (hb hby dp23_22_35) ((if0 _ _).trans (feq c7).2) (by decide) (by decide) ?_
    show Gs p e below s _ _ _ T6 m 41 #[rv a, iv (2 : Int32), iv x, .val (.double t), .second, iv (2 : Int32), iv (0 : Int32)] []
    refine galoadN X6 hx (hb hby dp23_22_41) rfl rfl ?_
    refine giload X6 hx (hb hby dp23_22_42) rfl ?_
    refine galoadN X6 hx (hb hby dp23_22_44) rfl rfl ?_
    obtain ⟨T14, X14, e14, st14⟩ := getF X6 hx hZ hown (host := "") (Or.inl (hwk hw 12 rfl)) Via.refl eh6 FI1 (g := (mkF m 45 #[rv a, iv (2 : Int32), iv x, .val (.double t), .second, iv (2 : Int32), iv (0 : Int32)] [(.ref a), (.int (2 : Int32)), (.ref a)])) rfl rfl (hb hby dp23_22_45)
    refine Goes.st st14 ?_
    refine giload X14 hx (hb hby dp23_22_48) rfl ?_
    show Gs p e below s _ _ _ T14 m 50 #[rv a, iv (2 : Int32), iv x, .val (.double t), .second, iv (2 : Int32), iv (0 : Int32)] [(.int (0 : Int32)), (.ref aI), (.int (2 : Int32)), (.ref a)]
    obtain ⟨cl15, Ar15, qk15, Sz15, qz15, Ha15, Gf15⟩ := id VI1
    have in15 := inb_of (j := (0 : Int32)) Sz15 ⟨by decide, by decide⟩
    refine Goes.st (fun tg kg => X14.iaload hx (j := (0 : Int32)) (v := (.int (I (0 : Int32)))) (by rw [e14]; exact Ar15.1) (State.isArrayOf_alike hZ.alike Ar15.2.1) Ar15.2.2 in15 (Ha15.at in15 (get_lst i4_0)) (g := (mkF m 50 #[rv a, iv (2 : Int32), iv x, .val (.double t), .second, iv (2 : Int32), iv (0 : Int32)] [(.int (0 : Int32)), (.ref aI), (.int (2 : Int32)), (.ref a)])) rfl rfl (hb hby dp23_22_50) tg kg) ?_
    refine galoadN X14 hx (hb hby dp23_22_51) rfl rfl ?_
    obtain ⟨T16, X16, e16, st16⟩ := getF X14 hx hZ hown (host := "") (Or.inl (hwk hw 15 rfl)) Via.refl e14 FT1 (g := (mkF m 52 #[rv a, iv (2 : Int32), iv x, .val (.double t), .second, iv (2 : Int32), iv (0 : Int32)] [(.ref a), (.int (I (0 : Int32))), (.int (2 : Int32)), (.ref a)])) rfl rfl (hb hby dp23_22_52)
    refine Goes.st st16 ?_
    refine giload X16 hx (hb hby dp23_22_55) rfl ?_
    show Gs p e below s _ _ _ T16 m 57 #[rv a, iv (2 : Int32), iv x, .val (.double t), .second, iv (2 : Int32), iv (0 : Int32)] [(.int (0 : Int32)), (.ref aT), (.int (I (0 : Int32))), (.int (2 : Int32)), (.ref a)]
    obtain ⟨cl17, Ar17, qk17, Sz17, qz17, Ha17, Gf17⟩ := id VT1
    have in17 := inb_of (j := (0 : Int32)) Sz17 ⟨by decide, by decide⟩
    refine Goes.st (fun tg kg => X16.daload hx (j := (0 : Int32)) (v := (.double (D (0 : Int32)))) (by rw [e16]; exact Ar17.1) (State.isArrayOf_alike hZ.alike Ar17.2.1) Ar17.2.2 in17 (Ha17.at in17 (get_dls i4_0)) (g := (mkF m 57 #[rv a, iv (2 : Int32), iv x, .val (.double t), .second, iv (2 : Int32), iv (0 : Int32)] [(.int (0 : Int32)), (.ref aT), (.int (I (0 : Int32))), (.int (2 : Int32)), (.ref a)])) rfl rfl (hb hby dp23_22_57) tg kg) ?_
    have HR18 : HR Z h0 a aI aT aP kI kT kP I D P n o := ⟨E1, FI1, FT1, FP1, FS1, FO1, VI1, VT1, VP1⟩
    obtain ⟨cc19, qa19, qb19⟩ := Exa.cell E1
    obtain ⟨_, _, ⟨T19, L19, k19, n19⟩, -, X19, ⟨Lc19, hQ19, l19, y19, z19⟩, st19⟩ := X16.privateBack hx (y := mN5) hown (mvT hZ (hwk hw 65 rfl)) (mvT hZ (hwk hw 66 rfl)) (selP (y := mN5) (as := #[]) (mvT hZ (hwk hw 1 rfl)) (mvP hZ (hwk hw 67 rfl)) (mvT hZ (hwk hw 66 rfl)) (by decide)) (Cond.privateMethod_at (mvP hZ (hwk hw 67 rfl) (args := #[]))) (mvT hZ (hwk hw 68 rfl)) (by decide) (backOf (W := 0) (rmPu l Z a0 hw [] a aI aT aP kI kT kP I D P n o (2 : Int32) (I (0 : Int32)) (D (0 : Int32)) h0 n0 Z0 hB HR18 i4_2 (hH.1 _ i4_0)) hZ (hwk hw 68 rfl) (hwk hw 2 rfl) (by decide) (by decide)) (g := (mkF m 58 #[rv a, iv (2 : Int32), iv x, .val (.double t), .second, iv (2 : Int32), iv (0 : Int32)] [(.double (D (0 : Int32))), (.int (I (0 : Int32))), (.int (2 : Int32)), (.ref a)])) rfl (by rw [hml]; rfl) (Steps.refl _) (a := a) (by rw [e16]; exact qa19) qb19 (argsL := [(.int (2 : Int32)), (.int (I (0 : Int32))), (.double (D (0 : Int32)))]) (rest := []) (lenOf pd__IID_V_e64 rfl) rfl (by show 2 * 0 + _ ≤ _; exact Nat.le_of_eq rfl) (hb hby dp23_22_58) (fun _ _ => ⟨rfl, e16, (by decide : 0 + 0 ≤ 0), (by decide : 0 + 0 ≤ 0)⟩)
    dsimp only [Pt.U, Pt.locs, Pt.cells, Pt.slots] at X19 l19 y19 z19 st19 hQ19
    subst l19 y19 z19
    obtain ⟨rfl, N19q, K19, HQ19⟩ := hQ19
    have KK20 := K0.trans K19 (allS (Or.inl (List.mem_of_getElem? (i := 0) rfl)) (allS (Or.inl (List.mem_of_getElem? (i := 1) rfl)) (allS (Or.inl (List.mem_of_getElem? (i := 2) rfl)) (allS (Or.inl (List.mem_of_getElem? (i := 3) rfl)) all0))))
    have Z19 : n0 ≤ T19.heap.size := Nat.le_trans Z0 K19.1
    obtain ⟨E21, FI21, FT21, FP21, FS21, FO21, VI21, VT21, VP21⟩ := id HQ19
    have hol22 := hol_move hH i4_0 lt0 (by decide) i4_2 lt2
    have N19 := Fr.app N6 N19q
    refine Goes.sts st19 ?_
    show Gs p e below s _ _ _ T19 m 61 #[rv a, iv (2 : Int32), iv x, .val (.double t), .second, iv (2 : Int32), iv (0 : Int32)] []
    refine giload X19 hx (hb hby dp23_22_61) rfl ?_
    refine gistore X19 hx (hb hby dp23_22_63) trivial (l' := #[rv a, iv (2 : Int32), iv x, .val (.double t), .second, iv (0 : Int32), iv (0 : Int32)]) rfl ?_
    show Gs p e below s _ _ _ T19 m 65 #[rv a, iv (2 : Int32), iv x, .val (.double t), .second, iv (0 : Int32), iv (0 : Int32)] []
    refine ggoto X19 hx (pc' := 3) (hb hby dp23_22_65) (by decide) (by decide) ?_
    show Gs p e below s _ _ _ T19 m 3 #[rv a, iv (2 : Int32), iv x, .val (.double t), .second, iv (0 : Int32), iv (0 : Int32)] []
    refine giload X19 hx (hb hby dp23_22_3) rfl ?_
    show Gs p e below s _ _ _ T19 m 5 #[rv a, iv (2 : Int32), iv x, .val (.double t), .second, iv (0 : Int32), iv (0 : Int32)] [(.int (0 : Int32))]
    refine gifYes X19 hx (pc' := 68) (hb hby dp23_22_5) (by decide) (by decide) (by decide) ?_
    show Gs p e below s _ _ _ T19 m 68 #[rv a, iv (2 : Int32), iv x, .val (.double t), .second, iv (0 : Int32), iv (0 : Int32)] []
    refine galoadN X19 hx (hb hby dp23_22_68) rfl rfl ?_
    refine giload X19 hx (hb hby dp23_22_69) rfl ?_
    refine giloadN X19 hx (hb hby dp23_22_71) rfl ?_
    refine gdloadN X19 hx (hb hby dp23_22_72) rfl ?_
    have HR23 : HR Z T19.heap a aI aT aP kI kT kP (upd I (2 : Int32) (I (0 : Int32))) (upd D (2 : Int32) (D (0 : Int32))) (upd P (I (0 : Int32)) (2 : Int32)) n o := ⟨E21, FI21, FT21, FP21, FS21, FO21, VI21, VT21, VP21⟩
    obtain ⟨cc24, qa24, qb24⟩ := Exa.cell E21
    obtain ⟨_, _, ⟨T24, L24, k24, n24⟩, -, X24, ⟨Lc24, hQ24, l24, y24, z24⟩, st24⟩ := X19.privateBack hx (y := mN5) hown (mvT hZ (hwk hw 65 rfl)) (mvT hZ (hwk hw 66 rfl)) (selP (y := mN5) (as := #[]) (mvT hZ (hwk hw 1 rfl)) (mvP hZ (hwk hw 67 rfl)) (mvT hZ (hwk hw 66 rfl)) (by decide)) (Cond.privateMethod_at (mvP hZ (hwk hw 67 rfl) (args := #[]))) (mvT hZ (hwk hw 68 rfl)) (by decide) (backOf (W := 0) (rmPu l Z a0 hw [] a aI aT aP kI kT kP (upd I (2 : Int32) (I (0 : Int32))) (upd D (2 : Int32) (D (0 : Int32))) (upd P (I (0 : Int32)) (2 : Int32)) n o (0 : Int32) x t T19.heap n0 Z19 hB HR23 i4_0 hx4) hZ (hwk hw 68 rfl) (hwk hw 2 rfl) (by decide) (by decide)) (g := (mkF m 73 #[rv a, iv (2 : Int32), iv x, .val (.double t), .second, iv (0 : Int32), iv (0 : Int32)] [(.double t), (.int x), (.int (0 : Int32)), (.ref a)])) rfl (by rw [hml]; rfl) (Steps.refl _) (a := a) qa24 qb24 (argsL := [(.int (0 : Int32)), (.int x), (.double t)]) (rest := []) (lenOf pd__IID_V_e64 rfl) rfl (by show 2 * 0 + _ ≤ _; exact Nat.le_of_eq rfl) (hb hby dp23_22_73) (fun _ _ => ⟨rfl, rfl, (by decide : 0 + 0 ≤ 0), (by decide : 0 + 0 ≤ 0)⟩)
    dsimp only [Pt.U, Pt.locs, Pt.cells, Pt.slots] at X24 l24 y24 z24 st24 hQ24
    subst l24 y24 z24
    obtain ⟨rfl, N24q, K24, HQ24⟩ := hQ24
    have KK25 := KK20.trans K24 (allS (Or.inl (List.mem_of_getElem? (i := 0) rfl)) (allS (Or.inl (List.mem_of_getElem? (i := 1) rfl)) (allS (Or.inl (List.mem_of_getElem? (i := 2) rfl)) (allS (Or.inl (List.mem_of_getElem? (i := 3) rfl)) all0))))
    have Z24 : n0 ≤ T24.heap.size := Nat.le_trans Z19 K24.1
    obtain ⟨E26, FI26, FT26, FP26, FS26, FO26, VI26, VT26, VP26⟩ := id HQ24
    have inv27 := hol_end hol22 i4_0 lt0 hx4 hS
    have N24 := Fr.app N19 N24q
    refine Goes.sts st24 ?_
    show Gs p e below s _ _ _ T24 m 76 #[rv a, iv (2 : Int32), iv x, .val (.double t), .second, iv (0 : Int32), iv (0 : Int32)] []
    have HR28 : HR Z T24.heap a aI aT aP kI kT kP (upd (upd I (2 : Int32) (I (0 : Int32))) (0 : Int32) x) (upd (upd D (2 : Int32) (D (0 : Int32))) (0 : Int32) t) (upd (upd P (I (0 : Int32)) (2 : Int32)) x (0 : Int32)) n o := ⟨E26, FI26, FT26, FP26, FS26, FO26, VI26, VT26, VP26⟩
    refine Goes.retV X24 hx hlk hret (hb hby dp23_22_76) ?_ (by decide) (by decide)
    exact ⟨(upd (upd I (2 : Int32) (I (0 : Int32))) (0 : Int32) x), (upd (upd D (2 : Int32) (D (0 : Int32))) (0 : Int32) t), (upd (upd P (I (0 : Int32)) (2 : Int32)) x (0 : Int32)), rfl, N24, KK25, HR28, inv27⟩
theorem ef_U3 (m : MethodId) (x0 : Addr) (x1 : Int32) (x2 : Int32) (x3 : UInt64) : entryFrame m #[(.ref x0), (.int x1), (.int x2), (.double x3)] 7 = mkF m 0 #[rv x0, iv x1, iv x2, .val (.double x3), .second, .unset, .unset] [] := by first | (simp [entryFrame, mkF, argsToLocals, Value.category]; done) | rfl
def QU3 (Z : State) (a aI aT aP : Addr) (kI kT kP : ClassId) (I : Int32 → Int32) (D : Int32 → UInt64) (P : Int32 → Int32) (n o x : Int32) (t : UInt64) (S : Int32 → Prop) (h0 : Heap) (n0 : Nat) (v : Option Value) (h : Heap) (L : List Loc) : Prop := ∃ (I1 : Int32 → Int32) (D1 : Int32 → UInt64) (P1 : Int32 → Int32), v = none ∧ Fr n0 L ∧ Keep h0 h [a, aI, aT, aP] ∧ HR Z h a aI aT aP kI kT kP I1 D1 P1 n o ∧ Inv n S I1 P1
set_option maxRecDepth 65536 in
set_option maxHeartbeats 40000000 in
theorem rmU3 (l : Launch) (Z : State) (a0 : Array Value) (hw : ∀ d ∈ tables_1, d.before a0 Z = true) (ws : List Jvm.Cond) (a aI aT aP : Addr) (kI kT kP : ClassId) (I : Int32 → Int32) (D : Int32 → UInt64) (P : Int32 → Int32) (n o x : Int32) (t : UInt64) (S : Int32 → Prop) (h0 : Heap) (n0 : Nat) (Z0 : n0 ≤ h0.size) (hB : HB n0 a aI aT aP) (hR : HR Z h0 a aI aT aP kI kT kP I D P n o) (hx4 : In4 x) (hH : Hol n (3 : Int32) x S I P) (hS : S x) (hn : (3 : Int32) < n) :
    MetFree l mN7 (head1 (Jvm.Cond.code mN7 prog_23_method_22_code 7 none :: ws) ({ frames := 1, cells := 0, slots := 0, locals := 17 } : Room)) (fun aa U => aa = #[(.ref a), (.int (3 : Int32)), (.int x), (.double t)] ∧ Z.Warmed39 U.vm ∧ U.heap = h0) (fun _ _ _ _ _ => True) (fun _ u1_ o_ u2_ => ∃ v_ l_, o_ = .returned v_ ∧ QU3 Z a aI aT aP kI kT kP I D P n o x t S h0 n0 v_ u2_.heap l_ ∧ FrameEnd u1_ o_ u2_ l_ ({ frames := 1, cells := 0, slots := 0, locals := 17 } : Room).cells ({ frames := 1, cells := 0, slots := 0, locals := 17 } : Room).slots) := by
  refine MetFree.of_bodySF (plainFor_of_name pn_com_example_redoubt_redoubt_engine_IndexHeap) hisR ?_
  intro p e s m args below meth c s₁ Bd hml0 hP hK
  obtain ⟨rfl, hZ, hh⟩ := hP
  have hx := Bd.exec
  have hby := Bd.bytes
  have hlk := BodyLoose.notSynchronized Bd
  have hret := Bd.returns
  have hml : c.maxLocals = 7 := hml0
  have hown : s.vm.findClass "com/example/redoubt/redoubt/engine/IndexHeap" = some m.cls := findClass_of_methodNamed Bd.named
  have hnm := (name_of_methodNamed Bd.named Bd.method).1
  have X0 : Stand p l e ({ frames := 1, cells := 0, slots := 0, locals := 17 } : Room) s m #[(.ref a), (.int (3 : Int32)), (.int x), (.double t)] below meth c s₁ [] 0 0 := Stand.of_body Bd
  have e0 : s₁.heap = h0 := by rw [← hh, Bd.state]; rfl
  have N0 := Fr.nil n0
  refine Goes.st (s := s) (Q := QU3 Z a aI aT aP kI kT kP I D P n o x t S h0 n0) (cs := ({ frames := 1, cells := 0, slots := 0, locals := 17 } : Room).cells) (ss := ({ frames := 1, cells := 0, slots := 0, locals := 17 } : Room).slots) (fun tg kg => castTop (ef_U3 m a (3 : Int32) x t) kg) ?_
  obtain ⟨la, lI, lT, lP, naI, naT, naP, nIT, nIP, nTP⟩ := id hB
  obtain ⟨E1, FI1, FT1, FP1, FS1, FO1, VI1, VT1, VP1⟩ := id hR
  have K0 : Keep h0 h0 [a, aI, aT, aP] := Keep.refl _ _
  have lt0 : (0 : Int32) < n := own_ltt (b := (3 : Int32)) (by decide) hn
  have lt1 : (1 : Int32) < n := own_ltt (b := (3 : Int32)) (by decide) hn
  have lt2 : (2 : Int32) < n := own_ltt (b := (3 : Int32)) (by decide) hn
  have lt3 : (3 : Int32) < n := hn
  show Gs p e below s _ _ _ s₁ m 0 #[rv a, iv (3 : Int32), iv x, .val (.double t), .second, .unset, .unset] []
  refine giloadN X0 hx (hb hby dp23_22_0) rfl ?_
  refine gistore X0 hx (hb hby dp23_22_1) trivial (l' := #[rv a, iv (3 : Int32), iv x, .val (.double t), .second, iv (3 : Int32), .unset]) rfl ?_
  refine giload X0 hx (hb hby dp23_22_3) rfl ?_
  show Gs p e below s _ _ _ s₁ m 5 #[rv a, iv (3 : Int32), iv x, .val (.double t), .second, iv (3 : Int32), .unset] [(.int (3 : Int32))]
  refine gifNo X0 hx (hb hby dp23_22_5) (by decide) ?_
  show Gs p e below s _ _ _ s₁ m 8 #[rv a, iv (3 : Int32), iv x, .val (.double t), .second, iv (3 : Int32), .unset] []
  refine giload X0 hx (hb hby dp23_22_8) rfl ?_
  refine giconst X0 hx (hb hby dp23_22_10) ?_
  refine gisub X0 hx (hb hby dp23_22_11) trivial ?_
  show Gs p e below s _ _ _ s₁ m 12 #[rv a, iv (3 : Int32), iv x, .val (.double t), .second, iv (3 : Int32), .unset] [(.int ((3 : Int32) - (1 : Int32)))]
  rw [show ((3 : Int32) - (1 : Int32)) = (2 : Int32) from by decide]
  show Gs p e below s _ _ _ s₁ m 12 #[rv a, iv (3 : Int32), iv x, .val (.double t), .second, iv (3 : Int32), .unset] [(.int (2 : Int32))]
  refine giconst X0 hx (hb hby dp23_22_12) ?_
  show Gs p e below s _ _ _ s₁ m 13 #[rv a, iv (3 : Int32), iv x, .val (.double t), .second, iv (3 : Int32), .unset] [(.int (1 : Int32)), (.int (2 : Int32))]
  refine Goes.st (fun tg kg => XT.iushr X0.here hx rfl (hb hby dp23_22_13) rfl kg) ?_
  show Gs p e below s _ _ _ s₁ m 14 #[rv a, iv (3 : Int32), iv x, .val (.double t), .second, iv (3 : Int32), .unset] [(.int (XT.ushr (2 : Int32) (1 : Int32)))]
  rw [show (XT.ushr (2 : Int32) (1 : Int32)) = (1 : Int32) from by decide]
  show Gs p e below s _ _ _ s₁ m 14 #[rv a, iv (3 : Int32), iv x, .val (.double t), .second, iv (3 : Int32), .unset] [(.int (1 : Int32))]
  refine gistore X0 hx (hb hby dp23_22_14) trivial (l' := #[rv a, iv (3 : Int32), iv x, .val (.double t), .second, iv (3 : Int32), iv (1 : Int32)]) rfl ?_
  refine gdloadN X0 hx (hb hby dp23_22_16) rfl ?_
  refine giloadN X0 hx (hb hby dp23_22_17) rfl ?_
  refine galoadN X0 hx (hb hby dp23_22_18) rfl rfl ?_
  obtain ⟨T2, X2, e2, st2⟩ := getF X0 hx hZ hown (host := "") (Or.inl (hwk hw 15 rfl)) Via.refl e0 FT1 (g := (mkF m 19 #[rv a, iv (3 : Int32), iv x, .val (.double t), .second, iv (3 : Int32), iv (1 : Int32)] [(.ref a), (.int x), (.double t)])) rfl rfl (hb hby dp23_22_19)
  refine Goes.st st2 ?_
  show Gs p e below s _ _ _ T2 m 22 #[rv a, iv (3 : Int32), iv x, .val (.double t), .second, iv (3 : Int32), iv (1 : Int32)] [(.ref aT), (.int x), (.double t)]
  refine giload X2 hx (hb hby dp23_22_22) rfl ?_
  show Gs p e below s _ _ _ T2 m 24 #[rv a, iv (3 : Int32), iv x, .val (.double t), .second, iv (3 : Int32), iv (1 : Int32)] [(.int (1 : Int32)), (.ref aT), (.int x), (.double t)]
  obtain ⟨cl3, Ar3, qk3, Sz3, qz3, Ha3, Gf3⟩ := id VT1
  have in3 := inb_of (j := (1 : Int32)) Sz3 ⟨by decide, by decide⟩
  refine Goes.st (fun tg kg => X2.daload hx (j := (1 : Int32)) (v := (.double (D (1 : Int32)))) (by rw [e2]; exact Ar3.1) (State.isArrayOf_alike hZ.alike Ar3.2.1) Ar3.2.2 in3 (Ha3.at in3 (get_dls i4_1)) (g := (mkF m 24 #[rv a, iv (3 : Int32), iv x, .val (.double t), .second, iv (3 : Int32), iv (1 : Int32)] [(.int (1 : Int32)), (.ref aT), (.int x), (.double t)])) rfl rfl (hb hby dp23_22_24) tg kg) ?_
  refine galoadN X2 hx (hb hby dp23_22_25) rfl rfl ?_
  obtain ⟨T4, X4, e4, st4⟩ := getF X2 hx hZ hown (host := "") (Or.inl (hwk hw 12 rfl)) Via.refl e2 FI1 (g := (mkF m 26 #[rv a, iv (3 : Int32), iv x, .val (.double t), .second, iv (3 : Int32), iv (1 : Int32)] [(.ref a), (.double (D (1 : Int32))), (.int x), (.double t)])) rfl rfl (hb hby dp23_22_26)
  refine Goes.st st4 ?_
  refine giload X4 hx (hb hby dp23_22_29) rfl ?_
  show Gs p e below s _ _ _ T4 m 31 #[rv a, iv (3 : Int32), iv x, .val (.double t), .second, iv (3 : Int32), iv (1 : Int32)] [(.int (1 : Int32)), (.ref aI), (.double (D (1 : Int32))), (.int x), (.double t)]
  obtain ⟨cl5, Ar5, qk5, Sz5, qz5, Ha5, Gf5⟩ := id VI1
  have in5 := inb_of (j := (1 : Int32)) Sz5 ⟨by decide, by decide⟩
  refine Goes.st (fun tg kg => X4.iaload hx (j := (1 : Int32)) (v := (.int (I (1 : Int32)))) (by rw [e4]; exact Ar5.1) (State.isArrayOf_alike hZ.alike Ar5.2.1) Ar5.2.2 in5 (Ha5.at in5 (get_lst i4_1)) (g := (mkF m 31 #[rv a, iv (3 : Int32), iv x, .val (.double t), .second, iv (3 : Int32), iv (1 : Int32)] [(.int (1 : Int32)), (.ref aI), (.double (D (1 : Int32))), (.int x), (.double t)])) rfl rfl (hb hby dp23_22_31) tg kg) ?_
  obtain ⟨_, _, ⟨T6, L6, k6, n6⟩, -, X6, ⟨Lc6, hQ6, l6, y6, z6⟩, st6⟩ := Jvm.LawKit.callS X4 hx (y := mN6) hown (mvT hZ (hwk hw 69 rfl)) (mvT hZ (hwk hw 70 rfl)) (mvT hZ (hwk hw 2 rfl)) (mvT hZ (hwk hw 71 rfl)) (by decide) (backOf (W := 0) (rmBe l Z a0 hw [] t x (D (1 : Int32)) (I (1 : Int32)) h0 n0 Z0 ) hZ (hwk hw 71 rfl) (hwk hw 2 rfl) (by decide) (by decide)) (g := (mkF m 32 #[rv a, iv (3 : Int32), iv x, .val (.double t), .second, iv (3 : Int32), iv (1 : Int32)] [(.int (I (1 : Int32))), (.double (D (1 : Int32))), (.int x), (.double t)])) rfl (by rw [hml]; rfl) (argsL := [(.double t), (.int x), (.double (D (1 : Int32))), (.int (I (1 : Int32)))]) (rest := []) (lenOf pd__DIDI_Z_1212 rfl) rfl (by show 2 * 0 + _ ≤ _; exact Nat.le_of_eq rfl) (hb hby dp23_22_32) (fun _ _ => ⟨rfl, e4, (by decide : 0 + 0 ≤ 0), (by decide : 0 + 0 ≤ 0)⟩)
  dsimp only [Pt.U, Pt.locs, Pt.cells, Pt.slots] at X6 l6 y6 z6 st6 hQ6
  subst l6 y6 z6
  obtain ⟨rfl, N6q, eh6⟩ := hQ6
  have N6 := Fr.app N0 N6q
  refine Goes.st st6 ?_
  show Gs p e below s _ _ _ T6 m 35 #[rv a, iv (3 : Int32), iv x, .val (.double t), .second, iv (3 : Int32), iv (1 : Int32)] [(.int (bef t x (D (1 : Int32)) (I (1 : Int32))))]
  by_cases c7 : (bef t x (D (1 : Int32)) (I (1 : Int32))) = (0 : Int32)
  · refine gifNo X6 hx (hb hby dp23_22_35) ((if0 _ _).trans (teq c7).2) ?_
    show Gs p e below s _ _ _ T6 m 38 #[rv a, iv (3 : Int32), iv x, .val (.double t), .second, iv (3 : Int32), iv (1 : Int32)] []
    refine ggoto X6 hx (pc' := 68) (hb hby dp23_22_38) (by decide) (by decide) ?_
    show Gs p e below s _ _ _ T6 m 68 #[rv a, iv (3 : Int32), iv x, .val (.double t), .second, iv (3 : Int32), iv (1 : Int32)] []
    refine galoadN X6 hx (hb hby dp23_22_68) rfl rfl ?_
    refine giload X6 hx (hb hby dp23_22_69) rfl ?_
    refine giloadN X6 hx (hb hby dp23_22_71) rfl ?_
    refine gdloadN X6 hx (hb hby dp23_22_72) rfl ?_
    have HR8 : HR Z h0 a aI aT aP kI kT kP I D P n o := ⟨E1, FI1, FT1, FP1, FS1, FO1, VI1, VT1, VP1⟩
    obtain ⟨cc9, qa9, qb9⟩ := Exa.cell E1
    obtain ⟨_, _, ⟨T9, L9, k9, n9⟩, -, X9, ⟨Lc9, hQ9, l9, y9, z9⟩, st9⟩ := X6.privateBack hx (y := mN5) hown (mvT hZ (hwk hw 65 rfl)) (mvT hZ (hwk hw 66 rfl)) (selP (y := mN5) (as := #[]) (mvT hZ (hwk hw 1 rfl)) (mvP hZ (hwk hw 67 rfl)) (mvT hZ (hwk hw 66 rfl)) (by decide)) (Cond.privateMethod_at (mvP hZ (hwk hw 67 rfl) (args := #[]))) (mvT hZ (hwk hw 68 rfl)) (by decide) (backOf (W := 0) (rmPu l Z a0 hw [] a aI aT aP kI kT kP I D P n o (3 : Int32) x t h0 n0 Z0 hB HR8 i4_3 hx4) hZ (hwk hw 68 rfl) (hwk hw 2 rfl) (by decide) (by decide)) (g := (mkF m 73 #[rv a, iv (3 : Int32), iv x, .val (.double t), .second, iv (3 : Int32), iv (1 : Int32)] [(.double t), (.int x), (.int (3 : Int32)), (.ref a)])) rfl (by rw [hml]; rfl) (Steps.refl _) (a := a) (by rw [eh6]; exact qa9) qb9 (argsL := [(.int (3 : Int32)), (.int x), (.double t)]) (rest := []) (lenOf pd__IID_V_e64 rfl) rfl (by show 2 * 0 + _ ≤ _; exact Nat.le_of_eq rfl) (hb hby dp23_22_73) (fun _ _ => ⟨rfl, eh6, (by decide : 0 + 0 ≤ 0), (by decide : 0 + 0 ≤ 0)⟩)
    dsimp only [Pt.U, Pt.locs, Pt.cells, Pt.slots] at X9 l9 y9 z9 st9 hQ9
    subst l9 y9 z9
    obtain ⟨rfl, N9q, K9, HQ9⟩ := hQ9
    have KK10 := K0.trans K9 (allS (Or.inl (List.mem_of_getElem? (i := 0) rfl)) (allS (Or.inl (List.mem_of_getElem? (i := 1) rfl)) (allS (Or.inl (List.mem_of_getElem? (i := 2) rfl)) (allS (Or.inl (List.mem_of_getElem? (i := 3) rfl)) all0))))
    have Z9 : n0 ≤ T9.heap.size := Nat.le_trans Z0 K9.1
    obtain ⟨E11, FI11, FT11, FP11, FS11, FO11, VI11, VT11, VP11⟩ := id HQ9
    have inv12 := hol_end hH i4_3 lt3 hx4 hS
    have N9 := Fr.app N6 N9q
    refine Goes.sts st9 ?_
    show Gs p e below s _ _ _ T9 m 76 #[rv a, iv (3 : Int32), iv x, .val (.double t), .second, iv (3 : Int32), iv (1 : Int32)] []
    have HR13 : HR Z T9.heap a aI aT aP kI kT kP (upd I (3 : Int32) x) (upd D (3 : Int32) t) (upd P x (3 : Int32)) n o := ⟨E11, FI11, FT11, FP11, FS11, FO11, VI11, VT11, VP11⟩
    refine Goes.retV X9 hx hlk hret (hb hby dp23_22_76) ?_ (by decide) (by decide)
    exact ⟨(upd I (3 : Int32) x), (upd D (3 : Int32) t), (upd P x (3 : Int32)), rfl, N9, KK10, HR13, inv12⟩
  · refine gifYes X6 hx (pc' := 41) (hb hby dp23_22_35) ((if0 _ _).trans (feq c7).2) (by decide) (by decide) ?_
    show Gs p e below s _ _ _ T6 m 41 #[rv a, iv (3 : Int32), iv x, .val (.double t), .second, iv (3 : Int32), iv (1 : Int32)] []
    refine galoadN X6 hx (hb hby dp23_22_41) rfl rfl ?_
    refine giload X6 hx (hb hby dp23_22_42) rfl ?_
    refine galoadN X6 hx (hb hby dp23_22_44) rfl rfl ?_
    obtain ⟨T14, X14, e14, st14⟩ := getF X6 hx hZ hown (host := "") (Or.inl (hwk hw 12 rfl)) Via.refl eh6 FI1 (g := (mkF m 45 #[rv a, iv (3 : Int32), iv x, .val (.double t), .second, iv (3 : Int32), iv (1 : Int32)] [(.ref a), (.int (3 : Int32)), (.ref a)])) rfl rfl (hb hby dp23_22_45)
    refine Goes.st st14 ?_
    refine giload X14 hx (hb hby dp23_22_48) rfl ?_
    show Gs p e below s _ _ _ T14 m 50 #[rv a, iv (3 : Int32), iv x, .val (.double t), .second, iv (3 : Int32), iv (1 : Int32)] [(.int (1 : Int32)), (.ref aI), (.int (3 : Int32)), (.ref a)]
    obtain ⟨cl15, Ar15, qk15, Sz15, qz15, Ha15, Gf15⟩ := id VI1
    have in15 := inb_of (j := (1 : Int32)) Sz15 ⟨by decide, by decide⟩
    refine Goes.st (fun tg kg => X14.iaload hx (j := (1 : Int32)) (v := (.int (I (1 : Int32)))) (by rw [e14]; exact Ar15.1) (State.isArrayOf_alike hZ.alike Ar15.2.1) Ar15.2.2 in15 (Ha15.at in15 (get_lst i4_1)) (g := (mkF m 50 #[rv a, iv (3 : Int32), iv x, .val (.double t), .second, iv (3 : Int32), iv (1 : Int32)] [(.int (1 : Int32)), (.ref aI), (.int (3 : Int32)), (.ref a)])) rfl rfl (hb hby dp23_22_50) tg kg) ?_
    refine galoadN X14 hx (hb hby dp23_22_51) rfl rfl ?_
    obtain ⟨T16, X16, e16, st16⟩ := getF X14 hx hZ hown (host := "") (Or.inl (hwk hw 15 rfl)) Via.refl e14 FT1 (g := (mkF m 52 #[rv a, iv (3 : Int32), iv x, .val (.double t), .second, iv (3 : Int32), iv (1 : Int32)] [(.ref a), (.int (I (1 : Int32))), (.int (3 : Int32)), (.ref a)])) rfl rfl (hb hby dp23_22_52)
    refine Goes.st st16 ?_
    refine giload X16 hx (hb hby dp23_22_55) rfl ?_
    show Gs p e below s _ _ _ T16 m 57 #[rv a, iv (3 : Int32), iv x, .val (.double t), .second, iv (3 : Int32), iv (1 : Int32)] [(.int (1 : Int32)), (.ref aT), (.int (I (1 : Int32))), (.int (3 : Int32)), (.ref a)]
    obtain ⟨cl17, Ar17, qk17, Sz17, qz17, Ha17, Gf17⟩ := id VT1
    have in17 := inb_of (j := (1 : Int32)) Sz17 ⟨by decide, by decide⟩
    refine Goes.st (fun tg kg => X16.daload hx (j := (1 : Int32)) (v := (.double (D (1 : Int32)))) (by rw [e16]; exact Ar17.1) (State.isArrayOf_alike hZ.alike Ar17.2.1) Ar17.2.2 in17 (Ha17.at in17 (get_dls i4_1)) (g := (mkF m 57 #[rv a, iv (3 : Int32), iv x, .val (.double t), .second, iv (3 : Int32), iv (1 : Int32)] [(.int (1 : Int32)), (.ref aT), (.int (I (1 : Int32))), (.int (3 : Int32)), (.ref a)])) rfl rfl (hb hby dp23_22_57) tg kg) ?_
    have HR18 : HR Z h0 a aI aT aP kI kT kP I D P n o := ⟨E1, FI1, FT1, FP1, FS1, FO1, VI1, VT1, VP1⟩
    obtain ⟨cc19, qa19, qb19⟩ := Exa.cell E1
    obtain ⟨_, _, ⟨T19, L19, k19, n19⟩, -, X19, ⟨Lc19, hQ19, l19, y19, z19⟩, st19⟩ := X16.privateBack hx (y := mN5) hown (mvT hZ (hwk hw 65 rfl)) (mvT hZ (hwk hw 66 rfl)) (selP (y := mN5) (as := #[]) (mvT hZ (hwk hw 1 rfl)) (mvP hZ (hwk hw 67 rfl)) (mvT hZ (hwk hw 66 rfl)) (by decide)) (Cond.privateMethod_at (mvP hZ (hwk hw 67 rfl) (args := #[]))) (mvT hZ (hwk hw 68 rfl)) (by decide) (backOf (W := 0) (rmPu l Z a0 hw [] a aI aT aP kI kT kP I D P n o (3 : Int32) (I (1 : Int32)) (D (1 : Int32)) h0 n0 Z0 hB HR18 i4_3 (hH.1 _ i4_1)) hZ (hwk hw 68 rfl) (hwk hw 2 rfl) (by decide) (by decide)) (g := (mkF m 58 #[rv a, iv (3 : Int32), iv x, .val (.double t), .second, iv (3 : Int32), iv (1 : Int32)] [(.double (D (1 : Int32))), (.int (I (1 : Int32))), (.int (3 : Int32)), (.ref a)])) rfl (by rw [hml]; rfl) (Steps.refl _) (a := a) (by rw [e16]; exact qa19) qb19 (argsL := [(.int (3 : Int32)), (.int (I (1 : Int32))), (.double (D (1 : Int32)))]) (rest := []) (lenOf pd__IID_V_e64 rfl) rfl (by show 2 * 0 + _ ≤ _; exact Nat.le_of_eq rfl) (hb hby dp23_22_58) (fun _ _ => ⟨rfl, e16, (by decide : 0 + 0 ≤ 0), (by decide : 0 + 0 ≤ 0)⟩)
    dsimp only [Pt.U, Pt.locs, Pt.cells, Pt.slots] at X19 l19 y19 z19 st19 hQ19
    subst l19 y19 z19
    obtain ⟨rfl, N19q, K19, HQ19⟩ := hQ19
    have KK20 := K0.trans K19 (allS (Or.inl (List.mem_of_getElem? (i := 0) rfl)) (allS (Or.inl (List.mem_of_getElem? (i := 1) rfl)) (allS (Or.inl (List.mem_of_getElem? (i := 2) rfl)) (allS (Or.inl (List.mem_of_getElem? (i := 3) rfl)) all0))))
    have Z19 : n0 ≤ T19.heap.size := Nat.le_trans Z0 K19.1
    obtain ⟨E21, FI21, FT21, FP21, FS21, FO21, VI21, VT21, VP21⟩ := id HQ19
    have hol22 := hol_move hH i4_1 lt1 (by decide) i4_3 lt3
    have N19 := Fr.app N6 N19q
    refine Goes.sts st19 ?_
    show Gs p e below s _ _ _ T19 m 61 #[rv a, iv (3 : Int32), iv x, .val (.double t), .second, iv (3 : Int32), iv (1 : Int32)] []
    refine giload X19 hx (hb hby dp23_22_61) rfl ?_
    refine gistore X19 hx (hb hby dp23_22_63) trivial (l' := #[rv a, iv (3 : Int32), iv x, .val (.double t), .second, iv (1 : Int32), iv (1 : Int32)]) rfl ?_
    show Gs p e below s _ _ _ T19 m 65 #[rv a, iv (3 : Int32), iv x, .val (.double t), .second, iv (1 : Int32), iv (1 : Int32)] []
    refine ggoto X19 hx (pc' := 3) (hb hby dp23_22_65) (by decide) (by decide) ?_
    show Gs p e below s _ _ _ T19 m 3 #[rv a, iv (3 : Int32), iv x, .val (.double t), .second, iv (1 : Int32), iv (1 : Int32)] []
    refine giload X19 hx (hb hby dp23_22_3) rfl ?_
    show Gs p e below s _ _ _ T19 m 5 #[rv a, iv (3 : Int32), iv x, .val (.double t), .second, iv (1 : Int32), iv (1 : Int32)] [(.int (1 : Int32))]
    refine gifNo X19 hx (hb hby dp23_22_5) (by decide) ?_
    show Gs p e below s _ _ _ T19 m 8 #[rv a, iv (3 : Int32), iv x, .val (.double t), .second, iv (1 : Int32), iv (1 : Int32)] []
    refine giload X19 hx (hb hby dp23_22_8) rfl ?_
    refine giconst X19 hx (hb hby dp23_22_10) ?_
    refine gisub X19 hx (hb hby dp23_22_11) trivial ?_
    show Gs p e below s _ _ _ T19 m 12 #[rv a, iv (3 : Int32), iv x, .val (.double t), .second, iv (1 : Int32), iv (1 : Int32)] [(.int ((1 : Int32) - (1 : Int32)))]
    rw [show ((1 : Int32) - (1 : Int32)) = (0 : Int32) from by decide]
    show Gs p e below s _ _ _ T19 m 12 #[rv a, iv (3 : Int32), iv x, .val (.double t), .second, iv (1 : Int32), iv (1 : Int32)] [(.int (0 : Int32))]
    refine giconst X19 hx (hb hby dp23_22_12) ?_
    show Gs p e below s _ _ _ T19 m 13 #[rv a, iv (3 : Int32), iv x, .val (.double t), .second, iv (1 : Int32), iv (1 : Int32)] [(.int (1 : Int32)), (.int (0 : Int32))]
    refine Goes.st (fun tg kg => XT.iushr X19.here hx rfl (hb hby dp23_22_13) rfl kg) ?_
    show Gs p e below s _ _ _ T19 m 14 #[rv a, iv (3 : Int32), iv x, .val (.double t), .second, iv (1 : Int32), iv (1 : Int32)] [(.int (XT.ushr (0 : Int32) (1 : Int32)))]
    rw [show (XT.ushr (0 : Int32) (1 : Int32)) = (0 : Int32) from by decide]
    show Gs p e below s _ _ _ T19 m 14 #[rv a, iv (3 : Int32), iv x, .val (.double t), .second, iv (1 : Int32), iv (1 : Int32)] [(.int (0 : Int32))]
    refine gistore X19 hx (hb hby dp23_22_14) trivial (l' := #[rv a, iv (3 : Int32), iv x, .val (.double t), .second, iv (1 : Int32), iv (0 : Int32)]) rfl ?_
    refine gdloadN X19 hx (hb hby dp23_22_16) rfl ?_
    refine giloadN X19 hx (hb hby dp23_22_17) rfl ?_
    refine galoadN X19 hx (hb hby dp23_22_18) rfl rfl ?_
    obtain ⟨T23, X23, e23, st23⟩ := getF X19 hx hZ hown (host := "") (Or.inl (hwk hw 15 rfl)) Via.refl rfl FT21 (g := (mkF m 19 #[rv a, iv (3 : Int32), iv x, .val (.double t), .second, iv (1 : Int32), iv (0 : Int32)] [(.ref a), (.int x), (.double t)])) rfl rfl (hb hby dp23_22_19)
    refine Goes.st st23 ?_
    show Gs p e below s _ _ _ T23 m 22 #[rv a, iv (3 : Int32), iv x, .val (.double t), .second, iv (1 : Int32), iv (0 : Int32)] [(.ref aT), (.int x), (.double t)]
    refine giload X23 hx (hb hby dp23_22_22) rfl ?_
    show Gs p e below s _ _ _ T23 m 24 #[rv a, iv (3 : Int32), iv x, .val (.double t), .second, iv (1 : Int32), iv (0 : Int32)] [(.int (0 : Int32)), (.ref aT), (.int x), (.double t)]
    obtain ⟨cl24, Ar24, qk24, Sz24, qz24, Ha24, Gf24⟩ := id VT21
    have in24 := inb_of (j := (0 : Int32)) Sz24 ⟨by decide, by decide⟩
    refine Goes.st (fun tg kg => X23.daload hx (j := (0 : Int32)) (v := (.double ((upd D (3 : Int32) (D (1 : Int32))) (0 : Int32)))) (by rw [e23]; exact Ar24.1) (State.isArrayOf_alike hZ.alike Ar24.2.1) Ar24.2.2 in24 (Ha24.at in24 (get_dls i4_0)) (g := (mkF m 24 #[rv a, iv (3 : Int32), iv x, .val (.double t), .second, iv (1 : Int32), iv (0 : Int32)] [(.int (0 : Int32)), (.ref aT), (.int x), (.double t)])) rfl rfl (hb hby dp23_22_24) tg kg) ?_
    refine galoadN X23 hx (hb hby dp23_22_25) rfl rfl ?_
    obtain ⟨T25, X25, e25, st25⟩ := getF X23 hx hZ hown (host := "") (Or.inl (hwk hw 12 rfl)) Via.refl e23 FI21 (g := (mkF m 26 #[rv a, iv (3 : Int32), iv x, .val (.double t), .second, iv (1 : Int32), iv (0 : Int32)] [(.ref a), (.double ((upd D (3 : Int32) (D (1 : Int32))) (0 : Int32))), (.int x), (.double t)])) rfl rfl (hb hby dp23_22_26)
    refine Goes.st st25 ?_
    refine giload X25 hx (hb hby dp23_22_29) rfl ?_
    show Gs p e below s _ _ _ T25 m 31 #[rv a, iv (3 : Int32), iv x, .val (.double t), .second, iv (1 : Int32), iv (0 : Int32)] [(.int (0 : Int32)), (.ref aI), (.double ((upd D (3 : Int32) (D (1 : Int32))) (0 : Int32))), (.int x), (.double t)]
    obtain ⟨cl26, Ar26, qk26, Sz26, qz26, Ha26, Gf26⟩ := id VI21
    have in26 := inb_of (j := (0 : Int32)) Sz26 ⟨by decide, by decide⟩
    refine Goes.st (fun tg kg => X25.iaload hx (j := (0 : Int32)) (v := (.int ((upd I (3 : Int32) (I (1 : Int32))) (0 : Int32)))) (by rw [e25]; exact Ar26.1) (State.isArrayOf_alike hZ.alike Ar26.2.1) Ar26.2.2 in26 (Ha26.at in26 (get_lst i4_0)) (g := (mkF m 31 #[rv a, iv (3 : Int32), iv x, .val (.double t), .second, iv (1 : Int32), iv (0 : Int32)] [(.int (0 : Int32)), (.ref aI), (.double ((upd D (3 : Int32) (D (1 : Int32))) (0 : Int32))), (.int x), (.double t)])) rfl rfl (hb hby dp23_22_31) tg kg) ?_
    obtain ⟨_, _, ⟨T27, L27, k27, n27⟩, -, X27, ⟨Lc27, hQ27, l27, y27, z27⟩, st27⟩ := Jvm.LawKit.callS X25 hx (y := mN6) hown (mvT hZ (hwk hw 69 rfl)) (mvT hZ (hwk hw 70 rfl)) (mvT hZ (hwk hw 2 rfl)) (mvT hZ (hwk hw 71 rfl)) (by decide) (backOf (W := 0) (rmBe l Z a0 hw [] t x ((upd D (3 : Int32) (D (1 : Int32))) (0 : Int32)) ((upd I (3 : Int32) (I (1 : Int32))) (0 : Int32)) T19.heap n0 Z19 ) hZ (hwk hw 71 rfl) (hwk hw 2 rfl) (by decide) (by decide)) (g := (mkF m 32 #[rv a, iv (3 : Int32), iv x, .val (.double t), .second, iv (1 : Int32), iv (0 : Int32)] [(.int ((upd I (3 : Int32) (I (1 : Int32))) (0 : Int32))), (.double ((upd D (3 : Int32) (D (1 : Int32))) (0 : Int32))), (.int x), (.double t)])) rfl (by rw [hml]; rfl) (argsL := [(.double t), (.int x), (.double ((upd D (3 : Int32) (D (1 : Int32))) (0 : Int32))), (.int ((upd I (3 : Int32) (I (1 : Int32))) (0 : Int32)))]) (rest := []) (lenOf pd__DIDI_Z_1212 rfl) rfl (by show 2 * 0 + _ ≤ _; exact Nat.le_of_eq rfl) (hb hby dp23_22_32) (fun _ _ => ⟨rfl, e25, (by decide : 0 + 0 ≤ 0), (by decide : 0 + 0 ≤ 0)⟩)
    dsimp only [Pt.U, Pt.locs, Pt.cells, Pt.slots] at X27 l27 y27 z27 st27 hQ27
    subst l27 y27 z27
    obtain ⟨rfl, N27q, eh27⟩ := hQ27
    have N27 := Fr.app N19 N27q
    refine Goes.st st27 ?_
    show Gs p e below s _ _ _ T27 m 35 #[rv a, iv (3 : Int32), iv x, .val (.double t), .second, iv (1 : Int32), iv (0 : Int32)] [(.int (bef t x ((upd D (3 : Int32) (D (1 : Int32))) (0 : Int32)) ((upd I (3 : Int32) (I (1 : Int32))) (0 : Int32))))]
    by_cases c28 : (bef t x ((upd D (3 : Int32) (D (1 : Int32))) (0 : Int32)) ((upd I (3 : Int32) (I (1 : Int32))) (0 : Int32))) = (0 : Int32)
    · refine gifNo X27 hx (hb hby dp23_22_35) ((if0 _ _).trans (teq c28).2) ?_
      show Gs p e below s _ _ _ T27 m 38 #[rv a, iv (3 : Int32), iv x, .val (.double t), .second, iv (1 : Int32), iv (0 : Int32)] []
      refine ggoto X27 hx (pc' := 68) (hb hby dp23_22_38) (by decide) (by decide) ?_
      show Gs p e below s _ _ _ T27 m 68 #[rv a, iv (3 : Int32), iv x, .val (.double t), .second, iv (1 : Int32), iv (0 : Int32)] []
      refine galoadN X27 hx (hb hby dp23_22_68) rfl rfl ?_
      refine giload X27 hx (hb hby dp23_22_69) rfl ?_
      refine giloadN X27 hx (hb hby dp23_22_71) rfl ?_
      refine gdloadN X27 hx (hb hby dp23_22_72) rfl ?_
      have HR29 : HR Z T19.heap a aI aT aP kI kT kP (upd I (3 : Int32) (I (1 : Int32))) (upd D (3 : Int32) (D (1 : Int32))) (upd P (I (1 : Int32)) (3 : Int32)) n o := ⟨E21, FI21, FT21, FP21, FS21, FO21, VI21, VT21, VP21⟩
      obtain ⟨cc30, qa30, qb30⟩ := Exa.cell E21
      obtain ⟨_, _, ⟨T30, L30, k30, n30⟩, -, X30, ⟨Lc30, hQ30, l30, y30, z30⟩, st30⟩ := X27.privateBack hx (y := mN5) hown (mvT hZ (hwk hw 65 rfl)) (mvT hZ (hwk hw 66 rfl)) (selP (y := mN5) (as := #[]) (mvT hZ (hwk hw 1 rfl)) (mvP hZ (hwk hw 67 rfl)) (mvT hZ (hwk hw 66 rfl)) (by decide)) (Cond.privateMethod_at (mvP hZ (hwk hw 67 rfl) (args := #[]))) (mvT hZ (hwk hw 68 rfl)) (by decide) (backOf (W := 0) (rmPu l Z a0 hw [] a aI aT aP kI kT kP (upd I (3 : Int32) (I (1 : Int32))) (upd D (3 : Int32) (D (1 : Int32))) (upd P (I (1 : Int32)) (3 : Int32)) n o (1 : Int32) x t T19.heap n0 Z19 hB HR29 i4_1 hx4) hZ (hwk hw 68 rfl) (hwk hw 2 rfl) (by decide) (by decide)) (g := (mkF m 73 #[rv a, iv (3 : Int32), iv x, .val (.double t), .second, iv (1 : Int32), iv (0 : Int32)] [(.double t), (.int x), (.int (1 : Int32)), (.ref a)])) rfl (by rw [hml]; rfl) (Steps.refl _) (a := a) (by rw [eh27]; exact qa30) qb30 (argsL := [(.int (1 : Int32)), (.int x), (.double t)]) (rest := []) (lenOf pd__IID_V_e64 rfl) rfl (by show 2 * 0 + _ ≤ _; exact Nat.le_of_eq rfl) (hb hby dp23_22_73) (fun _ _ => ⟨rfl, eh27, (by decide : 0 + 0 ≤ 0), (by decide : 0 + 0 ≤ 0)⟩)
      dsimp only [Pt.U, Pt.locs, Pt.cells, Pt.slots] at X30 l30 y30 z30 st30 hQ30
      subst l30 y30 z30
      obtain ⟨rfl, N30q, K30, HQ30⟩ := hQ30
      have KK31 := KK20.trans K30 (allS (Or.inl (List.mem_of_getElem? (i := 0) rfl)) (allS (Or.inl (List.mem_of_getElem? (i := 1) rfl)) (allS (Or.inl (List.mem_of_getElem? (i := 2) rfl)) (allS (Or.inl (List.mem_of_getElem? (i := 3) rfl)) all0))))
      have Z30 : n0 ≤ T30.heap.size := Nat.le_trans Z19 K30.1
      obtain ⟨E32, FI32, FT32, FP32, FS32, FO32, VI32, VT32, VP32⟩ := id HQ30
      have inv33 := hol_end hol22 i4_1 lt1 hx4 hS
      have N30 := Fr.app N27 N30q
      refine Goes.sts st30 ?_
      show Gs p e below s _ _ _ T30 m 76 #[rv a, iv (3 : Int32), iv x, .val (.double t), .second, iv (1 : Int32), iv (0 : Int32)] []
      have HR34 : HR Z T30.heap a aI aT aP kI kT kP (upd (upd I (3 : Int32) (I (1 : Int32))) (1 : Int32) x) (upd (upd D (3 : Int32) (D (1 : Int32))) (1 : Int32) t) (upd (upd P (I (1 : Int32)) (3 : Int32)) x (1 : Int32)) n o := ⟨E32, FI32, FT32, FP32, FS32, FO32, VI32, VT32, VP32⟩
      refine Goes.retV X30 hx hlk hret (hb hby dp23_22_76) ?_ (by decide) (by decide)
      exact ⟨(upd (upd I (3 : Int32) (I (1 : Int32))) (1 : Int32) x), (upd (upd D (3 : Int32) (D (1 : Int32))) (1 : Int32) t), (upd (upd P (I (1 : Int32)) (3 : Int32)) x (1 : Int32)), rfl, N30, KK31, HR34, inv33⟩
    · refine gifYes X27 hx (pc' := 41) (hb hby dp23_22_35) ((if0 _ _).trans (feq c28).2) (by decide) (by decide) ?_
      show Gs p e below s _ _ _ T27 m 41 #[rv a, iv (3 : Int32), iv x, .val (.double t), .second, iv (1 : Int32), iv (0 : Int32)] []
      refine galoadN X27 hx (hb hby dp23_22_41) rfl rfl ?_
      refine giload X27 hx (hb hby dp23_22_42) rfl ?_
      refine galoadN X27 hx (hb hby dp23_22_44) rfl rfl ?_
      obtain ⟨T35, X35, e35, st35⟩ := getF X27 hx hZ hown (host := "") (Or.inl (hwk hw 12 rfl)) Via.refl eh27 FI21 (g := (mkF m 45 #[rv a, iv (3 : Int32), iv x, .val (.double t), .second, iv (1 : Int32), iv (0 : Int32)] [(.ref a), (.int (1 : Int32)), (.ref a)])) rfl rfl (hb hby dp23_22_45)
      refine Goes.st st35 ?_
      refine giload X35 hx (hb hby dp23_22_48) rfl ?_
      show Gs p e below s _ _ _ T35 m 50 #[rv a, iv (3 : Int32), iv x, .val (.double t), .second, iv (1 : Int32), iv (0 : Int32)] [(.int (0 : Int32)), (.ref aI), (.int (1 : Int32)), (.ref a)]
      obtain ⟨cl36, Ar36, qk36, Sz36, qz36, Ha36, Gf36⟩ := id VI21
      have in36 := inb_of (j := (0 : Int32)) Sz36 ⟨by decide, by decide⟩
      refine Goes.st (fun tg kg => X35.iaload hx (j := (0 : Int32)) (v := (.int ((upd I (3 : Int32) (I (1 : Int32))) (0 : Int32)))) (by rw [e35]; exact Ar36.1) (State.isArrayOf_alike hZ.alike Ar36.2.1) Ar36.2.2 in36 (Ha36.at in36 (get_lst i4_0)) (g := (mkF m 50 #[rv a, iv (3 : Int32), iv x, .val (.double t), .second, iv (1 : Int32), iv (0 : Int32)] [(.int (0 : Int32)), (.ref aI), (.int (1 : Int32)), (.ref a)])) rfl rfl (hb hby dp23_22_50) tg kg) ?_
      refine galoadN X35 hx (hb hby dp23_22_51) rfl rfl ?_
      obtain ⟨T37, X37, e37, st37⟩ := getF X35 hx hZ hown (host := "") (Or.inl (hwk hw 15 rfl)) Via.refl e35 FT21 (g := (mkF m 52 #[rv a, iv (3 : Int32), iv x, .val (.double t), .second, iv (1 : Int32), iv (0 : Int32)] [(.ref a), (.int ((upd I (3 : Int32) (I (1 : Int32))) (0 : Int32))), (.int (1 : Int32)), (.ref a)])) rfl rfl (hb hby dp23_22_52)
      refine Goes.st st37 ?_
      refine giload X37 hx (hb hby dp23_22_55) rfl ?_
      show Gs p e below s _ _ _ T37 m 57 #[rv a, iv (3 : Int32), iv x, .val (.double t), .second, iv (1 : Int32), iv (0 : Int32)] [(.int (0 : Int32)), (.ref aT), (.int ((upd I (3 : Int32) (I (1 : Int32))) (0 : Int32))), (.int (1 : Int32)), (.ref a)]
      obtain ⟨cl38, Ar38, qk38, Sz38, qz38, Ha38, Gf38⟩ := id VT21
      have in38 := inb_of (j := (0 : Int32)) Sz38 ⟨by decide, by decide⟩
      refine Goes.st (fun tg kg => X37.daload hx (j := (0 : Int32)) (v := (.double ((upd D (3 : Int32) (D (1 : Int32))) (0 : Int32)))) (by rw [e37]; exact Ar38.1) (State.isArrayOf_alike hZ.alike Ar38.2.1) Ar38.2.2 in38 (Ha38.at in38 (get_dls i4_0)) (g := (mkF m 57 #[rv a, iv (3 : Int32), iv x, .val (.double t), .second, iv (1 : Int32), iv (0 : Int32)] [(.int (0 : Int32)), (.ref aT), (.int ((upd I (3 : Int32) (I (1 : Int32))) (0 : Int32))), (.int (1 : Int32)), (.ref a)])) rfl rfl (hb hby dp23_22_57) tg kg) ?_
      have HR39 : HR Z T19.heap a aI aT aP kI kT kP (upd I (3 : Int32) (I (1 : Int32))) (upd D (3 : Int32) (D (1 : Int32))) (upd P (I (1 : Int32)) (3 : Int32)) n o := ⟨E21, FI21, FT21, FP21, FS21, FO21, VI21, VT21, VP21⟩
      obtain ⟨cc40, qa40, qb40⟩ := Exa.cell E21
      obtain ⟨_, _, ⟨T40, L40, k40, n40⟩, -, X40, ⟨Lc40, hQ40, l40, y40, z40⟩, st40⟩ := X37.privateBack hx (y := mN5) hown (mvT hZ (hwk hw 65 rfl)) (mvT hZ (hwk hw 66 rfl)) (selP (y := mN5) (as := #[]) (mvT hZ (hwk hw 1 rfl)) (mvP hZ (hwk hw 67 rfl)) (mvT hZ (hwk hw 66 rfl)) (by decide)) (Cond.privateMethod_at (mvP hZ (hwk hw 67 rfl) (args := #[]))) (mvT hZ (hwk hw 68 rfl)) (by decide) (backOf (W := 0) (rmPu l Z a0 hw [] a aI aT aP kI kT kP (upd I (3 : Int32) (I (1 : Int32))) (upd D (3 : Int32) (D (1 : Int32))) (upd P (I (1 : Int32)) (3 : Int32)) n o (1 : Int32) ((upd I (3 : Int32) (I (1 : Int32))) (0 : Int32)) ((upd D (3 : Int32) (D (1 : Int32))) (0 : Int32)) T19.heap n0 Z19 hB HR39 i4_1 (hol22.1 _ i4_0)) hZ (hwk hw 68 rfl) (hwk hw 2 rfl) (by decide) (by decide)) (g := (mkF m 58 #[rv a, iv (3 : Int32), iv x, .val (.double t), .second, iv (1 : Int32), iv (0 : Int32)] [(.double ((upd D (3 : Int32) (D (1 : Int32))) (0 : Int32))), (.int ((upd I (3 : Int32) (I (1 : Int32))) (0 : Int32))), (.int (1 : Int32)), (.ref a)])) rfl (by rw [hml]; rfl) (Steps.refl _) (a := a) (by rw [e37]; exact qa40) qb40 (argsL := [(.int (1 : Int32)), (.int ((upd I (3 : Int32) (I (1 : Int32))) (0 : Int32))), (.double ((upd D (3 : Int32) (D (1 : Int32))) (0 : Int32)))]) (rest := []) (lenOf pd__IID_V_e64 rfl) rfl (by show 2 * 0 + _ ≤ _; exact Nat.le_of_eq rfl) (hb hby dp23_22_58) (fun _ _ => ⟨rfl, e37, (by decide : 0 + 0 ≤ 0), (by decide : 0 + 0 ≤ 0)⟩)
      dsimp only [Pt.U, Pt.locs, Pt.cells, Pt.slots] at X40 l40 y40 z40 st40 hQ40
      subst l40 y40 z40
      obtain ⟨rfl, N40q, K40, HQ40⟩ := hQ40
      have KK41 := KK20.trans K40 (allS (Or.inl (List.mem_of_getElem? (i := 0) rfl)) (allS (Or.inl (List.mem_of_getElem? (i := 1) rfl)) (allS (Or.inl (List.mem_of_getElem? (i := 2) rfl)) (allS (Or.inl (List.mem_of_getElem? (i := 3) rfl)) all0))))
      have Z40 : n0 ≤ T40.heap.size := Nat.le_trans Z19 K40.1
      obtain ⟨E42, FI42, FT42, FP42, FS42, FO42, VI42, VT42, VP42⟩ := id HQ40
      have hol43 := hol_move hol22 i4_0 lt0 (by decide) i4_1 lt1
      have N40 := Fr.app N27 N40q
      refine Goes.sts st40 ?_
      show Gs p e below s _ _ _ T40 m 61 #[rv a, iv (3 : Int32), iv x, .val (.double t), .second, iv (1 : Int32), iv (0 : Int32)] []
      refine giload X40 hx (hb hby dp23_22_61) rfl ?_
      refine gistore X40 hx (hb hby dp23_22_63) trivial (l' := #[rv a, iv (3 : Int32), iv x, .val (.double t), .second, iv (0 : Int32), iv (0 : Int32)]) rfl ?_
      show Gs p e below s _ _ _ T40 m 65 #[rv a, iv (3 : Int32), iv x, .val (.double t), .second, iv (0 : Int32), iv (0 : Int32)] []
      refine ggoto X40 hx (pc' := 3) (hb hby dp23_22_65) (by decide) (by decide) ?_
      show Gs p e below s _ _ _ T40 m 3 #[rv a, iv (3 : Int32), iv x, .val (.double t), .second, iv (0 : Int32), iv (0 : Int32)] []
      refine giload X40 hx (hb hby dp23_22_3) rfl ?_
      show Gs p e below s _ _ _ T40 m 5 #[rv a, iv (3 : Int32), iv x, .val (.double t), .second, iv (0 : Int32), iv (0 : Int32)] [(.int (0 : Int32))]
      refine gifYes X40 hx (pc' := 68) (hb hby dp23_22_5) (by decide) (by decide) (by decide) ?_
      show Gs p e below s _ _ _ T40 m 68 #[rv a, iv (3 : Int32), iv x, .val (.double t), .second, iv (0 : Int32), iv (0 : Int32)] []
      refine galoadN X40 hx (hb hby dp23_22_68) rfl rfl ?_
      refine giload X40 hx (hb hby dp23_22_69) rfl ?_
      refine giloadN X40 hx (hb hby dp23_22_71) rfl ?_
      refine gdloadN X40 hx (hb hby dp23_22_72) rfl ?_
      have HR44 : HR Z T40.heap a aI aT aP kI kT kP (upd (upd I (3 : Int32) (I (1 : Int32))) (1 : Int32) ((upd I (3 : Int32) (I (1 : Int32))) (0 : Int32))) (upd (upd D (3 : Int32) (D (1 : Int32))) (1 : Int32) ((upd D (3 : Int32) (D (1 : Int32))) (0 : Int32))) (upd (upd P (I (1 : Int32)) (3 : Int32)) ((upd I (3 : Int32) (I (1 : Int32))) (0 : Int32)) (1 : Int32)) n o := ⟨E42, FI42, FT42, FP42, FS42, FO42, VI42, VT42, VP42⟩
      obtain ⟨cc45, qa45, qb45⟩ := Exa.cell E42
      obtain ⟨_, _, ⟨T45, L45, k45, n45⟩, -, X45, ⟨Lc45, hQ45, l45, y45, z45⟩, st45⟩ := X40.privateBack hx (y := mN5) hown (mvT hZ (hwk hw 65 rfl)) (mvT hZ (hwk hw 66 rfl)) (selP (y := mN5) (as := #[]) (mvT hZ (hwk hw 1 rfl)) (mvP hZ (hwk hw 67 rfl)) (mvT hZ (hwk hw 66 rfl)) (by decide)) (Cond.privateMethod_at (mvP hZ (hwk hw 67 rfl) (args := #[]))) (mvT hZ (hwk hw 68 rfl)) (by decide) (backOf (W := 0) (rmPu l Z a0 hw [] a aI aT aP kI kT kP (upd (upd I (3 : Int32) (I (1 : Int32))) (1 : Int32) ((upd I (3 : Int32) (I (1 : Int32))) (0 : Int32))) (upd (upd D (3 : Int32) (D (1 : Int32))) (1 : Int32) ((upd D (3 : Int32) (D (1 : Int32))) (0 : Int32))) (upd (upd P (I (1 : Int32)) (3 : Int32)) ((upd I (3 : Int32) (I (1 : Int32))) (0 : Int32)) (1 : Int32)) n o (0 : Int32) x t T40.heap n0 Z40 hB HR44 i4_0 hx4) hZ (hwk hw 68 rfl) (hwk hw 2 rfl) (by decide) (by decide)) (g := (mkF m 73 #[rv a, iv (3 : Int32), iv x, .val (.double t), .second, iv (0 : Int32), iv (0 : Int32)] [(.double t), (.int x), (.int (0 : Int32)), (.ref a)])) rfl (by rw [hml]; rfl) (Steps.refl _) (a := a) qa45 qb45 (argsL := [(.int (0 : Int32)), (.int x), (.double t)]) (rest := []) (lenOf pd__IID_V_e64 rfl) rfl (by show 2 * 0 + _ ≤ _; exact Nat.le_of_eq rfl) (hb hby dp23_22_73) (fun _ _ => ⟨rfl, rfl, (by decide : 0 + 0 ≤ 0), (by decide : 0 + 0 ≤ 0)⟩)
      dsimp only [Pt.U, Pt.locs, Pt.cells, Pt.slots] at X45 l45 y45 z45 st45 hQ45
      subst l45 y45 z45
      obtain ⟨rfl, N45q, K45, HQ45⟩ := hQ45
      have KK46 := KK41.trans K45 (allS (Or.inl (List.mem_of_getElem? (i := 0) rfl)) (allS (Or.inl (List.mem_of_getElem? (i := 1) rfl)) (allS (Or.inl (List.mem_of_getElem? (i := 2) rfl)) (allS (Or.inl (List.mem_of_getElem? (i := 3) rfl)) all0))))
      have Z45 : n0 ≤ T45.heap.size := Nat.le_trans Z40 K45.1
      obtain ⟨E47, FI47, FT47, FP47, FS47, FO47, VI47, VT47, VP47⟩ := id HQ45
      have inv48 := hol_end hol43 i4_0 lt0 hx4 hS
      have N45 := Fr.app N40 N45q
      refine Goes.sts st45 ?_
      show Gs p e below s _ _ _ T45 m 76 #[rv a, iv (3 : Int32), iv x, .val (.double t), .second, iv (0 : Int32), iv (0 : Int32)] []
      have HR49 : HR Z T45.heap a aI aT aP kI kT kP (upd (upd (upd I (3 : Int32) (I (1 : Int32))) (1 : Int32) ((upd I (3 : Int32) (I (1 : Int32))) (0 : Int32))) (0 : Int32) x) (upd (upd (upd D (3 : Int32) (D (1 : Int32))) (1 : Int32) ((upd D (3 : Int32) (D (1 : Int32))) (0 : Int32))) (0 : Int32) t) (upd (upd (upd P (I (1 : Int32)) (3 : Int32)) ((upd I (3 : Int32) (I (1 : Int32))) (0 : Int32)) (1 : Int32)) x (0 : Int32)) n o := ⟨E47, FI47, FT47, FP47, FS47, FO47, VI47, VT47, VP47⟩
      refine Goes.retV X45 hx hlk hret (hb hby dp23_22_76) ?_ (by decide) (by decide)
      exact ⟨(upd (upd (upd I (3 : Int32) (I (1 : Int32))) (1 : Int32) ((upd I (3 : Int32) (I (1 : Int32))) (0 : Int32))) (0 : Int32) x), (upd (upd (upd D (3 : Int32) (D (1 : Int32))) (1 : Int32) ((upd D (3 : Int32) (D (1 : Int32))) (0 : Int32))) (0 : Int32) t), (upd (upd (upd P (I (1 : Int32)) (3 : Int32)) ((upd I (3 : Int32) (I (1 : Int32))) (0 : Int32)) (1 : Int32)) x (0 : Int32)), rfl, N45, KK46, HR49, inv48⟩
theorem ef_U0x (m : MethodId) (x0 : Addr) (x1 : Int32) (x2 : Int32) (x3 : UInt64) : entryFrame m #[(.ref x0), (.int x1), (.int x2), (.double x3)] 7 = mkF m 0 #[rv x0, iv x1, iv x2, .val (.double x3), .second, .unset, .unset] [] := by first | (simp [entryFrame, mkF, argsToLocals, Value.category]; done) | rfl
def QU0x (Z : State) (a aI aT aP : Addr) (kI kT kP : ClassId) (I : Int32 → Int32) (D : Int32 → UInt64) (P : Int32 → Int32) (n o x : Int32) (t : UInt64) (h0 : Heap) (n0 : Nat) (v : Option Value) (h : Heap) (L : List Loc) : Prop := v = none ∧ Fr n0 L ∧ Keep h0 h [a, aI, aT, aP] ∧ HR Z h a aI aT aP kI kT kP (upd I 0 x) (upd D 0 t) (upd P x 0) n o
set_option maxRecDepth 65536 in
set_option maxHeartbeats 40000000 in
theorem rmU0x (l : Launch) (Z : State) (a0 : Array Value) (hw : ∀ d ∈ tables_1, d.before a0 Z = true) (ws : List Jvm.Cond) (a aI aT aP : Addr) (kI kT kP : ClassId) (I : Int32 → Int32) (D : Int32 → UInt64) (P : Int32 → Int32) (n o x : Int32) (t : UInt64) (h0 : Heap) (n0 : Nat) (Z0 : n0 ≤ h0.size) (hB : HB n0 a aI aT aP) (hR : HR Z h0 a aI aT aP kI kT kP I D P n o) (hx4 : In4 x) :
    MetFree l mN7 (head1 (Jvm.Cond.code mN7 prog_23_method_22_code 7 none :: ws) ({ frames := 1, cells := 0, slots := 0, locals := 16 } : Room)) (fun aa U => aa = #[(.ref a), (.int (0 : Int32)), (.int x), (.double t)] ∧ Z.Warmed39 U.vm ∧ U.heap = h0) (fun _ _ _ _ _ => True) (fun _ u1_ o_ u2_ => ∃ v_ l_, o_ = .returned v_ ∧ QU0x Z a aI aT aP kI kT kP I D P n o x t h0 n0 v_ u2_.heap l_ ∧ FrameEnd u1_ o_ u2_ l_ ({ frames := 1, cells := 0, slots := 0, locals := 16 } : Room).cells ({ frames := 1, cells := 0, slots := 0, locals := 16 } : Room).slots) := by
  refine MetFree.of_bodySF (plainFor_of_name pn_com_example_redoubt_redoubt_engine_IndexHeap) hisR ?_
  intro p e s m args below meth c s₁ Bd hml0 hP hK
  obtain ⟨rfl, hZ, hh⟩ := hP
  have hx := Bd.exec
  have hby := Bd.bytes
  have hlk := BodyLoose.notSynchronized Bd
  have hret := Bd.returns
  have hml : c.maxLocals = 7 := hml0
  have hown : s.vm.findClass "com/example/redoubt/redoubt/engine/IndexHeap" = some m.cls := findClass_of_methodNamed Bd.named
  have hnm := (name_of_methodNamed Bd.named Bd.method).1
  have X0 : Stand p l e ({ frames := 1, cells := 0, slots := 0, locals := 16 } : Room) s m #[(.ref a), (.int (0 : Int32)), (.int x), (.double t)] below meth c s₁ [] 0 0 := Stand.of_body Bd
  have e0 : s₁.heap = h0 := by rw [← hh, Bd.state]; rfl
  have N0 := Fr.nil n0
  refine Goes.st (s := s) (Q := QU0x Z a aI aT aP kI kT kP I D P n o x t h0 n0) (cs := ({ frames := 1, cells := 0, slots := 0, locals := 16 } : Room).cells) (ss := ({ frames := 1, cells := 0, slots := 0, locals := 16 } : Room).slots) (fun tg kg => castTop (ef_U0x m a (0 : Int32) x t) kg) ?_
  obtain ⟨la, lI, lT, lP, naI, naT, naP, nIT, nIP, nTP⟩ := id hB
  obtain ⟨E1, FI1, FT1, FP1, FS1, FO1, VI1, VT1, VP1⟩ := id hR
  have K0 : Keep h0 h0 [a, aI, aT, aP] := Keep.refl _ _
  show Gs p e below s _ _ _ s₁ m 0 #[rv a, iv (0 : Int32), iv x, .val (.double t), .second, .unset, .unset] []
  refine giloadN X0 hx (hb hby dp23_22_0) rfl ?_
  refine gistore X0 hx (hb hby dp23_22_1) trivial (l' := #[rv a, iv (0 : Int32), iv x, .val (.double t), .second, iv (0 : Int32), .unset]) rfl ?_
  refine giload X0 hx (hb hby dp23_22_3) rfl ?_
  show Gs p e below s _ _ _ s₁ m 5 #[rv a, iv (0 : Int32), iv x, .val (.double t), .second, iv (0 : Int32), .unset] [(.int (0 : Int32))]
  refine gifYes X0 hx (pc' := 68) (hb hby dp23_22_5) (by decide) (by decide) (by decide) ?_
  show Gs p e below s _ _ _ s₁ m 68 #[rv a, iv (0 : Int32), iv x, .val (.double t), .second, iv (0 : Int32), .unset] []
  refine galoadN X0 hx (hb hby dp23_22_68) rfl rfl ?_
  refine giload X0 hx (hb hby dp23_22_69) rfl ?_
  refine giloadN X0 hx (hb hby dp23_22_71) rfl ?_
  refine gdloadN X0 hx (hb hby dp23_22_72) rfl ?_
  have HR2 : HR Z h0 a aI aT aP kI kT kP I D P n o := ⟨E1, FI1, FT1, FP1, FS1, FO1, VI1, VT1, VP1⟩
  obtain ⟨cc3, qa3, qb3⟩ := Exa.cell E1
  obtain ⟨_, _, ⟨T3, L3, k3, n3⟩, -, X3, ⟨Lc3, hQ3, l3, y3, z3⟩, st3⟩ := X0.privateBack hx (y := mN5) hown (mvT hZ (hwk hw 65 rfl)) (mvT hZ (hwk hw 66 rfl)) (selP (y := mN5) (as := #[]) (mvT hZ (hwk hw 1 rfl)) (mvP hZ (hwk hw 67 rfl)) (mvT hZ (hwk hw 66 rfl)) (by decide)) (Cond.privateMethod_at (mvP hZ (hwk hw 67 rfl) (args := #[]))) (mvT hZ (hwk hw 68 rfl)) (by decide) (backOf (W := 0) (rmPu l Z a0 hw [] a aI aT aP kI kT kP I D P n o (0 : Int32) x t h0 n0 Z0 hB HR2 i4_0 hx4) hZ (hwk hw 68 rfl) (hwk hw 2 rfl) (by decide) (by decide)) (g := (mkF m 73 #[rv a, iv (0 : Int32), iv x, .val (.double t), .second, iv (0 : Int32), .unset] [(.double t), (.int x), (.int (0 : Int32)), (.ref a)])) rfl (by rw [hml]; rfl) (Steps.refl _) (a := a) (by rw [e0]; exact qa3) qb3 (argsL := [(.int (0 : Int32)), (.int x), (.double t)]) (rest := []) (lenOf pd__IID_V_e64 rfl) rfl (by show 2 * 0 + _ ≤ _; exact Nat.le_of_eq rfl) (hb hby dp23_22_73) (fun _ _ => ⟨rfl, e0, (by decide : 0 + 0 ≤ 0), (by decide : 0 + 0 ≤ 0)⟩)
  dsimp only [Pt.U, Pt.locs, Pt.cells, Pt.slots] at X3 l3 y3 z3 st3 hQ3
  subst l3 y3 z3
  obtain ⟨rfl, N3q, K3, HQ3⟩ := hQ3
  have KK4 := K0.trans K3 (allS (Or.inl (List.mem_of_getElem? (i := 0) rfl)) (allS (Or.inl (List.mem_of_getElem? (i := 1) rfl)) (allS (Or.inl (List.mem_of_getElem? (i := 2) rfl)) (allS (Or.inl (List.mem_of_getElem? (i := 3) rfl)) all0))))
  have Z3 : n0 ≤ T3.heap.size := Nat.le_trans Z0 K3.1
  obtain ⟨E5, FI5, FT5, FP5, FS5, FO5, VI5, VT5, VP5⟩ := id HQ3
  have N3 := Fr.app N0 N3q
  refine Goes.sts st3 ?_
  show Gs p e below s _ _ _ T3 m 76 #[rv a, iv (0 : Int32), iv x, .val (.double t), .second, iv (0 : Int32), .unset] []
  have HR6 : HR Z T3.heap a aI aT aP kI kT kP (upd I (0 : Int32) x) (upd D (0 : Int32) t) (upd P x (0 : Int32)) n o := ⟨E5, FI5, FT5, FP5, FS5, FO5, VI5, VT5, VP5⟩
  refine Goes.retV X3 hx hlk hret (hb hby dp23_22_76) ?_ (by decide) (by decide)
  exact ⟨rfl, N3, KK4, HR6⟩
theorem ef_U1x (m : MethodId) (x0 : Addr) (x1 : Int32) (x2 : Int32) (x3 : UInt64) : entryFrame m #[(.ref x0), (.int x1), (.int x2), (.double x3)] 7 = mkF m 0 #[rv x0, iv x1, iv x2, .val (.double x3), .second, .unset, .unset] [] := by first | (simp [entryFrame, mkF, argsToLocals, Value.category]; done) | rfl
def QU1x (Z : State) (a aI aT aP : Addr) (kI kT kP : ClassId) (I : Int32 → Int32) (D : Int32 → UInt64) (P : Int32 → Int32) (n o x : Int32) (t : UInt64) (h0 : Heap) (n0 : Nat) (v : Option Value) (h : Heap) (L : List Loc) : Prop := v = none ∧ Fr n0 L ∧ Keep h0 h [a, aI, aT, aP] ∧ HR Z h a aI aT aP kI kT kP (upd (upd I 1 (I 0)) 0 x) (upd (upd D 1 (D 0)) 0 t) (upd (upd P (I 0) 1) x 0) n o
set_option maxRecDepth 65536 in
set_option maxHeartbeats 40000000 in
theorem rmU1x (l : Launch) (Z : State) (a0 : Array Value) (hw : ∀ d ∈ tables_1, d.before a0 Z = true) (ws : List Jvm.Cond) (a aI aT aP : Addr) (kI kT kP : ClassId) (I : Int32 → Int32) (D : Int32 → UInt64) (P : Int32 → Int32) (n o x : Int32) (t : UInt64) (h0 : Heap) (n0 : Nat) (Z0 : n0 ≤ h0.size) (hB : HB n0 a aI aT aP) (hR : HR Z h0 a aI aT aP kI kT kP I D P n o) (hx4 : In4 x) (hI0 : In4 (I 0)) (hb0 : ¬ bef t x (D 0) (I 0) = 0) :
    MetFree l mN7 (head1 (Jvm.Cond.code mN7 prog_23_method_22_code 7 none :: ws) ({ frames := 1, cells := 0, slots := 0, locals := 17 } : Room)) (fun aa U => aa = #[(.ref a), (.int (1 : Int32)), (.int x), (.double t)] ∧ Z.Warmed39 U.vm ∧ U.heap = h0) (fun _ _ _ _ _ => True) (fun _ u1_ o_ u2_ => ∃ v_ l_, o_ = .returned v_ ∧ QU1x Z a aI aT aP kI kT kP I D P n o x t h0 n0 v_ u2_.heap l_ ∧ FrameEnd u1_ o_ u2_ l_ ({ frames := 1, cells := 0, slots := 0, locals := 17 } : Room).cells ({ frames := 1, cells := 0, slots := 0, locals := 17 } : Room).slots) := by
  refine MetFree.of_bodySF (plainFor_of_name pn_com_example_redoubt_redoubt_engine_IndexHeap) hisR ?_
  intro p e s m args below meth c s₁ Bd hml0 hP hK
  obtain ⟨rfl, hZ, hh⟩ := hP
  have hx := Bd.exec
  have hby := Bd.bytes
  have hlk := BodyLoose.notSynchronized Bd
  have hret := Bd.returns
  have hml : c.maxLocals = 7 := hml0
  have hown : s.vm.findClass "com/example/redoubt/redoubt/engine/IndexHeap" = some m.cls := findClass_of_methodNamed Bd.named
  have hnm := (name_of_methodNamed Bd.named Bd.method).1
  have X0 : Stand p l e ({ frames := 1, cells := 0, slots := 0, locals := 17 } : Room) s m #[(.ref a), (.int (1 : Int32)), (.int x), (.double t)] below meth c s₁ [] 0 0 := Stand.of_body Bd
  have e0 : s₁.heap = h0 := by rw [← hh, Bd.state]; rfl
  have N0 := Fr.nil n0
  refine Goes.st (s := s) (Q := QU1x Z a aI aT aP kI kT kP I D P n o x t h0 n0) (cs := ({ frames := 1, cells := 0, slots := 0, locals := 17 } : Room).cells) (ss := ({ frames := 1, cells := 0, slots := 0, locals := 17 } : Room).slots) (fun tg kg => castTop (ef_U1x m a (1 : Int32) x t) kg) ?_
  obtain ⟨la, lI, lT, lP, naI, naT, naP, nIT, nIP, nTP⟩ := id hB
  obtain ⟨E1, FI1, FT1, FP1, FS1, FO1, VI1, VT1, VP1⟩ := id hR
  have K0 : Keep h0 h0 [a, aI, aT, aP] := Keep.refl _ _
  show Gs p e below s _ _ _ s₁ m 0 #[rv a, iv (1 : Int32), iv x, .val (.double t), .second, .unset, .unset] []
  refine giloadN X0 hx (hb hby dp23_22_0) rfl ?_
  refine gistore X0 hx (hb hby dp23_22_1) trivial (l' := #[rv a, iv (1 : Int32), iv x, .val (.double t), .second, iv (1 : Int32), .unset]) rfl ?_
  refine giload X0 hx (hb hby dp23_22_3) rfl ?_
  show Gs p e below s _ _ _ s₁ m 5 #[rv a, iv (1 : Int32), iv x, .val (.double t), .second, iv (1 : Int32), .unset] [(.int (1 : Int32))]
  refine gifNo X0 hx (hb hby dp23_22_5) (by decide) ?_
  show Gs p e below s _ _ _ s₁ m 8 #[rv a, iv (1 : Int32), iv x, .val (.double t), .second, iv (1 : Int32), .unset] []
  refine giload X0 hx (hb hby dp23_22_8) rfl ?_
  refine giconst X0 hx (hb hby dp23_22_10) ?_
  refine gisub X0 hx (hb hby dp23_22_11) trivial ?_
  show Gs p e below s _ _ _ s₁ m 12 #[rv a, iv (1 : Int32), iv x, .val (.double t), .second, iv (1 : Int32), .unset] [(.int ((1 : Int32) - (1 : Int32)))]
  rw [show ((1 : Int32) - (1 : Int32)) = (0 : Int32) from by decide]
  show Gs p e below s _ _ _ s₁ m 12 #[rv a, iv (1 : Int32), iv x, .val (.double t), .second, iv (1 : Int32), .unset] [(.int (0 : Int32))]
  refine giconst X0 hx (hb hby dp23_22_12) ?_
  show Gs p e below s _ _ _ s₁ m 13 #[rv a, iv (1 : Int32), iv x, .val (.double t), .second, iv (1 : Int32), .unset] [(.int (1 : Int32)), (.int (0 : Int32))]
  refine Goes.st (fun tg kg => XT.iushr X0.here hx rfl (hb hby dp23_22_13) rfl kg) ?_
  show Gs p e below s _ _ _ s₁ m 14 #[rv a, iv (1 : Int32), iv x, .val (.double t), .second, iv (1 : Int32), .unset] [(.int (XT.ushr (0 : Int32) (1 : Int32)))]
  rw [show (XT.ushr (0 : Int32) (1 : Int32)) = (0 : Int32) from by decide]
  show Gs p e below s _ _ _ s₁ m 14 #[rv a, iv (1 : Int32), iv x, .val (.double t), .second, iv (1 : Int32), .unset] [(.int (0 : Int32))]
  refine gistore X0 hx (hb hby dp23_22_14) trivial (l' := #[rv a, iv (1 : Int32), iv x, .val (.double t), .second, iv (1 : Int32), iv (0 : Int32)]) rfl ?_
  refine gdloadN X0 hx (hb hby dp23_22_16) rfl ?_
  refine giloadN X0 hx (hb hby dp23_22_17) rfl ?_
  refine galoadN X0 hx (hb hby dp23_22_18) rfl rfl ?_
  obtain ⟨T2, X2, e2, st2⟩ := getF X0 hx hZ hown (host := "") (Or.inl (hwk hw 15 rfl)) Via.refl e0 FT1 (g := (mkF m 19 #[rv a, iv (1 : Int32), iv x, .val (.double t), .second, iv (1 : Int32), iv (0 : Int32)] [(.ref a), (.int x), (.double t)])) rfl rfl (hb hby dp23_22_19)
  refine Goes.st st2 ?_
  show Gs p e below s _ _ _ T2 m 22 #[rv a, iv (1 : Int32), iv x, .val (.double t), .second, iv (1 : Int32), iv (0 : Int32)] [(.ref aT), (.int x), (.double t)]
  refine giload X2 hx (hb hby dp23_22_22) rfl ?_
  show Gs p e below s _ _ _ T2 m 24 #[rv a, iv (1 : Int32), iv x, .val (.double t), .second, iv (1 : Int32), iv (0 : Int32)] [(.int (0 : Int32)), (.ref aT), (.int x), (.double t)]
  obtain ⟨cl3, Ar3, qk3, Sz3, qz3, Ha3, Gf3⟩ := id VT1
  have in3 := inb_of (j := (0 : Int32)) Sz3 ⟨by decide, by decide⟩
  refine Goes.st (fun tg kg => X2.daload hx (j := (0 : Int32)) (v := (.double (D (0 : Int32)))) (by rw [e2]; exact Ar3.1) (State.isArrayOf_alike hZ.alike Ar3.2.1) Ar3.2.2 in3 (Ha3.at in3 (get_dls i4_0)) (g := (mkF m 24 #[rv a, iv (1 : Int32), iv x, .val (.double t), .second, iv (1 : Int32), iv (0 : Int32)] [(.int (0 : Int32)), (.ref aT), (.int x), (.double t)])) rfl rfl (hb hby dp23_22_24) tg kg) ?_
  refine galoadN X2 hx (hb hby dp23_22_25) rfl rfl ?_
  obtain ⟨T4, X4, e4, st4⟩ := getF X2 hx hZ hown (host := "") (Or.inl (hwk hw 12 rfl)) Via.refl e2 FI1 (g := (mkF m 26 #[rv a, iv (1 : Int32), iv x, .val (.double t), .second, iv (1 : Int32), iv (0 : Int32)] [(.ref a), (.double (D (0 : Int32))), (.int x), (.double t)])) rfl rfl (hb hby dp23_22_26)
  refine Goes.st st4 ?_
  refine giload X4 hx (hb hby dp23_22_29) rfl ?_
  show Gs p e below s _ _ _ T4 m 31 #[rv a, iv (1 : Int32), iv x, .val (.double t), .second, iv (1 : Int32), iv (0 : Int32)] [(.int (0 : Int32)), (.ref aI), (.double (D (0 : Int32))), (.int x), (.double t)]
  obtain ⟨cl5, Ar5, qk5, Sz5, qz5, Ha5, Gf5⟩ := id VI1
  have in5 := inb_of (j := (0 : Int32)) Sz5 ⟨by decide, by decide⟩
  refine Goes.st (fun tg kg => X4.iaload hx (j := (0 : Int32)) (v := (.int (I (0 : Int32)))) (by rw [e4]; exact Ar5.1) (State.isArrayOf_alike hZ.alike Ar5.2.1) Ar5.2.2 in5 (Ha5.at in5 (get_lst i4_0)) (g := (mkF m 31 #[rv a, iv (1 : Int32), iv x, .val (.double t), .second, iv (1 : Int32), iv (0 : Int32)] [(.int (0 : Int32)), (.ref aI), (.double (D (0 : Int32))), (.int x), (.double t)])) rfl rfl (hb hby dp23_22_31) tg kg) ?_
  obtain ⟨_, _, ⟨T6, L6, k6, n6⟩, -, X6, ⟨Lc6, hQ6, l6, y6, z6⟩, st6⟩ := Jvm.LawKit.callS X4 hx (y := mN6) hown (mvT hZ (hwk hw 69 rfl)) (mvT hZ (hwk hw 70 rfl)) (mvT hZ (hwk hw 2 rfl)) (mvT hZ (hwk hw 71 rfl)) (by decide) (backOf (W := 0) (rmBe l Z a0 hw [] t x (D (0 : Int32)) (I (0 : Int32)) h0 n0 Z0 ) hZ (hwk hw 71 rfl) (hwk hw 2 rfl) (by decide) (by decide)) (g := (mkF m 32 #[rv a, iv (1 : Int32), iv x, .val (.double t), .second, iv (1 : Int32), iv (0 : Int32)] [(.int (I (0 : Int32))), (.double (D (0 : Int32))), (.int x), (.double t)])) rfl (by rw [hml]; rfl) (argsL := [(.double t), (.int x), (.double (D (0 : Int32))), (.int (I (0 : Int32)))]) (rest := []) (lenOf pd__DIDI_Z_1212 rfl) rfl (by show 2 * 0 + _ ≤ _; exact Nat.le_of_eq rfl) (hb hby dp23_22_32) (fun _ _ => ⟨rfl, e4, (by decide : 0 + 0 ≤ 0), (by decide : 0 + 0 ≤ 0)⟩)
  dsimp only [Pt.U, Pt.locs, Pt.cells, Pt.slots] at X6 l6 y6 z6 st6 hQ6
  subst l6 y6 z6
  obtain ⟨rfl, N6q, eh6⟩ := hQ6
  have N6 := Fr.app N0 N6q
  refine Goes.st st6 ?_
  show Gs p e below s _ _ _ T6 m 35 #[rv a, iv (1 : Int32), iv x, .val (.double t), .second, iv (1 : Int32), iv (0 : Int32)] [(.int (bef t x (D (0 : Int32)) (I (0 : Int32))))]
  refine gifYes X6 hx (pc' := 41) (hb hby dp23_22_35) ((if0 _ _).trans (feq hb0).2) (by decide) (by decide) ?_
  show Gs p e below s _ _ _ T6 m 41 #[rv a, iv (1 : Int32), iv x, .val (.double t), .second, iv (1 : Int32), iv (0 : Int32)] []
  refine galoadN X6 hx (hb hby dp23_22_41) rfl rfl ?_
  refine giload X6 hx (hb hby dp23_22_42) rfl ?_
  refine galoadN X6 hx (hb hby dp23_22_44) rfl rfl ?_
  obtain ⟨T7, X7, e7, st7⟩ := getF X6 hx hZ hown (host := "") (Or.inl (hwk hw 12 rfl)) Via.refl eh6 FI1 (g := (mkF m 45 #[rv a, iv (1 : Int32), iv x, .val (.double t), .second, iv (1 : Int32), iv (0 : Int32)] [(.ref a), (.int (1 : Int32)), (.ref a)])) rfl rfl (hb hby dp23_22_45)
  refine Goes.st st7 ?_
  refine giload X7 hx (hb hby dp23_22_48) rfl ?_
  show Gs p e below s _ _ _ T7 m 50 #[rv a, iv (1 : Int32), iv x, .val (.double t), .second, iv (1 : Int32), iv (0 : Int32)] [(.int (0 : Int32)), (.ref aI), (.int (1 : Int32)), (.ref a)]
  obtain ⟨cl8, Ar8, qk8, Sz8, qz8, Ha8, Gf8⟩ := id VI1
  have in8 := inb_of (j := (0 : Int32)) Sz8 ⟨by decide, by decide⟩
  refine Goes.st (fun tg kg => X7.iaload hx (j := (0 : Int32)) (v := (.int (I (0 : Int32)))) (by rw [e7]; exact Ar8.1) (State.isArrayOf_alike hZ.alike Ar8.2.1) Ar8.2.2 in8 (Ha8.at in8 (get_lst i4_0)) (g := (mkF m 50 #[rv a, iv (1 : Int32), iv x, .val (.double t), .second, iv (1 : Int32), iv (0 : Int32)] [(.int (0 : Int32)), (.ref aI), (.int (1 : Int32)), (.ref a)])) rfl rfl (hb hby dp23_22_50) tg kg) ?_
  refine galoadN X7 hx (hb hby dp23_22_51) rfl rfl ?_
  obtain ⟨T9, X9, e9, st9⟩ := getF X7 hx hZ hown (host := "") (Or.inl (hwk hw 15 rfl)) Via.refl e7 FT1 (g := (mkF m 52 #[rv a, iv (1 : Int32), iv x, .val (.double t), .second, iv (1 : Int32), iv (0 : Int32)] [(.ref a), (.int (I (0 : Int32))), (.int (1 : Int32)), (.ref a)])) rfl rfl (hb hby dp23_22_52)
  refine Goes.st st9 ?_
  refine giload X9 hx (hb hby dp23_22_55) rfl ?_
  show Gs p e below s _ _ _ T9 m 57 #[rv a, iv (1 : Int32), iv x, .val (.double t), .second, iv (1 : Int32), iv (0 : Int32)] [(.int (0 : Int32)), (.ref aT), (.int (I (0 : Int32))), (.int (1 : Int32)), (.ref a)]
  obtain ⟨cl10, Ar10, qk10, Sz10, qz10, Ha10, Gf10⟩ := id VT1
  have in10 := inb_of (j := (0 : Int32)) Sz10 ⟨by decide, by decide⟩
  refine Goes.st (fun tg kg => X9.daload hx (j := (0 : Int32)) (v := (.double (D (0 : Int32)))) (by rw [e9]; exact Ar10.1) (State.isArrayOf_alike hZ.alike Ar10.2.1) Ar10.2.2 in10 (Ha10.at in10 (get_dls i4_0)) (g := (mkF m 57 #[rv a, iv (1 : Int32), iv x, .val (.double t), .second, iv (1 : Int32), iv (0 : Int32)] [(.int (0 : Int32)), (.ref aT), (.int (I (0 : Int32))), (.int (1 : Int32)), (.ref a)])) rfl rfl (hb hby dp23_22_57) tg kg) ?_
  have HR11 : HR Z h0 a aI aT aP kI kT kP I D P n o := ⟨E1, FI1, FT1, FP1, FS1, FO1, VI1, VT1, VP1⟩
  obtain ⟨cc12, qa12, qb12⟩ := Exa.cell E1
  obtain ⟨_, _, ⟨T12, L12, k12, n12⟩, -, X12, ⟨Lc12, hQ12, l12, y12, z12⟩, st12⟩ := X9.privateBack hx (y := mN5) hown (mvT hZ (hwk hw 65 rfl)) (mvT hZ (hwk hw 66 rfl)) (selP (y := mN5) (as := #[]) (mvT hZ (hwk hw 1 rfl)) (mvP hZ (hwk hw 67 rfl)) (mvT hZ (hwk hw 66 rfl)) (by decide)) (Cond.privateMethod_at (mvP hZ (hwk hw 67 rfl) (args := #[]))) (mvT hZ (hwk hw 68 rfl)) (by decide) (backOf (W := 0) (rmPu l Z a0 hw [] a aI aT aP kI kT kP I D P n o (1 : Int32) (I (0 : Int32)) (D (0 : Int32)) h0 n0 Z0 hB HR11 i4_1 hI0) hZ (hwk hw 68 rfl) (hwk hw 2 rfl) (by decide) (by decide)) (g := (mkF m 58 #[rv a, iv (1 : Int32), iv x, .val (.double t), .second, iv (1 : Int32), iv (0 : Int32)] [(.double (D (0 : Int32))), (.int (I (0 : Int32))), (.int (1 : Int32)), (.ref a)])) rfl (by rw [hml]; rfl) (Steps.refl _) (a := a) (by rw [e9]; exact qa12) qb12 (argsL := [(.int (1 : Int32)), (.int (I (0 : Int32))), (.double (D (0 : Int32)))]) (rest := []) (lenOf pd__IID_V_e64 rfl) rfl (by show 2 * 0 + _ ≤ _; exact Nat.le_of_eq rfl) (hb hby dp23_22_58) (fun _ _ => ⟨rfl, e9, (by decide : 0 + 0 ≤ 0), (by decide : 0 + 0 ≤ 0)⟩)
  dsimp only [Pt.U, Pt.locs, Pt.cells, Pt.slots] at X12 l12 y12 z12 st12 hQ12
  subst l12 y12 z12
  obtain ⟨rfl, N12q, K12, HQ12⟩ := hQ12
  have KK13 := K0.trans K12 (allS (Or.inl (List.mem_of_getElem? (i := 0) rfl)) (allS (Or.inl (List.mem_of_getElem? (i := 1) rfl)) (allS (Or.inl (List.mem_of_getElem? (i := 2) rfl)) (allS (Or.inl (List.mem_of_getElem? (i := 3) rfl)) all0))))
  have Z12 : n0 ≤ T12.heap.size := Nat.le_trans Z0 K12.1
  obtain ⟨E14, FI14, FT14, FP14, FS14, FO14, VI14, VT14, VP14⟩ := id HQ12
  have N12 := Fr.app N6 N12q
  refine Goes.sts st12 ?_
  show Gs p e below s _ _ _ T12 m 61 #[rv a, iv (1 : Int32), iv x, .val (.double t), .second, iv (1 : Int32), iv (0 : Int32)] []
  refine giload X12 hx (hb hby dp23_22_61) rfl ?_
  refine gistore X12 hx (hb hby dp23_22_63) trivial (l' := #[rv a, iv (1 : Int32), iv x, .val (.double t), .second, iv (0 : Int32), iv (0 : Int32)]) rfl ?_
  show Gs p e below s _ _ _ T12 m 65 #[rv a, iv (1 : Int32), iv x, .val (.double t), .second, iv (0 : Int32), iv (0 : Int32)] []
  refine ggoto X12 hx (pc' := 3) (hb hby dp23_22_65) (by decide) (by decide) ?_
  show Gs p e below s _ _ _ T12 m 3 #[rv a, iv (1 : Int32), iv x, .val (.double t), .second, iv (0 : Int32), iv (0 : Int32)] []
  refine giload X12 hx (hb hby dp23_22_3) rfl ?_
  show Gs p e below s _ _ _ T12 m 5 #[rv a, iv (1 : Int32), iv x, .val (.double t), .second, iv (0 : Int32), iv (0 : Int32)] [(.int (0 : Int32))]
  refine gifYes X12 hx (pc' := 68) (hb hby dp23_22_5) (by decide) (by decide) (by decide) ?_
  show Gs p e below s _ _ _ T12 m 68 #[rv a, iv (1 : Int32), iv x, .val (.double t), .second, iv (0 : Int32), iv (0 : Int32)] []
  refine galoadN X12 hx (hb hby dp23_22_68) rfl rfl ?_
  refine giload X12 hx (hb hby dp23_22_69) rfl ?_
  refine giloadN X12 hx (hb hby dp23_22_71) rfl ?_
  refine gdloadN X12 hx (hb hby dp23_22_72) rfl ?_
  have HR15 : HR Z T12.heap a aI aT aP kI kT kP (upd I (1 : Int32) (I (0 : Int32))) (upd D (1 : Int32) (D (0 : Int32))) (upd P (I (0 : Int32)) (1 : Int32)) n o := ⟨E14, FI14, FT14, FP14, FS14, FO14, VI14, VT14, VP14⟩
  obtain ⟨cc16, qa16, qb16⟩ := Exa.cell E14
  obtain ⟨_, _, ⟨T16, L16, k16, n16⟩, -, X16, ⟨Lc16, hQ16, l16, y16, z16⟩, st16⟩ := X12.privateBack hx (y := mN5) hown (mvT hZ (hwk hw 65 rfl)) (mvT hZ (hwk hw 66 rfl)) (selP (y := mN5) (as := #[]) (mvT hZ (hwk hw 1 rfl)) (mvP hZ (hwk hw 67 rfl)) (mvT hZ (hwk hw 66 rfl)) (by decide)) (Cond.privateMethod_at (mvP hZ (hwk hw 67 rfl) (args := #[]))) (mvT hZ (hwk hw 68 rfl)) (by decide) (backOf (W := 0) (rmPu l Z a0 hw [] a aI aT aP kI kT kP (upd I (1 : Int32) (I (0 : Int32))) (upd D (1 : Int32) (D (0 : Int32))) (upd P (I (0 : Int32)) (1 : Int32)) n o (0 : Int32) x t T12.heap n0 Z12 hB HR15 i4_0 hx4) hZ (hwk hw 68 rfl) (hwk hw 2 rfl) (by decide) (by decide)) (g := (mkF m 73 #[rv a, iv (1 : Int32), iv x, .val (.double t), .second, iv (0 : Int32), iv (0 : Int32)] [(.double t), (.int x), (.int (0 : Int32)), (.ref a)])) rfl (by rw [hml]; rfl) (Steps.refl _) (a := a) qa16 qb16 (argsL := [(.int (0 : Int32)), (.int x), (.double t)]) (rest := []) (lenOf pd__IID_V_e64 rfl) rfl (by show 2 * 0 + _ ≤ _; exact Nat.le_of_eq rfl) (hb hby dp23_22_73) (fun _ _ => ⟨rfl, rfl, (by decide : 0 + 0 ≤ 0), (by decide : 0 + 0 ≤ 0)⟩)
  dsimp only [Pt.U, Pt.locs, Pt.cells, Pt.slots] at X16 l16 y16 z16 st16 hQ16
  subst l16 y16 z16
  obtain ⟨rfl, N16q, K16, HQ16⟩ := hQ16
  have KK17 := KK13.trans K16 (allS (Or.inl (List.mem_of_getElem? (i := 0) rfl)) (allS (Or.inl (List.mem_of_getElem? (i := 1) rfl)) (allS (Or.inl (List.mem_of_getElem? (i := 2) rfl)) (allS (Or.inl (List.mem_of_getElem? (i := 3) rfl)) all0))))
  have Z16 : n0 ≤ T16.heap.size := Nat.le_trans Z12 K16.1
  obtain ⟨E18, FI18, FT18, FP18, FS18, FO18, VI18, VT18, VP18⟩ := id HQ16
  have N16 := Fr.app N12 N16q
  refine Goes.sts st16 ?_
  show Gs p e below s _ _ _ T16 m 76 #[rv a, iv (1 : Int32), iv x, .val (.double t), .second, iv (0 : Int32), iv (0 : Int32)] []
  have HR19 : HR Z T16.heap a aI aT aP kI kT kP (upd (upd I (1 : Int32) (I (0 : Int32))) (0 : Int32) x) (upd (upd D (1 : Int32) (D (0 : Int32))) (0 : Int32) t) (upd (upd P (I (0 : Int32)) (1 : Int32)) x (0 : Int32)) n o := ⟨E18, FI18, FT18, FP18, FS18, FO18, VI18, VT18, VP18⟩
  refine Goes.retV X16 hx hlk hret (hb hby dp23_22_76) ?_ (by decide) (by decide)
  exact ⟨rfl, N16, KK17, HR19⟩
theorem dp23_23_0 : decode prog_23_method_23_code 0 = .ok (.iload_n 1, 1) := by decide +kernel
theorem dp23_23_1 : decode prog_23_method_23_code 1 = .ok (.istore 5, 2) := by decide +kernel
theorem dp23_23_3 : decode prog_23_method_23_code 3 = .ok (.aload_n 0, 1) := by decide +kernel
theorem dp23_23_4 : decode prog_23_method_23_code 4 = .ok (.getfield 30, 3) := by decide +kernel
theorem dp23_23_7 : decode prog_23_method_23_code 7 = .ok (.iconst 1, 1) := by decide +kernel
theorem dp23_23_8 : decode prog_23_method_23_code 8 = .ok (.iushr, 1) := by decide +kernel
theorem dp23_23_9 : decode prog_23_method_23_code 9 = .ok (.istore 6, 2) := by decide +kernel
theorem dp23_23_11 : decode prog_23_method_23_code 11 = .ok (.iload 5, 2) := by decide +kernel
theorem dp23_23_13 : decode prog_23_method_23_code 13 = .ok (.iload 6, 2) := by decide +kernel
theorem dp23_23_15 : decode prog_23_method_23_code 15 = .ok (.if_icmp .ge 116, 3) := by decide +kernel
theorem dp23_23_18 : decode prog_23_method_23_code 18 = .ok (.iconst 2, 1) := by decide +kernel
theorem dp23_23_19 : decode prog_23_method_23_code 19 = .ok (.iload 5, 2) := by decide +kernel
theorem dp23_23_21 : decode prog_23_method_23_code 21 = .ok (.imul, 1) := by decide +kernel
theorem dp23_23_22 : decode prog_23_method_23_code 22 = .ok (.iconst 1, 1) := by decide +kernel
theorem dp23_23_23 : decode prog_23_method_23_code 23 = .ok (.iadd, 1) := by decide +kernel
theorem dp23_23_24 : decode prog_23_method_23_code 24 = .ok (.istore 7, 2) := by decide +kernel
theorem dp23_23_26 : decode prog_23_method_23_code 26 = .ok (.iload 7, 2) := by decide +kernel
theorem dp23_23_28 : decode prog_23_method_23_code 28 = .ok (.iconst 1, 1) := by decide +kernel
theorem dp23_23_29 : decode prog_23_method_23_code 29 = .ok (.iadd, 1) := by decide +kernel
theorem dp23_23_30 : decode prog_23_method_23_code 30 = .ok (.istore 8, 2) := by decide +kernel
theorem dp23_23_32 : decode prog_23_method_23_code 32 = .ok (.iload 8, 2) := by decide +kernel
theorem dp23_23_34 : decode prog_23_method_23_code 34 = .ok (.aload_n 0, 1) := by decide +kernel
theorem dp23_23_35 : decode prog_23_method_23_code 35 = .ok (.getfield 30, 3) := by decide +kernel
theorem dp23_23_38 : decode prog_23_method_23_code 38 = .ok (.if_icmp .ge 41, 3) := by decide +kernel
theorem dp23_23_41 : decode prog_23_method_23_code 41 = .ok (.aload_n 0, 1) := by decide +kernel
theorem dp23_23_42 : decode prog_23_method_23_code 42 = .ok (.getfield 17, 3) := by decide +kernel
theorem dp23_23_45 : decode prog_23_method_23_code 45 = .ok (.iload 8, 2) := by decide +kernel
theorem dp23_23_47 : decode prog_23_method_23_code 47 = .ok (.daload, 1) := by decide +kernel
theorem dp23_23_48 : decode prog_23_method_23_code 48 = .ok (.aload_n 0, 1) := by decide +kernel
theorem dp23_23_49 : decode prog_23_method_23_code 49 = .ok (.getfield 13, 3) := by decide +kernel
theorem dp23_23_52 : decode prog_23_method_23_code 52 = .ok (.iload 8, 2) := by decide +kernel
theorem dp23_23_54 : decode prog_23_method_23_code 54 = .ok (.iaload, 1) := by decide +kernel
theorem dp23_23_55 : decode prog_23_method_23_code 55 = .ok (.aload_n 0, 1) := by decide +kernel
theorem dp23_23_56 : decode prog_23_method_23_code 56 = .ok (.getfield 17, 3) := by decide +kernel
theorem dp23_23_59 : decode prog_23_method_23_code 59 = .ok (.iload 7, 2) := by decide +kernel
theorem dp23_23_61 : decode prog_23_method_23_code 61 = .ok (.daload, 1) := by decide +kernel
theorem dp23_23_62 : decode prog_23_method_23_code 62 = .ok (.aload_n 0, 1) := by decide +kernel
theorem dp23_23_63 : decode prog_23_method_23_code 63 = .ok (.getfield 13, 3) := by decide +kernel
theorem dp23_23_66 : decode prog_23_method_23_code 66 = .ok (.iload 7, 2) := by decide +kernel
theorem dp23_23_68 : decode prog_23_method_23_code 68 = .ok (.iaload, 1) := by decide +kernel
theorem dp23_23_69 : decode prog_23_method_23_code 69 = .ok (.invokestatic 91, 3) := by decide +kernel
theorem dp23_23_72 : decode prog_23_method_23_code 72 = .ok (.ifCond .eq 7, 3) := by decide +kernel
theorem dp23_23_75 : decode prog_23_method_23_code 75 = .ok (.iload 8, 2) := by decide +kernel
theorem dp23_23_77 : decode prog_23_method_23_code 77 = .ok (.istore 7, 2) := by decide +kernel
theorem dp23_23_79 : decode prog_23_method_23_code 79 = .ok (.aload_n 0, 1) := by decide +kernel
theorem dp23_23_80 : decode prog_23_method_23_code 80 = .ok (.getfield 17, 3) := by decide +kernel
theorem dp23_23_83 : decode prog_23_method_23_code 83 = .ok (.iload 7, 2) := by decide +kernel
theorem dp23_23_85 : decode prog_23_method_23_code 85 = .ok (.daload, 1) := by decide +kernel
theorem dp23_23_86 : decode prog_23_method_23_code 86 = .ok (.aload_n 0, 1) := by decide +kernel
theorem dp23_23_87 : decode prog_23_method_23_code 87 = .ok (.getfield 13, 3) := by decide +kernel
theorem dp23_23_90 : decode prog_23_method_23_code 90 = .ok (.iload 7, 2) := by decide +kernel
theorem dp23_23_92 : decode prog_23_method_23_code 92 = .ok (.iaload, 1) := by decide +kernel
theorem dp23_23_93 : decode prog_23_method_23_code 93 = .ok (.dload_n 3, 1) := by decide +kernel
theorem dp23_23_94 : decode prog_23_method_23_code 94 = .ok (.iload_n 2, 1) := by decide +kernel
theorem dp23_23_95 : decode prog_23_method_23_code 95 = .ok (.invokestatic 91, 3) := by decide +kernel
theorem dp23_23_98 : decode prog_23_method_23_code 98 = .ok (.ifCond .ne 6, 3) := by decide +kernel
theorem dp23_23_101 : decode prog_23_method_23_code 101 = .ok (.goto 30, 3) := by decide +kernel
theorem dp23_23_104 : decode prog_23_method_23_code 104 = .ok (.aload_n 0, 1) := by decide +kernel
theorem dp23_23_105 : decode prog_23_method_23_code 105 = .ok (.iload 5, 2) := by decide +kernel
theorem dp23_23_107 : decode prog_23_method_23_code 107 = .ok (.aload_n 0, 1) := by decide +kernel
theorem dp23_23_108 : decode prog_23_method_23_code 108 = .ok (.getfield 13, 3) := by decide +kernel
theorem dp23_23_111 : decode prog_23_method_23_code 111 = .ok (.iload 7, 2) := by decide +kernel
theorem dp23_23_113 : decode prog_23_method_23_code 113 = .ok (.iaload, 1) := by decide +kernel
theorem dp23_23_114 : decode prog_23_method_23_code 114 = .ok (.aload_n 0, 1) := by decide +kernel
theorem dp23_23_115 : decode prog_23_method_23_code 115 = .ok (.getfield 17, 3) := by decide +kernel
theorem dp23_23_118 : decode prog_23_method_23_code 118 = .ok (.iload 7, 2) := by decide +kernel
theorem dp23_23_120 : decode prog_23_method_23_code 120 = .ok (.daload, 1) := by decide +kernel
theorem dp23_23_121 : decode prog_23_method_23_code 121 = .ok (.invokevirtual 64, 3) := by decide +kernel
theorem dp23_23_124 : decode prog_23_method_23_code 124 = .ok (.iload 7, 2) := by decide +kernel
theorem dp23_23_126 : decode prog_23_method_23_code 126 = .ok (.istore 5, 2) := by decide +kernel
theorem dp23_23_128 : decode prog_23_method_23_code 128 = .ok (.goto (-117), 3) := by decide +kernel
theorem dp23_23_131 : decode prog_23_method_23_code 131 = .ok (.aload_n 0, 1) := by decide +kernel
theorem dp23_23_132 : decode prog_23_method_23_code 132 = .ok (.iload 5, 2) := by decide +kernel
theorem dp23_23_134 : decode prog_23_method_23_code 134 = .ok (.iload_n 2, 1) := by decide +kernel
theorem dp23_23_135 : decode prog_23_method_23_code 135 = .ok (.dload_n 3, 1) := by decide +kernel
theorem dp23_23_136 : decode prog_23_method_23_code 136 = .ok (.invokevirtual 64, 3) := by decide +kernel
theorem dp23_23_139 : decode prog_23_method_23_code 139 = .ok (.return_, 1) := by decide +kernel
theorem ef_D10 (m : MethodId) (x0 : Addr) (x1 : Int32) (x2 : Int32) (x3 : UInt64) : entryFrame m #[(.ref x0), (.int x1), (.int x2), (.double x3)] 9 = mkF m 0 #[rv x0, iv x1, iv x2, .val (.double x3), .second, .unset, .unset, .unset, .unset] [] := by first | (simp [entryFrame, mkF, argsToLocals, Value.category]; done) | rfl
def QD10 (Z : State) (a aI aT aP : Addr) (kI kT kP : ClassId) (I : Int32 → Int32) (D : Int32 → UInt64) (P : Int32 → Int32) (o x : Int32) (t : UInt64) (S : Int32 → Prop) (h0 : Heap) (n0 : Nat) (v : Option Value) (h : Heap) (L : List Loc) : Prop := ∃ (I1 : Int32 → Int32) (D1 : Int32 → UInt64) (P1 : Int32 → Int32), v = none ∧ Fr n0 L ∧ Keep h0 h [a, aI, aT, aP] ∧ HR Z h a aI aT aP kI kT kP I1 D1 P1 (1 : Int32) o ∧ Inv (1 : Int32) S I1 P1
set_option maxRecDepth 65536 in
set_option maxHeartbeats 40000000 in
theorem rmD10 (l : Launch) (Z : State) (a0 : Array Value) (hw : ∀ d ∈ tables_1, d.before a0 Z = true) (ws : List Jvm.Cond) (a aI aT aP : Addr) (kI kT kP : ClassId) (I : Int32 → Int32) (D : Int32 → UInt64) (P : Int32 → Int32) (o x : Int32) (t : UInt64) (S : Int32 → Prop) (h0 : Heap) (n0 : Nat) (Z0 : n0 ≤ h0.size) (hB : HB n0 a aI aT aP) (hR : HR Z h0 a aI aT aP kI kT kP I D P (1 : Int32) o) (hx4 : In4 x) (hH : Hol (1 : Int32) (0 : Int32) x S I P) (hS : S x) :
    MetFree l mN8 (head1 (Jvm.Cond.code mN8 prog_23_method_23_code 9 none :: ws) ({ frames := 1, cells := 0, slots := 0, locals := 16 } : Room)) (fun aa U => aa = #[(.ref a), (.int (0 : Int32)), (.int x), (.double t)] ∧ Z.Warmed39 U.vm ∧ U.heap = h0) (fun _ _ _ _ _ => True) (fun _ u1_ o_ u2_ => ∃ v_ l_, o_ = .returned v_ ∧ QD10 Z a aI aT aP kI kT kP I D P o x t S h0 n0 v_ u2_.heap l_ ∧ FrameEnd u1_ o_ u2_ l_ ({ frames := 1, cells := 0, slots := 0, locals := 16 } : Room).cells ({ frames := 1, cells := 0, slots := 0, locals := 16 } : Room).slots) := by
  refine MetFree.of_bodySF (plainFor_of_name pn_com_example_redoubt_redoubt_engine_IndexHeap) hisR ?_
  intro p e s m args below meth c s₁ Bd hml0 hP hK
  obtain ⟨rfl, hZ, hh⟩ := hP
  have hx := Bd.exec
  have hby := Bd.bytes
  have hlk := BodyLoose.notSynchronized Bd
  have hret := Bd.returns
  have hml : c.maxLocals = 9 := hml0
  have hown : s.vm.findClass "com/example/redoubt/redoubt/engine/IndexHeap" = some m.cls := findClass_of_methodNamed Bd.named
  have hnm := (name_of_methodNamed Bd.named Bd.method).1
  have X0 : Stand p l e ({ frames := 1, cells := 0, slots := 0, locals := 16 } : Room) s m #[(.ref a), (.int (0 : Int32)), (.int x), (.double t)] below meth c s₁ [] 0 0 := Stand.of_body Bd
  have e0 : s₁.heap = h0 := by rw [← hh, Bd.state]; rfl
  have N0 := Fr.nil n0
  refine Goes.st (s := s) (Q := QD10 Z a aI aT aP kI kT kP I D P o x t S h0 n0) (cs := ({ frames := 1, cells := 0, slots := 0, locals := 16 } : Room).cells) (ss := ({ frames := 1, cells := 0, slots := 0, locals := 16 } : Room).slots) (fun tg kg => castTop (ef_D10 m a (0 : Int32) x t) kg) ?_
  obtain ⟨la, lI, lT, lP, naI, naT, naP, nIT, nIP, nTP⟩ := id hB
  obtain ⟨E1, FI1, FT1, FP1, FS1, FO1, VI1, VT1, VP1⟩ := id hR
  have K0 : Keep h0 h0 [a, aI, aT, aP] := Keep.refl _ _
  show Gs p e below s _ _ _ s₁ m 0 #[rv a, iv (0 : Int32), iv x, .val (.double t), .second, .unset, .unset, .unset, .unset] []
  refine giloadN X0 hx (hb hby dp23_23_0) rfl ?_
  refine gistore X0 hx (hb hby dp23_23_1) trivial (l' := #[rv a, iv (0 : Int32), iv x, .val (.double t), .second, iv (0 : Int32), .unset, .unset, .unset]) rfl ?_
  refine galoadN X0 hx (hb hby dp23_23_3) rfl rfl ?_
  obtain ⟨T2, X2, e2, st2⟩ := getF X0 hx hZ hown (host := "") (Or.inl (hwk hw 29 rfl)) Via.refl e0 FS1 (g := (mkF m 4 #[rv a, iv (0 : Int32), iv x, .val (.double t), .second, iv (0 : Int32), .unset, .unset, .unset] [(.ref a)])) rfl rfl (hb hby dp23_23_4)
  refine Goes.st st2 ?_
  refine giconst X2 hx (hb hby dp23_23_7) ?_
  show Gs p e below s _ _ _ T2 m 8 #[rv a, iv (0 : Int32), iv x, .val (.double t), .second, iv (0 : Int32), .unset, .unset, .unset] [(.int (1 : Int32)), (.int (1 : Int32))]
  refine Goes.st (fun tg kg => XT.iushr X2.here hx rfl (hb hby dp23_23_8) rfl kg) ?_
  show Gs p e below s _ _ _ T2 m 9 #[rv a, iv (0 : Int32), iv x, .val (.double t), .second, iv (0 : Int32), .unset, .unset, .unset] [(.int (XT.ushr (1 : Int32) (1 : Int32)))]
  rw [show (XT.ushr (1 : Int32) (1 : Int32)) = (0 : Int32) from by decide]
  show Gs p e below s _ _ _ T2 m 9 #[rv a, iv (0 : Int32), iv x, .val (.double t), .second, iv (0 : Int32), .unset, .unset, .unset] [(.int (0 : Int32))]
  refine gistore X2 hx (hb hby dp23_23_9) trivial (l' := #[rv a, iv (0 : Int32), iv x, .val (.double t), .second, iv (0 : Int32), iv (0 : Int32), .unset, .unset]) rfl ?_
  refine giload X2 hx (hb hby dp23_23_11) rfl ?_
  refine giload X2 hx (hb hby dp23_23_13) rfl ?_
  show Gs p e below s _ _ _ T2 m 15 #[rv a, iv (0 : Int32), iv x, .val (.double t), .second, iv (0 : Int32), iv (0 : Int32), .unset, .unset] [(.int (0 : Int32)), (.int (0 : Int32))]
  refine gicmpYes X2 hx (pc' := 131) (hb hby dp23_23_15) (by decide) (by decide) (by decide) ?_
  show Gs p e below s _ _ _ T2 m 131 #[rv a, iv (0 : Int32), iv x, .val (.double t), .second, iv (0 : Int32), iv (0 : Int32), .unset, .unset] []
  refine galoadN X2 hx (hb hby dp23_23_131) rfl rfl ?_
  refine giload X2 hx (hb hby dp23_23_132) rfl ?_
  refine giloadN X2 hx (hb hby dp23_23_134) rfl ?_
  refine gdloadN X2 hx (hb hby dp23_23_135) rfl ?_
  have HR3 : HR Z h0 a aI aT aP kI kT kP I D P (1 : Int32) o := ⟨E1, FI1, FT1, FP1, FS1, FO1, VI1, VT1, VP1⟩
  obtain ⟨cc4, qa4, qb4⟩ := Exa.cell E1
  obtain ⟨_, _, ⟨T4, L4, k4, n4⟩, -, X4, ⟨Lc4, hQ4, l4, y4, z4⟩, st4⟩ := X2.privateBack hx (y := mN5) hown (mvT hZ (hwk hw 65 rfl)) (mvT hZ (hwk hw 66 rfl)) (selP (y := mN5) (as := #[]) (mvT hZ (hwk hw 1 rfl)) (mvP hZ (hwk hw 67 rfl)) (mvT hZ (hwk hw 66 rfl)) (by decide)) (Cond.privateMethod_at (mvP hZ (hwk hw 67 rfl) (args := #[]))) (mvT hZ (hwk hw 68 rfl)) (by decide) (backOf (W := 0) (rmPu l Z a0 hw [] a aI aT aP kI kT kP I D P (1 : Int32) o (0 : Int32) x t h0 n0 Z0 hB HR3 i4_0 hx4) hZ (hwk hw 68 rfl) (hwk hw 2 rfl) (by decide) (by decide)) (g := (mkF m 136 #[rv a, iv (0 : Int32), iv x, .val (.double t), .second, iv (0 : Int32), iv (0 : Int32), .unset, .unset] [(.double t), (.int x), (.int (0 : Int32)), (.ref a)])) rfl (by rw [hml]; rfl) (Steps.refl _) (a := a) (by rw [e2]; exact qa4) qb4 (argsL := [(.int (0 : Int32)), (.int x), (.double t)]) (rest := []) (lenOf pd__IID_V_e64 rfl) rfl (by show 2 * 0 + _ ≤ _; exact Nat.le_of_eq rfl) (hb hby dp23_23_136) (fun _ _ => ⟨rfl, e2, (by decide : 0 + 0 ≤ 0), (by decide : 0 + 0 ≤ 0)⟩)
  dsimp only [Pt.U, Pt.locs, Pt.cells, Pt.slots] at X4 l4 y4 z4 st4 hQ4
  subst l4 y4 z4
  obtain ⟨rfl, N4q, K4, HQ4⟩ := hQ4
  have KK5 := K0.trans K4 (allS (Or.inl (List.mem_of_getElem? (i := 0) rfl)) (allS (Or.inl (List.mem_of_getElem? (i := 1) rfl)) (allS (Or.inl (List.mem_of_getElem? (i := 2) rfl)) (allS (Or.inl (List.mem_of_getElem? (i := 3) rfl)) all0))))
  have Z4 : n0 ≤ T4.heap.size := Nat.le_trans Z0 K4.1
  obtain ⟨E6, FI6, FT6, FP6, FS6, FO6, VI6, VT6, VP6⟩ := id HQ4
  have inv7 := hol_end hH i4_0 (by decide) hx4 hS
  have N4 := Fr.app N0 N4q
  refine Goes.sts st4 ?_
  show Gs p e below s _ _ _ T4 m 139 #[rv a, iv (0 : Int32), iv x, .val (.double t), .second, iv (0 : Int32), iv (0 : Int32), .unset, .unset] []
  have HR8 : HR Z T4.heap a aI aT aP kI kT kP (upd I (0 : Int32) x) (upd D (0 : Int32) t) (upd P x (0 : Int32)) (1 : Int32) o := ⟨E6, FI6, FT6, FP6, FS6, FO6, VI6, VT6, VP6⟩
  refine Goes.retV X4 hx hlk hret (hb hby dp23_23_139) ?_ (by decide) (by decide)
  exact ⟨(upd I (0 : Int32) x), (upd D (0 : Int32) t), (upd P x (0 : Int32)), rfl, N4, KK5, HR8, inv7⟩
theorem ef_D20 (m : MethodId) (x0 : Addr) (x1 : Int32) (x2 : Int32) (x3 : UInt64) : entryFrame m #[(.ref x0), (.int x1), (.int x2), (.double x3)] 9 = mkF m 0 #[rv x0, iv x1, iv x2, .val (.double x3), .second, .unset, .unset, .unset, .unset] [] := by first | (simp [entryFrame, mkF, argsToLocals, Value.category]; done) | rfl
def QD20 (Z : State) (a aI aT aP : Addr) (kI kT kP : ClassId) (I : Int32 → Int32) (D : Int32 → UInt64) (P : Int32 → Int32) (o x : Int32) (t : UInt64) (S : Int32 → Prop) (h0 : Heap) (n0 : Nat) (v : Option Value) (h : Heap) (L : List Loc) : Prop := ∃ (I1 : Int32 → Int32) (D1 : Int32 → UInt64) (P1 : Int32 → Int32), v = none ∧ Fr n0 L ∧ Keep h0 h [a, aI, aT, aP] ∧ HR Z h a aI aT aP kI kT kP I1 D1 P1 (2 : Int32) o ∧ Inv (2 : Int32) S I1 P1
set_option maxRecDepth 65536 in
set_option maxHeartbeats 40000000 in
theorem rmD20 (l : Launch) (Z : State) (a0 : Array Value) (hw : ∀ d ∈ tables_1, d.before a0 Z = true) (ws : List Jvm.Cond) (a aI aT aP : Addr) (kI kT kP : ClassId) (I : Int32 → Int32) (D : Int32 → UInt64) (P : Int32 → Int32) (o x : Int32) (t : UInt64) (S : Int32 → Prop) (h0 : Heap) (n0 : Nat) (Z0 : n0 ≤ h0.size) (hB : HB n0 a aI aT aP) (hR : HR Z h0 a aI aT aP kI kT kP I D P (2 : Int32) o) (hx4 : In4 x) (hH : Hol (2 : Int32) (0 : Int32) x S I P) (hS : S x) :
    MetFree l mN8 (head1 (Jvm.Cond.code mN8 prog_23_method_23_code 9 none :: ws) ({ frames := 1, cells := 0, slots := 0, locals := 17 } : Room)) (fun aa U => aa = #[(.ref a), (.int (0 : Int32)), (.int x), (.double t)] ∧ Z.Warmed39 U.vm ∧ U.heap = h0) (fun _ _ _ _ _ => True) (fun _ u1_ o_ u2_ => ∃ v_ l_, o_ = .returned v_ ∧ QD20 Z a aI aT aP kI kT kP I D P o x t S h0 n0 v_ u2_.heap l_ ∧ FrameEnd u1_ o_ u2_ l_ ({ frames := 1, cells := 0, slots := 0, locals := 17 } : Room).cells ({ frames := 1, cells := 0, slots := 0, locals := 17 } : Room).slots) := by
  refine MetFree.of_bodySF (plainFor_of_name pn_com_example_redoubt_redoubt_engine_IndexHeap) hisR ?_
  intro p e s m args below meth c s₁ Bd hml0 hP hK
  obtain ⟨rfl, hZ, hh⟩ := hP
  have hx := Bd.exec
  have hby := Bd.bytes
  have hlk := BodyLoose.notSynchronized Bd
  have hret := Bd.returns
  have hml : c.maxLocals = 9 := hml0
  have hown : s.vm.findClass "com/example/redoubt/redoubt/engine/IndexHeap" = some m.cls := findClass_of_methodNamed Bd.named
  have hnm := (name_of_methodNamed Bd.named Bd.method).1
  have X0 : Stand p l e ({ frames := 1, cells := 0, slots := 0, locals := 17 } : Room) s m #[(.ref a), (.int (0 : Int32)), (.int x), (.double t)] below meth c s₁ [] 0 0 := Stand.of_body Bd
  have e0 : s₁.heap = h0 := by rw [← hh, Bd.state]; rfl
  have N0 := Fr.nil n0
  refine Goes.st (s := s) (Q := QD20 Z a aI aT aP kI kT kP I D P o x t S h0 n0) (cs := ({ frames := 1, cells := 0, slots := 0, locals := 17 } : Room).cells) (ss := ({ frames := 1, cells := 0, slots := 0, locals := 17 } : Room).slots) (fun tg kg => castTop (ef_D20 m a (0 : Int32) x t) kg) ?_
  obtain ⟨la, lI, lT, lP, naI, naT, naP, nIT, nIP, nTP⟩ := id hB
  obtain ⟨E1, FI1, FT1, FP1, FS1, FO1, VI1, VT1, VP1⟩ := id hR
  have K0 : Keep h0 h0 [a, aI, aT, aP] := Keep.refl _ _
  show Gs p e below s _ _ _ s₁ m 0 #[rv a, iv (0 : Int32), iv x, .val (.double t), .second, .unset, .unset, .unset, .unset] []
  refine giloadN X0 hx (hb hby dp23_23_0) rfl ?_
  refine gistore X0 hx (hb hby dp23_23_1) trivial (l' := #[rv a, iv (0 : Int32), iv x, .val (.double t), .second, iv (0 : Int32), .unset, .unset, .unset]) rfl ?_
  refine galoadN X0 hx (hb hby dp23_23_3) rfl rfl ?_
  obtain ⟨T2, X2, e2, st2⟩ := getF X0 hx hZ hown (host := "") (Or.inl (hwk hw 29 rfl)) Via.refl e0 FS1 (g := (mkF m 4 #[rv a, iv (0 : Int32), iv x, .val (.double t), .second, iv (0 : Int32), .unset, .unset, .unset] [(.ref a)])) rfl rfl (hb hby dp23_23_4)
  refine Goes.st st2 ?_
  refine giconst X2 hx (hb hby dp23_23_7) ?_
  show Gs p e below s _ _ _ T2 m 8 #[rv a, iv (0 : Int32), iv x, .val (.double t), .second, iv (0 : Int32), .unset, .unset, .unset] [(.int (1 : Int32)), (.int (2 : Int32))]
  refine Goes.st (fun tg kg => XT.iushr X2.here hx rfl (hb hby dp23_23_8) rfl kg) ?_
  show Gs p e below s _ _ _ T2 m 9 #[rv a, iv (0 : Int32), iv x, .val (.double t), .second, iv (0 : Int32), .unset, .unset, .unset] [(.int (XT.ushr (2 : Int32) (1 : Int32)))]
  rw [show (XT.ushr (2 : Int32) (1 : Int32)) = (1 : Int32) from by decide]
  show Gs p e below s _ _ _ T2 m 9 #[rv a, iv (0 : Int32), iv x, .val (.double t), .second, iv (0 : Int32), .unset, .unset, .unset] [(.int (1 : Int32))]
  refine gistore X2 hx (hb hby dp23_23_9) trivial (l' := #[rv a, iv (0 : Int32), iv x, .val (.double t), .second, iv (0 : Int32), iv (1 : Int32), .unset, .unset]) rfl ?_
  refine giload X2 hx (hb hby dp23_23_11) rfl ?_
  refine giload X2 hx (hb hby dp23_23_13) rfl ?_
  show Gs p e below s _ _ _ T2 m 15 #[rv a, iv (0 : Int32), iv x, .val (.double t), .second, iv (0 : Int32), iv (1 : Int32), .unset, .unset] [(.int (1 : Int32)), (.int (0 : Int32))]
  refine gicmpNo X2 hx (hb hby dp23_23_15) (by decide) ?_
  show Gs p e below s _ _ _ T2 m 18 #[rv a, iv (0 : Int32), iv x, .val (.double t), .second, iv (0 : Int32), iv (1 : Int32), .unset, .unset] []
  refine giconst X2 hx (hb hby dp23_23_18) ?_
  refine giload X2 hx (hb hby dp23_23_19) rfl ?_
  show Gs p e below s _ _ _ T2 m 21 #[rv a, iv (0 : Int32), iv x, .val (.double t), .second, iv (0 : Int32), iv (1 : Int32), .unset, .unset] [(.int (0 : Int32)), (.int (2 : Int32))]
  refine gimul X2 hx (hb hby dp23_23_21) trivial ?_
  show Gs p e below s _ _ _ T2 m 22 #[rv a, iv (0 : Int32), iv x, .val (.double t), .second, iv (0 : Int32), iv (1 : Int32), .unset, .unset] [(.int ((2 : Int32) * (0 : Int32)))]
  rw [show ((2 : Int32) * (0 : Int32)) = (0 : Int32) from by decide]
  show Gs p e below s _ _ _ T2 m 22 #[rv a, iv (0 : Int32), iv x, .val (.double t), .second, iv (0 : Int32), iv (1 : Int32), .unset, .unset] [(.int (0 : Int32))]
  refine giconst X2 hx (hb hby dp23_23_22) ?_
  refine giadd X2 hx (hb hby dp23_23_23) trivial ?_
  show Gs p e below s _ _ _ T2 m 24 #[rv a, iv (0 : Int32), iv x, .val (.double t), .second, iv (0 : Int32), iv (1 : Int32), .unset, .unset] [(.int ((0 : Int32) + (1 : Int32)))]
  rw [show ((0 : Int32) + (1 : Int32)) = (1 : Int32) from by decide]
  show Gs p e below s _ _ _ T2 m 24 #[rv a, iv (0 : Int32), iv x, .val (.double t), .second, iv (0 : Int32), iv (1 : Int32), .unset, .unset] [(.int (1 : Int32))]
  refine gistore X2 hx (hb hby dp23_23_24) trivial (l' := #[rv a, iv (0 : Int32), iv x, .val (.double t), .second, iv (0 : Int32), iv (1 : Int32), iv (1 : Int32), .unset]) rfl ?_
  refine giload X2 hx (hb hby dp23_23_26) rfl ?_
  refine giconst X2 hx (hb hby dp23_23_28) ?_
  refine giadd X2 hx (hb hby dp23_23_29) trivial ?_
  show Gs p e below s _ _ _ T2 m 30 #[rv a, iv (0 : Int32), iv x, .val (.double t), .second, iv (0 : Int32), iv (1 : Int32), iv (1 : Int32), .unset] [(.int ((1 : Int32) + (1 : Int32)))]
  rw [show ((1 : Int32) + (1 : Int32)) = (2 : Int32) from by decide]
  show Gs p e below s _ _ _ T2 m 30 #[rv a, iv (0 : Int32), iv x, .val (.double t), .second, iv (0 : Int32), iv (1 : Int32), iv (1 : Int32), .unset] [(.int (2 : Int32))]
  refine gistore X2 hx (hb hby dp23_23_30) trivial (l' := #[rv a, iv (0 : Int32), iv x, .val (.double t), .second, iv (0 : Int32), iv (1 : Int32), iv (1 : Int32), iv (2 : Int32)]) rfl ?_
  refine giload X2 hx (hb hby dp23_23_32) rfl ?_
  refine galoadN X2 hx (hb hby dp23_23_34) rfl rfl ?_
  obtain ⟨T3, X3, e3, st3⟩ := getF X2 hx hZ hown (host := "") (Or.inl (hwk hw 29 rfl)) Via.refl e2 FS1 (g := (mkF m 35 #[rv a, iv (0 : Int32), iv x, .val (.double t), .second, iv (0 : Int32), iv (1 : Int32), iv (1 : Int32), iv (2 : Int32)] [(.ref a), (.int (2 : Int32))])) rfl rfl (hb hby dp23_23_35)
  refine Goes.st st3 ?_
  show Gs p e below s _ _ _ T3 m 38 #[rv a, iv (0 : Int32), iv x, .val (.double t), .second, iv (0 : Int32), iv (1 : Int32), iv (1 : Int32), iv (2 : Int32)] [(.int (2 : Int32)), (.int (2 : Int32))]
  refine gicmpYes X3 hx (pc' := 79) (hb hby dp23_23_38) (by decide) (by decide) (by decide) ?_
  show Gs p e below s _ _ _ T3 m 79 #[rv a, iv (0 : Int32), iv x, .val (.double t), .second, iv (0 : Int32), iv (1 : Int32), iv (1 : Int32), iv (2 : Int32)] []
  refine galoadN X3 hx (hb hby dp23_23_79) rfl rfl ?_
  obtain ⟨T4, X4, e4, st4⟩ := getF X3 hx hZ hown (host := "") (Or.inl (hwk hw 15 rfl)) Via.refl e3 FT1 (g := (mkF m 80 #[rv a, iv (0 : Int32), iv x, .val (.double t), .second, iv (0 : Int32), iv (1 : Int32), iv (1 : Int32), iv (2 : Int32)] [(.ref a)])) rfl rfl (hb hby dp23_23_80)
  refine Goes.st st4 ?_
  refine giload X4 hx (hb hby dp23_23_83) rfl ?_
  show Gs p e below s _ _ _ T4 m 85 #[rv a, iv (0 : Int32), iv x, .val (.double t), .second, iv (0 : Int32), iv (1 : Int32), iv (1 : Int32), iv (2 : Int32)] [(.int (1 : Int32)), (.ref aT)]
  obtain ⟨cl5, Ar5, qk5, Sz5, qz5, Ha5, Gf5⟩ := id VT1
  have in5 := inb_of (j := (1 : Int32)) Sz5 ⟨by decide, by decide⟩
  refine Goes.st (fun tg kg => X4.daload hx (j := (1 : Int32)) (v := (.double (D (1 : Int32)))) (by rw [e4]; exact Ar5.1) (State.isArrayOf_alike hZ.alike Ar5.2.1) Ar5.2.2 in5 (Ha5.at in5 (get_dls i4_1)) (g := (mkF m 85 #[rv a, iv (0 : Int32), iv x, .val (.double t), .second, iv (0 : Int32), iv (1 : Int32), iv (1 : Int32), iv (2 : Int32)] [(.int (1 : Int32)), (.ref aT)])) rfl rfl (hb hby dp23_23_85) tg kg) ?_
  refine galoadN X4 hx (hb hby dp23_23_86) rfl rfl ?_
  obtain ⟨T6, X6, e6, st6⟩ := getF X4 hx hZ hown (host := "") (Or.inl (hwk hw 12 rfl)) Via.refl e4 FI1 (g := (mkF m 87 #[rv a, iv (0 : Int32), iv x, .val (.double t), .second, iv (0 : Int32), iv (1 : Int32), iv (1 : Int32), iv (2 : Int32)] [(.ref a), (.double (D (1 : Int32)))])) rfl rfl (hb hby dp23_23_87)
  refine Goes.st st6 ?_
  refine giload X6 hx (hb hby dp23_23_90) rfl ?_
  show Gs p e below s _ _ _ T6 m 92 #[rv a, iv (0 : Int32), iv x, .val (.double t), .second, iv (0 : Int32), iv (1 : Int32), iv (1 : Int32), iv (2 : Int32)] [(.int (1 : Int32)), (.ref aI), (.double (D (1 : Int32)))]
  obtain ⟨cl7, Ar7, qk7, Sz7, qz7, Ha7, Gf7⟩ := id VI1
  have in7 := inb_of (j := (1 : Int32)) Sz7 ⟨by decide, by decide⟩
  refine Goes.st (fun tg kg => X6.iaload hx (j := (1 : Int32)) (v := (.int (I (1 : Int32)))) (by rw [e6]; exact Ar7.1) (State.isArrayOf_alike hZ.alike Ar7.2.1) Ar7.2.2 in7 (Ha7.at in7 (get_lst i4_1)) (g := (mkF m 92 #[rv a, iv (0 : Int32), iv x, .val (.double t), .second, iv (0 : Int32), iv (1 : Int32), iv (1 : Int32), iv (2 : Int32)] [(.int (1 : Int32)), (.ref aI), (.double (D (1 : Int32)))])) rfl rfl (hb hby dp23_23_92) tg kg) ?_
  refine gdloadN X6 hx (hb hby dp23_23_93) rfl ?_
  refine giloadN X6 hx (hb hby dp23_23_94) rfl ?_
  obtain ⟨_, _, ⟨T8, L8, k8, n8⟩, -, X8, ⟨Lc8, hQ8, l8, y8, z8⟩, st8⟩ := Jvm.LawKit.callS X6 hx (y := mN6) hown (mvT hZ (hwk hw 69 rfl)) (mvT hZ (hwk hw 70 rfl)) (mvT hZ (hwk hw 2 rfl)) (mvT hZ (hwk hw 71 rfl)) (by decide) (backOf (W := 0) (rmBe l Z a0 hw [] (D (1 : Int32)) (I (1 : Int32)) t x h0 n0 Z0 ) hZ (hwk hw 71 rfl) (hwk hw 2 rfl) (by decide) (by decide)) (g := (mkF m 95 #[rv a, iv (0 : Int32), iv x, .val (.double t), .second, iv (0 : Int32), iv (1 : Int32), iv (1 : Int32), iv (2 : Int32)] [(.int x), (.double t), (.int (I (1 : Int32))), (.double (D (1 : Int32)))])) rfl (by rw [hml]; rfl) (argsL := [(.double (D (1 : Int32))), (.int (I (1 : Int32))), (.double t), (.int x)]) (rest := []) (lenOf pd__DIDI_Z_1212 rfl) rfl (by show 2 * 0 + _ ≤ _; exact Nat.le_of_eq rfl) (hb hby dp23_23_95) (fun _ _ => ⟨rfl, e6, (by decide : 0 + 0 ≤ 0), (by decide : 0 + 0 ≤ 0)⟩)
  dsimp only [Pt.U, Pt.locs, Pt.cells, Pt.slots] at X8 l8 y8 z8 st8 hQ8
  subst l8 y8 z8
  obtain ⟨rfl, N8q, eh8⟩ := hQ8
  have N8 := Fr.app N0 N8q
  refine Goes.st st8 ?_
  show Gs p e below s _ _ _ T8 m 98 #[rv a, iv (0 : Int32), iv x, .val (.double t), .second, iv (0 : Int32), iv (1 : Int32), iv (1 : Int32), iv (2 : Int32)] [(.int (bef (D (1 : Int32)) (I (1 : Int32)) t x))]
  by_cases c9 : (bef (D (1 : Int32)) (I (1 : Int32)) t x) = (0 : Int32)
  · refine gifNo X8 hx (hb hby dp23_23_98) ((if0 _ _).trans (teq c9).2) ?_
    show Gs p e below s _ _ _ T8 m 101 #[rv a, iv (0 : Int32), iv x, .val (.double t), .second, iv (0 : Int32), iv (1 : Int32), iv (1 : Int32), iv (2 : Int32)] []
    refine ggoto X8 hx (pc' := 131) (hb hby dp23_23_101) (by decide) (by decide) ?_
    show Gs p e below s _ _ _ T8 m 131 #[rv a, iv (0 : Int32), iv x, .val (.double t), .second, iv (0 : Int32), iv (1 : Int32), iv (1 : Int32), iv (2 : Int32)] []
    refine galoadN X8 hx (hb hby dp23_23_131) rfl rfl ?_
    refine giload X8 hx (hb hby dp23_23_132) rfl ?_
    refine giloadN X8 hx (hb hby dp23_23_134) rfl ?_
    refine gdloadN X8 hx (hb hby dp23_23_135) rfl ?_
    have HR10 : HR Z h0 a aI aT aP kI kT kP I D P (2 : Int32) o := ⟨E1, FI1, FT1, FP1, FS1, FO1, VI1, VT1, VP1⟩
    obtain ⟨cc11, qa11, qb11⟩ := Exa.cell E1
    obtain ⟨_, _, ⟨T11, L11, k11, n11⟩, -, X11, ⟨Lc11, hQ11, l11, y11, z11⟩, st11⟩ := X8.privateBack hx (y := mN5) hown (mvT hZ (hwk hw 65 rfl)) (mvT hZ (hwk hw 66 rfl)) (selP (y := mN5) (as := #[]) (mvT hZ (hwk hw 1 rfl)) (mvP hZ (hwk hw 67 rfl)) (mvT hZ (hwk hw 66 rfl)) (by decide)) (Cond.privateMethod_at (mvP hZ (hwk hw 67 rfl) (args := #[]))) (mvT hZ (hwk hw 68 rfl)) (by decide) (backOf (W := 0) (rmPu l Z a0 hw [] a aI aT aP kI kT kP I D P (2 : Int32) o (0 : Int32) x t h0 n0 Z0 hB HR10 i4_0 hx4) hZ (hwk hw 68 rfl) (hwk hw 2 rfl) (by decide) (by decide)) (g := (mkF m 136 #[rv a, iv (0 : Int32), iv x, .val (.double t), .second, iv (0 : Int32), iv (1 : Int32), iv (1 : Int32), iv (2 : Int32)] [(.double t), (.int x), (.int (0 : Int32)), (.ref a)])) rfl (by rw [hml]; rfl) (Steps.refl _) (a := a) (by rw [eh8]; exact qa11) qb11 (argsL := [(.int (0 : Int32)), (.int x), (.double t)]) (rest := []) (lenOf pd__IID_V_e64 rfl) rfl (by show 2 * 0 + _ ≤ _; exact Nat.le_of_eq rfl) (hb hby dp23_23_136) (fun _ _ => ⟨rfl, eh8, (by decide : 0 + 0 ≤ 0), (by decide : 0 + 0 ≤ 0)⟩)
    dsimp only [Pt.U, Pt.locs, Pt.cells, Pt.slots] at X11 l11 y11 z11 st11 hQ11
    subst l11 y11 z11
    obtain ⟨rfl, N11q, K11, HQ11⟩ := hQ11
    have KK12 := K0.trans K11 (allS (Or.inl (List.mem_of_getElem? (i := 0) rfl)) (allS (Or.inl (List.mem_of_getElem? (i := 1) rfl)) (allS (Or.inl (List.mem_of_getElem? (i := 2) rfl)) (allS (Or.inl (List.mem_of_getElem? (i := 3) rfl)) all0))))
    have Z11 : n0 ≤ T11.heap.size := Nat.le_trans Z0 K11.1
    obtain ⟨E13, FI13, FT13, FP13, FS13, FO13, VI13, VT13, VP13⟩ := id HQ11
    have inv14 := hol_end hH i4_0 (by decide) hx4 hS
    have N11 := Fr.app N8 N11q
    refine Goes.sts st11 ?_
    show Gs p e below s _ _ _ T11 m 139 #[rv a, iv (0 : Int32), iv x, .val (.double t), .second, iv (0 : Int32), iv (1 : Int32), iv (1 : Int32), iv (2 : Int32)] []
    have HR15 : HR Z T11.heap a aI aT aP kI kT kP (upd I (0 : Int32) x) (upd D (0 : Int32) t) (upd P x (0 : Int32)) (2 : Int32) o := ⟨E13, FI13, FT13, FP13, FS13, FO13, VI13, VT13, VP13⟩
    refine Goes.retV X11 hx hlk hret (hb hby dp23_23_139) ?_ (by decide) (by decide)
    exact ⟨(upd I (0 : Int32) x), (upd D (0 : Int32) t), (upd P x (0 : Int32)), rfl, N11, KK12, HR15, inv14⟩
  · refine gifYes X8 hx (pc' := 104) (hb hby dp23_23_98) ((if0 _ _).trans (feq c9).2) (by decide) (by decide) ?_
    show Gs p e below s _ _ _ T8 m 104 #[rv a, iv (0 : Int32), iv x, .val (.double t), .second, iv (0 : Int32), iv (1 : Int32), iv (1 : Int32), iv (2 : Int32)] []
    refine galoadN X8 hx (hb hby dp23_23_104) rfl rfl ?_
    refine giload X8 hx (hb hby dp23_23_105) rfl ?_
    refine galoadN X8 hx (hb hby dp23_23_107) rfl rfl ?_
    obtain ⟨T16, X16, e16, st16⟩ := getF X8 hx hZ hown (host := "") (Or.inl (hwk hw 12 rfl)) Via.refl eh8 FI1 (g := (mkF m 108 #[rv a, iv (0 : Int32), iv x, .val (.double t), .second, iv (0 : Int32), iv (1 : Int32), iv (1 : Int32), iv (2 : Int32)] [(.ref a), (.int (0 : Int32)), (.ref a)])) rfl rfl (hb hby dp23_23_108)
    refine Goes.st st16 ?_
    refine giload X16 hx (hb hby dp23_23_111) rfl ?_
    show Gs p e below s _ _ _ T16 m 113 #[rv a, iv (0 : Int32), iv x, .val (.double t), .second, iv (0 : Int32), iv (1 : Int32), iv (1 : Int32), iv (2 : Int32)] [(.int (1 : Int32)), (.ref aI), (.int (0 : Int32)), (.ref a)]
    obtain ⟨cl17, Ar17, qk17, Sz17, qz17, Ha17, Gf17⟩ := id VI1
    have in17 := inb_of (j := (1 : Int32)) Sz17 ⟨by decide, by decide⟩
    refine Goes.st (fun tg kg => X16.iaload hx (j := (1 : Int32)) (v := (.int (I (1 : Int32)))) (by rw [e16]; exact Ar17.1) (State.isArrayOf_alike hZ.alike Ar17.2.1) Ar17.2.2 in17 (Ha17.at in17 (get_lst i4_1)) (g := (mkF m 113 #[rv a, iv (0 : Int32), iv x, .val (.double t), .second, iv (0 : Int32), iv (1 : Int32), iv (1 : Int32), iv (2 : Int32)] [(.int (1 : Int32)), (.ref aI), (.int (0 : Int32)), (.ref a)])) rfl rfl (hb hby dp23_23_113) tg kg) ?_
    refine galoadN X16 hx (hb hby dp23_23_114) rfl rfl ?_
    obtain ⟨T18, X18, e18, st18⟩ := getF X16 hx hZ hown (host := "") (Or.inl (hwk hw 15 rfl)) Via.refl e16 FT1 (g := (mkF m 115 #[rv a, iv (0 : Int32), iv x, .val (.double t), .second, iv (0 : Int32), iv (1 : Int32), iv (1 : Int32), iv (2 : Int32)] [(.ref a), (.int (I (1 : Int32))), (.int (0 : Int32)), (.ref a)])) rfl rfl (hb hby dp23_23_115)
    refine Goes.st st18 ?_
    refine giload X18 hx (hb hby dp23_23_118) rfl ?_
    show Gs p e below s _ _ _ T18 m 120 #[rv a, iv (0 : Int32), iv x, .val (.double t), .second, iv (0 : Int32), iv (1 : Int32), iv (1 : Int32), iv (2 : Int32)] [(.int (1 : Int32)), (.ref aT), (.int (I (1 : Int32))), (.int (0 : Int32)), (.ref a)]
    obtain ⟨cl19, Ar19, qk19, Sz19, qz19, Ha19, Gf19⟩ := id VT1
    have in19 := inb_of (j := (1 : Int32)) Sz19 ⟨by decide, by decide⟩
    refine Goes.st (fun tg kg => X18.daload hx (j := (1 : Int32)) (v := (.double (D (1 : Int32)))) (by rw [e18]; exact Ar19.1) (State.isArrayOf_alike hZ.alike Ar19.2.1) Ar19.2.2 in19 (Ha19.at in19 (get_dls i4_1)) (g := (mkF m 120 #[rv a, iv (0 : Int32), iv x, .val (.double t), .second, iv (0 : Int32), iv (1 : Int32), iv (1 : Int32), iv (2 : Int32)] [(.int (1 : Int32)), (.ref aT), (.int (I (1 : Int32))), (.int (0 : Int32)), (.ref a)])) rfl rfl (hb hby dp23_23_120) tg kg) ?_
    have HR20 : HR Z h0 a aI aT aP kI kT kP I D P (2 : Int32) o := ⟨E1, FI1, FT1, FP1, FS1, FO1, VI1, VT1, VP1⟩
    obtain ⟨cc21, qa21, qb21⟩ := Exa.cell E1
    obtain ⟨_, _, ⟨T21, L21, k21, n21⟩, -, X21, ⟨Lc21, hQ21, l21, y21, z21⟩, st21⟩ := X18.privateBack hx (y := mN5) hown (mvT hZ (hwk hw 65 rfl)) (mvT hZ (hwk hw 66 rfl)) (selP (y := mN5) (as := #[]) (mvT hZ (hwk hw 1 rfl)) (mvP hZ (hwk hw 67 rfl)) (mvT hZ (hwk hw 66 rfl)) (by decide)) (Cond.privateMethod_at (mvP hZ (hwk hw 67 rfl) (args := #[]))) (mvT hZ (hwk hw 68 rfl)) (by decide) (backOf (W := 0) (rmPu l Z a0 hw [] a aI aT aP kI kT kP I D P (2 : Int32) o (0 : Int32) (I (1 : Int32)) (D (1 : Int32)) h0 n0 Z0 hB HR20 i4_0 (hH.1 _ i4_1)) hZ (hwk hw 68 rfl) (hwk hw 2 rfl) (by decide) (by decide)) (g := (mkF m 121 #[rv a, iv (0 : Int32), iv x, .val (.double t), .second, iv (0 : Int32), iv (1 : Int32), iv (1 : Int32), iv (2 : Int32)] [(.double (D (1 : Int32))), (.int (I (1 : Int32))), (.int (0 : Int32)), (.ref a)])) rfl (by rw [hml]; rfl) (Steps.refl _) (a := a) (by rw [e18]; exact qa21) qb21 (argsL := [(.int (0 : Int32)), (.int (I (1 : Int32))), (.double (D (1 : Int32)))]) (rest := []) (lenOf pd__IID_V_e64 rfl) rfl (by show 2 * 0 + _ ≤ _; exact Nat.le_of_eq rfl) (hb hby dp23_23_121) (fun _ _ => ⟨rfl, e18, (by decide : 0 + 0 ≤ 0), (by decide : 0 + 0 ≤ 0)⟩)
    dsimp only [Pt.U, Pt.locs, Pt.cells, Pt.slots] at X21 l21 y21 z21 st21 hQ21
    subst l21 y21 z21
    obtain ⟨rfl, N21q, K21, HQ21⟩ := hQ21
    have KK22 := K0.trans K21 (allS (Or.inl (List.mem_of_getElem? (i := 0) rfl)) (allS (Or.inl (List.mem_of_getElem? (i := 1) rfl)) (allS (Or.inl (List.mem_of_getElem? (i := 2) rfl)) (allS (Or.inl (List.mem_of_getElem? (i := 3) rfl)) all0))))
    have Z21 : n0 ≤ T21.heap.size := Nat.le_trans Z0 K21.1
    obtain ⟨E23, FI23, FT23, FP23, FS23, FO23, VI23, VT23, VP23⟩ := id HQ21
    have hol24 := hol_move hH i4_1 (by decide) (by decide) i4_0 (by decide)
    have N21 := Fr.app N8 N21q
    refine Goes.sts st21 ?_
    show Gs p e below s _ _ _ T21 m 124 #[rv a, iv (0 : Int32), iv x, .val (.double t), .second, iv (0 : Int32), iv (1 : Int32), iv (1 : Int32), iv (2 : Int32)] []
    refine giload X21 hx (hb hby dp23_23_124) rfl ?_
    refine gistore X21 hx (hb hby dp23_23_126) trivial (l' := #[rv a, iv (0 : Int32), iv x, .val (.double t), .second, iv (1 : Int32), iv (1 : Int32), iv (1 : Int32), iv (2 : Int32)]) rfl ?_
    show Gs p e below s _ _ _ T21 m 128 #[rv a, iv (0 : Int32), iv x, .val (.double t), .second, iv (1 : Int32), iv (1 : Int32), iv (1 : Int32), iv (2 : Int32)] []
    refine ggoto X21 hx (pc' := 11) (hb hby dp23_23_128) (by decide) (by decide) ?_
    show Gs p e below s _ _ _ T21 m 11 #[rv a, iv (0 : Int32), iv x, .val (.double t), .second, iv (1 : Int32), iv (1 : Int32), iv (1 : Int32), iv (2 : Int32)] []
    refine giload X21 hx (hb hby dp23_23_11) rfl ?_
    refine giload X21 hx (hb hby dp23_23_13) rfl ?_
    show Gs p e below s _ _ _ T21 m 15 #[rv a, iv (0 : Int32), iv x, .val (.double t), .second, iv (1 : Int32), iv (1 : Int32), iv (1 : Int32), iv (2 : Int32)] [(.int (1 : Int32)), (.int (1 : Int32))]
    refine gicmpYes X21 hx (pc' := 131) (hb hby dp23_23_15) (by decide) (by decide) (by decide) ?_
    show Gs p e below s _ _ _ T21 m 131 #[rv a, iv (0 : Int32), iv x, .val (.double t), .second, iv (1 : Int32), iv (1 : Int32), iv (1 : Int32), iv (2 : Int32)] []
    refine galoadN X21 hx (hb hby dp23_23_131) rfl rfl ?_
    refine giload X21 hx (hb hby dp23_23_132) rfl ?_
    refine giloadN X21 hx (hb hby dp23_23_134) rfl ?_
    refine gdloadN X21 hx (hb hby dp23_23_135) rfl ?_
    have HR25 : HR Z T21.heap a aI aT aP kI kT kP (upd I (0 : Int32) (I (1 : Int32))) (upd D (0 : Int32) (D (1 : Int32))) (upd P (I (1 : Int32)) (0 : Int32)) (2 : Int32) o := ⟨E23, FI23, FT23, FP23, FS23, FO23, VI23, VT23, VP23⟩
    obtain ⟨cc26, qa26, qb26⟩ := Exa.cell E23
    obtain ⟨_, _, ⟨T26, L26, k26, n26⟩, -, X26, ⟨Lc26, hQ26, l26, y26, z26⟩, st26⟩ := X21.privateBack hx (y := mN5) hown (mvT hZ (hwk hw 65 rfl)) (mvT hZ (hwk hw 66 rfl)) (selP (y := mN5) (as := #[]) (mvT hZ (hwk hw 1 rfl)) (mvP hZ (hwk hw 67 rfl)) (mvT hZ (hwk hw 66 rfl)) (by decide)) (Cond.privateMethod_at (mvP hZ (hwk hw 67 rfl) (args := #[]))) (mvT hZ (hwk hw 68 rfl)) (by decide) (backOf (W := 0) (rmPu l Z a0 hw [] a aI aT aP kI kT kP (upd I (0 : Int32) (I (1 : Int32))) (upd D (0 : Int32) (D (1 : Int32))) (upd P (I (1 : Int32)) (0 : Int32)) (2 : Int32) o (1 : Int32) x t T21.heap n0 Z21 hB HR25 i4_1 hx4) hZ (hwk hw 68 rfl) (hwk hw 2 rfl) (by decide) (by decide)) (g := (mkF m 136 #[rv a, iv (0 : Int32), iv x, .val (.double t), .second, iv (1 : Int32), iv (1 : Int32), iv (1 : Int32), iv (2 : Int32)] [(.double t), (.int x), (.int (1 : Int32)), (.ref a)])) rfl (by rw [hml]; rfl) (Steps.refl _) (a := a) qa26 qb26 (argsL := [(.int (1 : Int32)), (.int x), (.double t)]) (rest := []) (lenOf pd__IID_V_e64 rfl) rfl (by show 2 * 0 + _ ≤ _; exact Nat.le_of_eq rfl) (hb hby dp23_23_136) (fun _ _ => ⟨rfl, rfl, (by decide : 0 + 0 ≤ 0), (by decide : 0 + 0 ≤ 0)⟩)
    dsimp only [Pt.U, Pt.locs, Pt.cells, Pt.slots] at X26 l26 y26 z26 st26 hQ26
    subst l26 y26 z26
    obtain ⟨rfl, N26q, K26, HQ26⟩ := hQ26
    have KK27 := KK22.trans K26 (allS (Or.inl (List.mem_of_getElem? (i := 0) rfl)) (allS (Or.inl (List.mem_of_getElem? (i := 1) rfl)) (allS (Or.inl (List.mem_of_getElem? (i := 2) rfl)) (allS (Or.inl (List.mem_of_getElem? (i := 3) rfl)) all0))))
    have Z26 : n0 ≤ T26.heap.size := Nat.le_trans Z21 K26.1
    obtain ⟨E28, FI28, FT28, FP28, FS28, FO28, VI28, VT28, VP28⟩ := id HQ26
    have inv29 := hol_end hol24 i4_1 (by decide) hx4 hS
    have N26 := Fr.app N21 N26q
    refine Goes.sts st26 ?_
    show Gs p e below s _ _ _ T26 m 139 #[rv a, iv (0 : Int32), iv x, .val (.double t), .second, iv (1 : Int32), iv (1 : Int32), iv (1 : Int32), iv (2 : Int32)] []
    have HR30 : HR Z T26.heap a aI aT aP kI kT kP (upd (upd I (0 : Int32) (I (1 : Int32))) (1 : Int32) x) (upd (upd D (0 : Int32) (D (1 : Int32))) (1 : Int32) t) (upd (upd P (I (1 : Int32)) (0 : Int32)) x (1 : Int32)) (2 : Int32) o := ⟨E28, FI28, FT28, FP28, FS28, FO28, VI28, VT28, VP28⟩
    refine Goes.retV X26 hx hlk hret (hb hby dp23_23_139) ?_ (by decide) (by decide)
    exact ⟨(upd (upd I (0 : Int32) (I (1 : Int32))) (1 : Int32) x), (upd (upd D (0 : Int32) (D (1 : Int32))) (1 : Int32) t), (upd (upd P (I (1 : Int32)) (0 : Int32)) x (1 : Int32)), rfl, N26, KK27, HR30, inv29⟩
theorem ef_D30 (m : MethodId) (x0 : Addr) (x1 : Int32) (x2 : Int32) (x3 : UInt64) : entryFrame m #[(.ref x0), (.int x1), (.int x2), (.double x3)] 9 = mkF m 0 #[rv x0, iv x1, iv x2, .val (.double x3), .second, .unset, .unset, .unset, .unset] [] := by first | (simp [entryFrame, mkF, argsToLocals, Value.category]; done) | rfl
def QD30 (Z : State) (a aI aT aP : Addr) (kI kT kP : ClassId) (I : Int32 → Int32) (D : Int32 → UInt64) (P : Int32 → Int32) (o x : Int32) (t : UInt64) (S : Int32 → Prop) (h0 : Heap) (n0 : Nat) (v : Option Value) (h : Heap) (L : List Loc) : Prop := ∃ (I1 : Int32 → Int32) (D1 : Int32 → UInt64) (P1 : Int32 → Int32), v = none ∧ Fr n0 L ∧ Keep h0 h [a, aI, aT, aP] ∧ HR Z h a aI aT aP kI kT kP I1 D1 P1 (3 : Int32) o ∧ Inv (3 : Int32) S I1 P1
set_option maxRecDepth 65536 in
set_option maxHeartbeats 40000000 in
theorem rmD30 (l : Launch) (Z : State) (a0 : Array Value) (hw : ∀ d ∈ tables_1, d.before a0 Z = true) (ws : List Jvm.Cond) (a aI aT aP : Addr) (kI kT kP : ClassId) (I : Int32 → Int32) (D : Int32 → UInt64) (P : Int32 → Int32) (o x : Int32) (t : UInt64) (S : Int32 → Prop) (h0 : Heap) (n0 : Nat) (Z0 : n0 ≤ h0.size) (hB : HB n0 a aI aT aP) (hR : HR Z h0 a aI aT aP kI kT kP I D P (3 : Int32) o) (hx4 : In4 x) (hH : Hol (3 : Int32) (0 : Int32) x S I P) (hS : S x) :
    MetFree l mN8 (head1 (Jvm.Cond.code mN8 prog_23_method_23_code 9 none :: ws) ({ frames := 1, cells := 0, slots := 0, locals := 17 } : Room)) (fun aa U => aa = #[(.ref a), (.int (0 : Int32)), (.int x), (.double t)] ∧ Z.Warmed39 U.vm ∧ U.heap = h0) (fun _ _ _ _ _ => True) (fun _ u1_ o_ u2_ => ∃ v_ l_, o_ = .returned v_ ∧ QD30 Z a aI aT aP kI kT kP I D P o x t S h0 n0 v_ u2_.heap l_ ∧ FrameEnd u1_ o_ u2_ l_ ({ frames := 1, cells := 0, slots := 0, locals := 17 } : Room).cells ({ frames := 1, cells := 0, slots := 0, locals := 17 } : Room).slots) := by
  refine MetFree.of_bodySF (plainFor_of_name pn_com_example_redoubt_redoubt_engine_IndexHeap) hisR ?_
  intro p e s m args below meth c s₁ Bd hml0 hP hK
  obtain ⟨rfl, hZ, hh⟩ := hP
  have hx := Bd.exec
  have hby := Bd.bytes
  have hlk := BodyLoose.notSynchronized Bd
  have hret := Bd.returns
  have hml : c.maxLocals = 9 := hml0
  have hown : s.vm.findClass "com/example/redoubt/redoubt/engine/IndexHeap" = some m.cls := findClass_of_methodNamed Bd.named
  have hnm := (name_of_methodNamed Bd.named Bd.method).1
  have X0 : Stand p l e ({ frames := 1, cells := 0, slots := 0, locals := 17 } : Room) s m #[(.ref a), (.int (0 : Int32)), (.int x), (.double t)] below meth c s₁ [] 0 0 := Stand.of_body Bd
  have e0 : s₁.heap = h0 := by rw [← hh, Bd.state]; rfl
  have N0 := Fr.nil n0
  refine Goes.st (s := s) (Q := QD30 Z a aI aT aP kI kT kP I D P o x t S h0 n0) (cs := ({ frames := 1, cells := 0, slots := 0, locals := 17 } : Room).cells) (ss := ({ frames := 1, cells := 0, slots := 0, locals := 17 } : Room).slots) (fun tg kg => castTop (ef_D30 m a (0 : Int32) x t) kg) ?_
  obtain ⟨la, lI, lT, lP, naI, naT, naP, nIT, nIP, nTP⟩ := id hB
  obtain ⟨E1, FI1, FT1, FP1, FS1, FO1, VI1, VT1, VP1⟩ := id hR
  have K0 : Keep h0 h0 [a, aI, aT, aP] := Keep.refl _ _
  show Gs p e below s _ _ _ s₁ m 0 #[rv a, iv (0 : Int32), iv x, .val (.double t), .second, .unset, .unset, .unset, .unset] []
  refine giloadN X0 hx (hb hby dp23_23_0) rfl ?_
  refine gistore X0 hx (hb hby dp23_23_1) trivial (l' := #[rv a, iv (0 : Int32), iv x, .val (.double t), .second, iv (0 : Int32), .unset, .unset, .unset]) rfl ?_
  refine galoadN X0 hx (hb hby dp23_23_3) rfl rfl ?_
  obtain ⟨T2, X2, e2, st2⟩ := getF X0 hx hZ hown (host := "") (Or.inl (hwk hw 29 rfl)) Via.refl e0 FS1 (g := (mkF m 4 #[rv a, iv (0 : Int32), iv x, .val (.double t), .second, iv (0 : Int32), .unset, .unset, .unset] [(.ref a)])) rfl rfl (hb hby dp23_23_4)
  refine Goes.st st2 ?_
  refine giconst X2 hx (hb hby dp23_23_7) ?_
  show Gs p e below s _ _ _ T2 m 8 #[rv a, iv (0 : Int32), iv x, .val (.double t), .second, iv (0 : Int32), .unset, .unset, .unset] [(.int (1 : Int32)), (.int (3 : Int32))]
  refine Goes.st (fun tg kg => XT.iushr X2.here hx rfl (hb hby dp23_23_8) rfl kg) ?_
  show Gs p e below s _ _ _ T2 m 9 #[rv a, iv (0 : Int32), iv x, .val (.double t), .second, iv (0 : Int32), .unset, .unset, .unset] [(.int (XT.ushr (3 : Int32) (1 : Int32)))]
  rw [show (XT.ushr (3 : Int32) (1 : Int32)) = (1 : Int32) from by decide]
  show Gs p e below s _ _ _ T2 m 9 #[rv a, iv (0 : Int32), iv x, .val (.double t), .second, iv (0 : Int32), .unset, .unset, .unset] [(.int (1 : Int32))]
  refine gistore X2 hx (hb hby dp23_23_9) trivial (l' := #[rv a, iv (0 : Int32), iv x, .val (.double t), .second, iv (0 : Int32), iv (1 : Int32), .unset, .unset]) rfl ?_
  refine giload X2 hx (hb hby dp23_23_11) rfl ?_
  refine giload X2 hx (hb hby dp23_23_13) rfl ?_
  show Gs p e below s _ _ _ T2 m 15 #[rv a, iv (0 : Int32), iv x, .val (.double t), .second, iv (0 : Int32), iv (1 : Int32), .unset, .unset] [(.int (1 : Int32)), (.int (0 : Int32))]
  refine gicmpNo X2 hx (hb hby dp23_23_15) (by decide) ?_
  show Gs p e below s _ _ _ T2 m 18 #[rv a, iv (0 : Int32), iv x, .val (.double t), .second, iv (0 : Int32), iv (1 : Int32), .unset, .unset] []
  refine giconst X2 hx (hb hby dp23_23_18) ?_
  refine giload X2 hx (hb hby dp23_23_19) rfl ?_
  show Gs p e below s _ _ _ T2 m 21 #[rv a, iv (0 : Int32), iv x, .val (.double t), .second, iv (0 : Int32), iv (1 : Int32), .unset, .unset] [(.int (0 : Int32)), (.int (2 : Int32))]
  refine gimul X2 hx (hb hby dp23_23_21) trivial ?_
  show Gs p e below s _ _ _ T2 m 22 #[rv a, iv (0 : Int32), iv x, .val (.double t), .second, iv (0 : Int32), iv (1 : Int32), .unset, .unset] [(.int ((2 : Int32) * (0 : Int32)))]
  rw [show ((2 : Int32) * (0 : Int32)) = (0 : Int32) from by decide]
  show Gs p e below s _ _ _ T2 m 22 #[rv a, iv (0 : Int32), iv x, .val (.double t), .second, iv (0 : Int32), iv (1 : Int32), .unset, .unset] [(.int (0 : Int32))]
  refine giconst X2 hx (hb hby dp23_23_22) ?_
  refine giadd X2 hx (hb hby dp23_23_23) trivial ?_
  show Gs p e below s _ _ _ T2 m 24 #[rv a, iv (0 : Int32), iv x, .val (.double t), .second, iv (0 : Int32), iv (1 : Int32), .unset, .unset] [(.int ((0 : Int32) + (1 : Int32)))]
  rw [show ((0 : Int32) + (1 : Int32)) = (1 : Int32) from by decide]
  show Gs p e below s _ _ _ T2 m 24 #[rv a, iv (0 : Int32), iv x, .val (.double t), .second, iv (0 : Int32), iv (1 : Int32), .unset, .unset] [(.int (1 : Int32))]
  refine gistore X2 hx (hb hby dp23_23_24) trivial (l' := #[rv a, iv (0 : Int32), iv x, .val (.double t), .second, iv (0 : Int32), iv (1 : Int32), iv (1 : Int32), .unset]) rfl ?_
  refine giload X2 hx (hb hby dp23_23_26) rfl ?_
  refine giconst X2 hx (hb hby dp23_23_28) ?_
  refine giadd X2 hx (hb hby dp23_23_29) trivial ?_
  show Gs p e below s _ _ _ T2 m 30 #[rv a, iv (0 : Int32), iv x, .val (.double t), .second, iv (0 : Int32), iv (1 : Int32), iv (1 : Int32), .unset] [(.int ((1 : Int32) + (1 : Int32)))]
  rw [show ((1 : Int32) + (1 : Int32)) = (2 : Int32) from by decide]
  show Gs p e below s _ _ _ T2 m 30 #[rv a, iv (0 : Int32), iv x, .val (.double t), .second, iv (0 : Int32), iv (1 : Int32), iv (1 : Int32), .unset] [(.int (2 : Int32))]
  refine gistore X2 hx (hb hby dp23_23_30) trivial (l' := #[rv a, iv (0 : Int32), iv x, .val (.double t), .second, iv (0 : Int32), iv (1 : Int32), iv (1 : Int32), iv (2 : Int32)]) rfl ?_
  refine giload X2 hx (hb hby dp23_23_32) rfl ?_
  refine galoadN X2 hx (hb hby dp23_23_34) rfl rfl ?_
  obtain ⟨T3, X3, e3, st3⟩ := getF X2 hx hZ hown (host := "") (Or.inl (hwk hw 29 rfl)) Via.refl e2 FS1 (g := (mkF m 35 #[rv a, iv (0 : Int32), iv x, .val (.double t), .second, iv (0 : Int32), iv (1 : Int32), iv (1 : Int32), iv (2 : Int32)] [(.ref a), (.int (2 : Int32))])) rfl rfl (hb hby dp23_23_35)
  refine Goes.st st3 ?_
  show Gs p e below s _ _ _ T3 m 38 #[rv a, iv (0 : Int32), iv x, .val (.double t), .second, iv (0 : Int32), iv (1 : Int32), iv (1 : Int32), iv (2 : Int32)] [(.int (3 : Int32)), (.int (2 : Int32))]
  refine gicmpNo X3 hx (hb hby dp23_23_38) (by decide) ?_
  show Gs p e below s _ _ _ T3 m 41 #[rv a, iv (0 : Int32), iv x, .val (.double t), .second, iv (0 : Int32), iv (1 : Int32), iv (1 : Int32), iv (2 : Int32)] []
  refine galoadN X3 hx (hb hby dp23_23_41) rfl rfl ?_
  obtain ⟨T4, X4, e4, st4⟩ := getF X3 hx hZ hown (host := "") (Or.inl (hwk hw 15 rfl)) Via.refl e3 FT1 (g := (mkF m 42 #[rv a, iv (0 : Int32), iv x, .val (.double t), .second, iv (0 : Int32), iv (1 : Int32), iv (1 : Int32), iv (2 : Int32)] [(.ref a)])) rfl rfl (hb hby dp23_23_42)
  refine Goes.st st4 ?_
  refine giload X4 hx (hb hby dp23_23_45) rfl ?_
  show Gs p e below s _ _ _ T4 m 47 #[rv a, iv (0 : Int32), iv x, .val (.double t), .second, iv (0 : Int32), iv (1 : Int32), iv (1 : Int32), iv (2 : Int32)] [(.int (2 : Int32)), (.ref aT)]
  obtain ⟨cl5, Ar5, qk5, Sz5, qz5, Ha5, Gf5⟩ := id VT1
  have in5 := inb_of (j := (2 : Int32)) Sz5 ⟨by decide, by decide⟩
  refine Goes.st (fun tg kg => X4.daload hx (j := (2 : Int32)) (v := (.double (D (2 : Int32)))) (by rw [e4]; exact Ar5.1) (State.isArrayOf_alike hZ.alike Ar5.2.1) Ar5.2.2 in5 (Ha5.at in5 (get_dls i4_2)) (g := (mkF m 47 #[rv a, iv (0 : Int32), iv x, .val (.double t), .second, iv (0 : Int32), iv (1 : Int32), iv (1 : Int32), iv (2 : Int32)] [(.int (2 : Int32)), (.ref aT)])) rfl rfl (hb hby dp23_23_47) tg kg) ?_
  refine galoadN X4 hx (hb hby dp23_23_48) rfl rfl ?_
  obtain ⟨T6, X6, e6, st6⟩ := getF X4 hx hZ hown (host := "") (Or.inl (hwk hw 12 rfl)) Via.refl e4 FI1 (g := (mkF m 49 #[rv a, iv (0 : Int32), iv x, .val (.double t), .second, iv (0 : Int32), iv (1 : Int32), iv (1 : Int32), iv (2 : Int32)] [(.ref a), (.double (D (2 : Int32)))])) rfl rfl (hb hby dp23_23_49)
  refine Goes.st st6 ?_
  refine giload X6 hx (hb hby dp23_23_52) rfl ?_
  show Gs p e below s _ _ _ T6 m 54 #[rv a, iv (0 : Int32), iv x, .val (.double t), .second, iv (0 : Int32), iv (1 : Int32), iv (1 : Int32), iv (2 : Int32)] [(.int (2 : Int32)), (.ref aI), (.double (D (2 : Int32)))]
  obtain ⟨cl7, Ar7, qk7, Sz7, qz7, Ha7, Gf7⟩ := id VI1
  have in7 := inb_of (j := (2 : Int32)) Sz7 ⟨by decide, by decide⟩
  refine Goes.st (fun tg kg => X6.iaload hx (j := (2 : Int32)) (v := (.int (I (2 : Int32)))) (by rw [e6]; exact Ar7.1) (State.isArrayOf_alike hZ.alike Ar7.2.1) Ar7.2.2 in7 (Ha7.at in7 (get_lst i4_2)) (g := (mkF m 54 #[rv a, iv (0 : Int32), iv x, .val (.double t), .second, iv (0 : Int32), iv (1 : Int32), iv (1 : Int32), iv (2 : Int32)] [(.int (2 : Int32)), (.ref aI), (.double (D (2 : Int32)))])) rfl rfl (hb hby dp23_23_54) tg kg) ?_
  refine galoadN X6 hx (hb hby dp23_23_55) rfl rfl ?_
  obtain ⟨T8, X8, e8, st8⟩ := getF X6 hx hZ hown (host := "") (Or.inl (hwk hw 15 rfl)) Via.refl e6 FT1 (g := (mkF m 56 #[rv a, iv (0 : Int32), iv x, .val (.double t), .second, iv (0 : Int32), iv (1 : Int32), iv (1 : Int32), iv (2 : Int32)] [(.ref a), (.int (I (2 : Int32))), (.double (D (2 : Int32)))])) rfl rfl (hb hby dp23_23_56)
  refine Goes.st st8 ?_
  refine giload X8 hx (hb hby dp23_23_59) rfl ?_
  show Gs p e below s _ _ _ T8 m 61 #[rv a, iv (0 : Int32), iv x, .val (.double t), .second, iv (0 : Int32), iv (1 : Int32), iv (1 : Int32), iv (2 : Int32)] [(.int (1 : Int32)), (.ref aT), (.int (I (2 : Int32))), (.double (D (2 : Int32)))]
  obtain ⟨cl9, Ar9, qk9, Sz9, qz9, Ha9, Gf9⟩ := id VT1
  have in9 := inb_of (j := (1 : Int32)) Sz9 ⟨by decide, by decide⟩
  refine Goes.st (fun tg kg => X8.daload hx (j := (1 : Int32)) (v := (.double (D (1 : Int32)))) (by rw [e8]; exact Ar9.1) (State.isArrayOf_alike hZ.alike Ar9.2.1) Ar9.2.2 in9 (Ha9.at in9 (get_dls i4_1)) (g := (mkF m 61 #[rv a, iv (0 : Int32), iv x, .val (.double t), .second, iv (0 : Int32), iv (1 : Int32), iv (1 : Int32), iv (2 : Int32)] [(.int (1 : Int32)), (.ref aT), (.int (I (2 : Int32))), (.double (D (2 : Int32)))])) rfl rfl (hb hby dp23_23_61) tg kg) ?_
  refine galoadN X8 hx (hb hby dp23_23_62) rfl rfl ?_
  obtain ⟨T10, X10, e10, st10⟩ := getF X8 hx hZ hown (host := "") (Or.inl (hwk hw 12 rfl)) Via.refl e8 FI1 (g := (mkF m 63 #[rv a, iv (0 : Int32), iv x, .val (.double t), .second, iv (0 : Int32), iv (1 : Int32), iv (1 : Int32), iv (2 : Int32)] [(.ref a), (.double (D (1 : Int32))), (.int (I (2 : Int32))), (.double (D (2 : Int32)))])) rfl rfl (hb hby dp23_23_63)
  refine Goes.st st10 ?_
  refine giload X10 hx (hb hby dp23_23_66) rfl ?_
  show Gs p e below s _ _ _ T10 m 68 #[rv a, iv (0 : Int32), iv x, .val (.double t), .second, iv (0 : Int32), iv (1 : Int32), iv (1 : Int32), iv (2 : Int32)] [(.int (1 : Int32)), (.ref aI), (.double (D (1 : Int32))), (.int (I (2 : Int32))), (.double (D (2 : Int32)))]
  obtain ⟨cl11, Ar11, qk11, Sz11, qz11, Ha11, Gf11⟩ := id VI1
  have in11 := inb_of (j := (1 : Int32)) Sz11 ⟨by decide, by decide⟩
  refine Goes.st (fun tg kg => X10.iaload hx (j := (1 : Int32)) (v := (.int (I (1 : Int32)))) (by rw [e10]; exact Ar11.1) (State.isArrayOf_alike hZ.alike Ar11.2.1) Ar11.2.2 in11 (Ha11.at in11 (get_lst i4_1)) (g := (mkF m 68 #[rv a, iv (0 : Int32), iv x, .val (.double t), .second, iv (0 : Int32), iv (1 : Int32), iv (1 : Int32), iv (2 : Int32)] [(.int (1 : Int32)), (.ref aI), (.double (D (1 : Int32))), (.int (I (2 : Int32))), (.double (D (2 : Int32)))])) rfl rfl (hb hby dp23_23_68) tg kg) ?_
  obtain ⟨_, _, ⟨T12, L12, k12, n12⟩, -, X12, ⟨Lc12, hQ12, l12, y12, z12⟩, st12⟩ := Jvm.LawKit.callS X10 hx (y := mN6) hown (mvT hZ (hwk hw 69 rfl)) (mvT hZ (hwk hw 70 rfl)) (mvT hZ (hwk hw 2 rfl)) (mvT hZ (hwk hw 71 rfl)) (by decide) (backOf (W := 0) (rmBe l Z a0 hw [] (D (2 : Int32)) (I (2 : Int32)) (D (1 : Int32)) (I (1 : Int32)) h0 n0 Z0 ) hZ (hwk hw 71 rfl) (hwk hw 2 rfl) (by decide) (by decide)) (g := (mkF m 69 #[rv a, iv (0 : Int32), iv x, .val (.double t), .second, iv (0 : Int32), iv (1 : Int32), iv (1 : Int32), iv (2 : Int32)] [(.int (I (1 : Int32))), (.double (D (1 : Int32))), (.int (I (2 : Int32))), (.double (D (2 : Int32)))])) rfl (by rw [hml]; rfl) (argsL := [(.double (D (2 : Int32))), (.int (I (2 : Int32))), (.double (D (1 : Int32))), (.int (I (1 : Int32)))]) (rest := []) (lenOf pd__DIDI_Z_1212 rfl) rfl (by show 2 * 0 + _ ≤ _; exact Nat.le_of_eq rfl) (hb hby dp23_23_69) (fun _ _ => ⟨rfl, e10, (by decide : 0 + 0 ≤ 0), (by decide : 0 + 0 ≤ 0)⟩)
  dsimp only [Pt.U, Pt.locs, Pt.cells, Pt.slots] at X12 l12 y12 z12 st12 hQ12
  subst l12 y12 z12
  obtain ⟨rfl, N12q, eh12⟩ := hQ12
  have N12 := Fr.app N0 N12q
  refine Goes.st st12 ?_
  show Gs p e below s _ _ _ T12 m 72 #[rv a, iv (0 : Int32), iv x, .val (.double t), .second, iv (0 : Int32), iv (1 : Int32), iv (1 : Int32), iv (2 : Int32)] [(.int (bef (D (2 : Int32)) (I (2 : Int32)) (D (1 : Int32)) (I (1 : Int32))))]
  by_cases c13 : (bef (D (2 : Int32)) (I (2 : Int32)) (D (1 : Int32)) (I (1 : Int32))) = (0 : Int32)
  · refine gifYes X12 hx (pc' := 79) (hb hby dp23_23_72) ((if0 _ _).trans (teq c13).1) (by decide) (by decide) ?_
    show Gs p e below s _ _ _ T12 m 79 #[rv a, iv (0 : Int32), iv x, .val (.double t), .second, iv (0 : Int32), iv (1 : Int32), iv (1 : Int32), iv (2 : Int32)] []
    refine galoadN X12 hx (hb hby dp23_23_79) rfl rfl ?_
    obtain ⟨T14, X14, e14, st14⟩ := getF X12 hx hZ hown (host := "") (Or.inl (hwk hw 15 rfl)) Via.refl eh12 FT1 (g := (mkF m 80 #[rv a, iv (0 : Int32), iv x, .val (.double t), .second, iv (0 : Int32), iv (1 : Int32), iv (1 : Int32), iv (2 : Int32)] [(.ref a)])) rfl rfl (hb hby dp23_23_80)
    refine Goes.st st14 ?_
    refine giload X14 hx (hb hby dp23_23_83) rfl ?_
    show Gs p e below s _ _ _ T14 m 85 #[rv a, iv (0 : Int32), iv x, .val (.double t), .second, iv (0 : Int32), iv (1 : Int32), iv (1 : Int32), iv (2 : Int32)] [(.int (1 : Int32)), (.ref aT)]
    obtain ⟨cl15, Ar15, qk15, Sz15, qz15, Ha15, Gf15⟩ := id VT1
    have in15 := inb_of (j := (1 : Int32)) Sz15 ⟨by decide, by decide⟩
    refine Goes.st (fun tg kg => X14.daload hx (j := (1 : Int32)) (v := (.double (D (1 : Int32)))) (by rw [e14]; exact Ar15.1) (State.isArrayOf_alike hZ.alike Ar15.2.1) Ar15.2.2 in15 (Ha15.at in15 (get_dls i4_1)) (g := (mkF m 85 #[rv a, iv (0 : Int32), iv x, .val (.double t), .second, iv (0 : Int32), iv (1 : Int32), iv (1 : Int32), iv (2 : Int32)] [(.int (1 : Int32)), (.ref aT)])) rfl rfl (hb hby dp23_23_85) tg kg) ?_
    refine galoadN X14 hx (hb hby dp23_23_86) rfl rfl ?_
    obtain ⟨T16, X16, e16, st16⟩ := getF X14 hx hZ hown (host := "") (Or.inl (hwk hw 12 rfl)) Via.refl e14 FI1 (g := (mkF m 87 #[rv a, iv (0 : Int32), iv x, .val (.double t), .second, iv (0 : Int32), iv (1 : Int32), iv (1 : Int32), iv (2 : Int32)] [(.ref a), (.double (D (1 : Int32)))])) rfl rfl (hb hby dp23_23_87)
    refine Goes.st st16 ?_
    refine giload X16 hx (hb hby dp23_23_90) rfl ?_
    show Gs p e below s _ _ _ T16 m 92 #[rv a, iv (0 : Int32), iv x, .val (.double t), .second, iv (0 : Int32), iv (1 : Int32), iv (1 : Int32), iv (2 : Int32)] [(.int (1 : Int32)), (.ref aI), (.double (D (1 : Int32)))]
    obtain ⟨cl17, Ar17, qk17, Sz17, qz17, Ha17, Gf17⟩ := id VI1
    have in17 := inb_of (j := (1 : Int32)) Sz17 ⟨by decide, by decide⟩
    refine Goes.st (fun tg kg => X16.iaload hx (j := (1 : Int32)) (v := (.int (I (1 : Int32)))) (by rw [e16]; exact Ar17.1) (State.isArrayOf_alike hZ.alike Ar17.2.1) Ar17.2.2 in17 (Ha17.at in17 (get_lst i4_1)) (g := (mkF m 92 #[rv a, iv (0 : Int32), iv x, .val (.double t), .second, iv (0 : Int32), iv (1 : Int32), iv (1 : Int32), iv (2 : Int32)] [(.int (1 : Int32)), (.ref aI), (.double (D (1 : Int32)))])) rfl rfl (hb hby dp23_23_92) tg kg) ?_
    refine gdloadN X16 hx (hb hby dp23_23_93) rfl ?_
    refine giloadN X16 hx (hb hby dp23_23_94) rfl ?_
    obtain ⟨_, _, ⟨T18, L18, k18, n18⟩, -, X18, ⟨Lc18, hQ18, l18, y18, z18⟩, st18⟩ := Jvm.LawKit.callS X16 hx (y := mN6) hown (mvT hZ (hwk hw 69 rfl)) (mvT hZ (hwk hw 70 rfl)) (mvT hZ (hwk hw 2 rfl)) (mvT hZ (hwk hw 71 rfl)) (by decide) (backOf (W := 0) (rmBe l Z a0 hw [] (D (1 : Int32)) (I (1 : Int32)) t x h0 n0 Z0 ) hZ (hwk hw 71 rfl) (hwk hw 2 rfl) (by decide) (by decide)) (g := (mkF m 95 #[rv a, iv (0 : Int32), iv x, .val (.double t), .second, iv (0 : Int32), iv (1 : Int32), iv (1 : Int32), iv (2 : Int32)] [(.int x), (.double t), (.int (I (1 : Int32))), (.double (D (1 : Int32)))])) rfl (by rw [hml]; rfl) (argsL := [(.double (D (1 : Int32))), (.int (I (1 : Int32))), (.double t), (.int x)]) (rest := []) (lenOf pd__DIDI_Z_1212 rfl) rfl (by show 2 * 0 + _ ≤ _; exact Nat.le_of_eq rfl) (hb hby dp23_23_95) (fun _ _ => ⟨rfl, e16, (by decide : 0 + 0 ≤ 0), (by decide : 0 + 0 ≤ 0)⟩)
    dsimp only [Pt.U, Pt.locs, Pt.cells, Pt.slots] at X18 l18 y18 z18 st18 hQ18
    subst l18 y18 z18
    obtain ⟨rfl, N18q, eh18⟩ := hQ18
    have N18 := Fr.app N12 N18q
    refine Goes.st st18 ?_
    show Gs p e below s _ _ _ T18 m 98 #[rv a, iv (0 : Int32), iv x, .val (.double t), .second, iv (0 : Int32), iv (1 : Int32), iv (1 : Int32), iv (2 : Int32)] [(.int (bef (D (1 : Int32)) (I (1 : Int32)) t x))]
    by_cases c19 : (bef (D (1 : Int32)) (I (1 : Int32)) t x) = (0 : Int32)
    · refine gifNo X18 hx (hb hby dp23_23_98) ((if0 _ _).trans (teq c19).2) ?_
      show Gs p e below s _ _ _ T18 m 101 #[rv a, iv (0 : Int32), iv x, .val (.double t), .second, iv (0 : Int32), iv (1 : Int32), iv (1 : Int32), iv (2 : Int32)] []
      refine ggoto X18 hx (pc' := 131) (hb hby dp23_23_101) (by decide) (by decide) ?_
      show Gs p e below s _ _ _ T18 m 131 #[rv a, iv (0 : Int32), iv x, .val (.double t), .second, iv (0 : Int32), iv (1 : Int32), iv (1 : Int32), iv (2 : Int32)] []
      refine galoadN X18 hx (hb hby dp23_23_131) rfl rfl ?_
      refine giload X18 hx (hb hby dp23_23_132) rfl ?_
      refine giloadN X18 hx (hb hby dp23_23_134) rfl ?_
      refine gdloadN X18 hx (hb hby dp23_23_135) rfl ?_
      have HR20 : HR Z h0 a aI aT aP kI kT kP I D P (3 : Int32) o := ⟨E1, FI1, FT1, FP1, FS1, FO1, VI1, VT1, VP1⟩
      obtain ⟨cc21, qa21, qb21⟩ := Exa.cell E1
      obtain ⟨_, _, ⟨T21, L21, k21, n21⟩, -, X21, ⟨Lc21, hQ21, l21, y21, z21⟩, st21⟩ := X18.privateBack hx (y := mN5) hown (mvT hZ (hwk hw 65 rfl)) (mvT hZ (hwk hw 66 rfl)) (selP (y := mN5) (as := #[]) (mvT hZ (hwk hw 1 rfl)) (mvP hZ (hwk hw 67 rfl)) (mvT hZ (hwk hw 66 rfl)) (by decide)) (Cond.privateMethod_at (mvP hZ (hwk hw 67 rfl) (args := #[]))) (mvT hZ (hwk hw 68 rfl)) (by decide) (backOf (W := 0) (rmPu l Z a0 hw [] a aI aT aP kI kT kP I D P (3 : Int32) o (0 : Int32) x t h0 n0 Z0 hB HR20 i4_0 hx4) hZ (hwk hw 68 rfl) (hwk hw 2 rfl) (by decide) (by decide)) (g := (mkF m 136 #[rv a, iv (0 : Int32), iv x, .val (.double t), .second, iv (0 : Int32), iv (1 : Int32), iv (1 : Int32), iv (2 : Int32)] [(.double t), (.int x), (.int (0 : Int32)), (.ref a)])) rfl (by rw [hml]; rfl) (Steps.refl _) (a := a) (by rw [eh18]; exact qa21) qb21 (argsL := [(.int (0 : Int32)), (.int x), (.double t)]) (rest := []) (lenOf pd__IID_V_e64 rfl) rfl (by show 2 * 0 + _ ≤ _; exact Nat.le_of_eq rfl) (hb hby dp23_23_136) (fun _ _ => ⟨rfl, eh18, (by decide : 0 + 0 ≤ 0), (by decide : 0 + 0 ≤ 0)⟩)
      dsimp only [Pt.U, Pt.locs, Pt.cells, Pt.slots] at X21 l21 y21 z21 st21 hQ21
      subst l21 y21 z21
      obtain ⟨rfl, N21q, K21, HQ21⟩ := hQ21
      have KK22 := K0.trans K21 (allS (Or.inl (List.mem_of_getElem? (i := 0) rfl)) (allS (Or.inl (List.mem_of_getElem? (i := 1) rfl)) (allS (Or.inl (List.mem_of_getElem? (i := 2) rfl)) (allS (Or.inl (List.mem_of_getElem? (i := 3) rfl)) all0))))
      have Z21 : n0 ≤ T21.heap.size := Nat.le_trans Z0 K21.1
      obtain ⟨E23, FI23, FT23, FP23, FS23, FO23, VI23, VT23, VP23⟩ := id HQ21
      have inv24 := hol_end hH i4_0 (by decide) hx4 hS
      have N21 := Fr.app N18 N21q
      refine Goes.sts st21 ?_
      show Gs p e below s _ _ _ T21 m 139 #[rv a, iv (0 : Int32), iv x, .val (.double t), .second, iv (0 : Int32), iv (1 : Int32), iv (1 : Int32), iv (2 : Int32)] []
      have HR25 : HR Z T21.heap a aI aT aP kI kT kP (upd I (0 : Int32) x) (upd D (0 : Int32) t) (upd P x (0 : Int32)) (3 : Int32) o := ⟨E23, FI23, FT23, FP23, FS23, FO23, VI23, VT23, VP23⟩
      refine Goes.retV X21 hx hlk hret (hb hby dp23_23_139) ?_ (by decide) (by decide)
      exact ⟨(upd I (0 : Int32) x), (upd D (0 : Int32) t), (upd P x (0 : Int32)), rfl, N21, KK22, HR25, inv24⟩
    · refine gifYes X18 hx (pc' := 104) (hb hby dp23_23_98) ((if0 _ _).trans (feq c19).2) (by decide) (by decide) ?_
      show Gs p e below s _ _ _ T18 m 104 #[rv a, iv (0 : Int32), iv x, .val (.double t), .second, iv (0 : Int32), iv (1 : Int32), iv (1 : Int32), iv (2 : Int32)] []
      refine galoadN X18 hx (hb hby dp23_23_104) rfl rfl ?_
      refine giload X18 hx (hb hby dp23_23_105) rfl ?_
      refine galoadN X18 hx (hb hby dp23_23_107) rfl rfl ?_
      obtain ⟨T26, X26, e26, st26⟩ := getF X18 hx hZ hown (host := "") (Or.inl (hwk hw 12 rfl)) Via.refl eh18 FI1 (g := (mkF m 108 #[rv a, iv (0 : Int32), iv x, .val (.double t), .second, iv (0 : Int32), iv (1 : Int32), iv (1 : Int32), iv (2 : Int32)] [(.ref a), (.int (0 : Int32)), (.ref a)])) rfl rfl (hb hby dp23_23_108)
      refine Goes.st st26 ?_
      refine giload X26 hx (hb hby dp23_23_111) rfl ?_
      show Gs p e below s _ _ _ T26 m 113 #[rv a, iv (0 : Int32), iv x, .val (.double t), .second, iv (0 : Int32), iv (1 : Int32), iv (1 : Int32), iv (2 : Int32)] [(.int (1 : Int32)), (.ref aI), (.int (0 : Int32)), (.ref a)]
      obtain ⟨cl27, Ar27, qk27, Sz27, qz27, Ha27, Gf27⟩ := id VI1
      have in27 := inb_of (j := (1 : Int32)) Sz27 ⟨by decide, by decide⟩
      refine Goes.st (fun tg kg => X26.iaload hx (j := (1 : Int32)) (v := (.int (I (1 : Int32)))) (by rw [e26]; exact Ar27.1) (State.isArrayOf_alike hZ.alike Ar27.2.1) Ar27.2.2 in27 (Ha27.at in27 (get_lst i4_1)) (g := (mkF m 113 #[rv a, iv (0 : Int32), iv x, .val (.double t), .second, iv (0 : Int32), iv (1 : Int32), iv (1 : Int32), iv (2 : Int32)] [(.int (1 : Int32)), (.ref aI), (.int (0 : Int32)), (.ref a)])) rfl rfl (hb hby dp23_23_113) tg kg) ?_
      refine galoadN X26 hx (hb hby dp23_23_114) rfl rfl ?_
      obtain ⟨T28, X28, e28, st28⟩ := getF X26 hx hZ hown (host := "") (Or.inl (hwk hw 15 rfl)) Via.refl e26 FT1 (g := (mkF m 115 #[rv a, iv (0 : Int32), iv x, .val (.double t), .second, iv (0 : Int32), iv (1 : Int32), iv (1 : Int32), iv (2 : Int32)] [(.ref a), (.int (I (1 : Int32))), (.int (0 : Int32)), (.ref a)])) rfl rfl (hb hby dp23_23_115)
      refine Goes.st st28 ?_
      refine giload X28 hx (hb hby dp23_23_118) rfl ?_
      show Gs p e below s _ _ _ T28 m 120 #[rv a, iv (0 : Int32), iv x, .val (.double t), .second, iv (0 : Int32), iv (1 : Int32), iv (1 : Int32), iv (2 : Int32)] [(.int (1 : Int32)), (.ref aT), (.int (I (1 : Int32))), (.int (0 : Int32)), (.ref a)]
      obtain ⟨cl29, Ar29, qk29, Sz29, qz29, Ha29, Gf29⟩ := id VT1
      have in29 := inb_of (j := (1 : Int32)) Sz29 ⟨by decide, by decide⟩
      refine Goes.st (fun tg kg => X28.daload hx (j := (1 : Int32)) (v := (.double (D (1 : Int32)))) (by rw [e28]; exact Ar29.1) (State.isArrayOf_alike hZ.alike Ar29.2.1) Ar29.2.2 in29 (Ha29.at in29 (get_dls i4_1)) (g := (mkF m 120 #[rv a, iv (0 : Int32), iv x, .val (.double t), .second, iv (0 : Int32), iv (1 : Int32), iv (1 : Int32), iv (2 : Int32)] [(.int (1 : Int32)), (.ref aT), (.int (I (1 : Int32))), (.int (0 : Int32)), (.ref a)])) rfl rfl (hb hby dp23_23_120) tg kg) ?_
      have HR30 : HR Z h0 a aI aT aP kI kT kP I D P (3 : Int32) o := ⟨E1, FI1, FT1, FP1, FS1, FO1, VI1, VT1, VP1⟩
      obtain ⟨cc31, qa31, qb31⟩ := Exa.cell E1
      obtain ⟨_, _, ⟨T31, L31, k31, n31⟩, -, X31, ⟨Lc31, hQ31, l31, y31, z31⟩, st31⟩ := X28.privateBack hx (y := mN5) hown (mvT hZ (hwk hw 65 rfl)) (mvT hZ (hwk hw 66 rfl)) (selP (y := mN5) (as := #[]) (mvT hZ (hwk hw 1 rfl)) (mvP hZ (hwk hw 67 rfl)) (mvT hZ (hwk hw 66 rfl)) (by decide)) (Cond.privateMethod_at (mvP hZ (hwk hw 67 rfl) (args := #[]))) (mvT hZ (hwk hw 68 rfl)) (by decide) (backOf (W := 0) (rmPu l Z a0 hw [] a aI aT aP kI kT kP I D P (3 : Int32) o (0 : Int32) (I (1 : Int32)) (D (1 : Int32)) h0 n0 Z0 hB HR30 i4_0 (hH.1 _ i4_1)) hZ (hwk hw 68 rfl) (hwk hw 2 rfl) (by decide) (by decide)) (g := (mkF m 121 #[rv a, iv (0 : Int32), iv x, .val (.double t), .second, iv (0 : Int32), iv (1 : Int32), iv (1 : Int32), iv (2 : Int32)] [(.double (D (1 : Int32))), (.int (I (1 : Int32))), (.int (0 : Int32)), (.ref a)])) rfl (by rw [hml]; rfl) (Steps.refl _) (a := a) (by rw [e28]; exact qa31) qb31 (argsL := [(.int (0 : Int32)), (.int (I (1 : Int32))), (.double (D (1 : Int32)))]) (rest := []) (lenOf pd__IID_V_e64 rfl) rfl (by show 2 * 0 + _ ≤ _; exact Nat.le_of_eq rfl) (hb hby dp23_23_121) (fun _ _ => ⟨rfl, e28, (by decide : 0 + 0 ≤ 0), (by decide : 0 + 0 ≤ 0)⟩)
      dsimp only [Pt.U, Pt.locs, Pt.cells, Pt.slots] at X31 l31 y31 z31 st31 hQ31
      subst l31 y31 z31
      obtain ⟨rfl, N31q, K31, HQ31⟩ := hQ31
      have KK32 := K0.trans K31 (allS (Or.inl (List.mem_of_getElem? (i := 0) rfl)) (allS (Or.inl (List.mem_of_getElem? (i := 1) rfl)) (allS (Or.inl (List.mem_of_getElem? (i := 2) rfl)) (allS (Or.inl (List.mem_of_getElem? (i := 3) rfl)) all0))))
      have Z31 : n0 ≤ T31.heap.size := Nat.le_trans Z0 K31.1
      obtain ⟨E33, FI33, FT33, FP33, FS33, FO33, VI33, VT33, VP33⟩ := id HQ31
      have hol34 := hol_move hH i4_1 (by decide) (by decide) i4_0 (by decide)
      have N31 := Fr.app N18 N31q
      refine Goes.sts st31 ?_
      show Gs p e below s _ _ _ T31 m 124 #[rv a, iv (0 : Int32), iv x, .val (.double t), .second, iv (0 : Int32), iv (1 : Int32), iv (1 : Int32), iv (2 : Int32)] []
      refine giload X31 hx (hb hby dp23_23_124) rfl ?_
      refine gistore X31 hx (hb hby dp23_23_126) trivial (l' := #[rv a, iv (0 : Int32), iv x, .val (.double t), .second, iv (1 : Int32), iv (1 : Int32), iv (1 : Int32), iv (2 : Int32)]) rfl ?_
      show Gs p e below s _ _ _ T31 m 128 #[rv a, iv (0 : Int32), iv x, .val (.double t), .second, iv (1 : Int32), iv (1 : Int32), iv (1 : Int32), iv (2 : Int32)] []
      refine ggoto X31 hx (pc' := 11) (hb hby dp23_23_128) (by decide) (by decide) ?_
      show Gs p e below s _ _ _ T31 m 11 #[rv a, iv (0 : Int32), iv x, .val (.double t), .second, iv (1 : Int32), iv (1 : Int32), iv (1 : Int32), iv (2 : Int32)] []
      refine giload X31 hx (hb hby dp23_23_11) rfl ?_
      refine giload X31 hx (hb hby dp23_23_13) rfl ?_
      show Gs p e below s _ _ _ T31 m 15 #[rv a, iv (0 : Int32), iv x, .val (.double t), .second, iv (1 : Int32), iv (1 : Int32), iv (1 : Int32), iv (2 : Int32)] [(.int (1 : Int32)), (.int (1 : Int32))]
      refine gicmpYes X31 hx (pc' := 131) (hb hby dp23_23_15) (by decide) (by decide) (by decide) ?_
      show Gs p e below s _ _ _ T31 m 131 #[rv a, iv (0 : Int32), iv x, .val (.double t), .second, iv (1 : Int32), iv (1 : Int32), iv (1 : Int32), iv (2 : Int32)] []
      refine galoadN X31 hx (hb hby dp23_23_131) rfl rfl ?_
      refine giload X31 hx (hb hby dp23_23_132) rfl ?_
      refine giloadN X31 hx (hb hby dp23_23_134) rfl ?_
      refine gdloadN X31 hx (hb hby dp23_23_135) rfl ?_
      have HR35 : HR Z T31.heap a aI aT aP kI kT kP (upd I (0 : Int32) (I (1 : Int32))) (upd D (0 : Int32) (D (1 : Int32))) (upd P (I (1 : Int32)) (0 : Int32)) (3 : Int32) o := ⟨E33, FI33, FT33, FP33, FS33, FO33, VI33, VT33, VP33⟩
      obtain ⟨cc36, qa36, qb36⟩ := Exa.cell E33
      obtain ⟨_, _, ⟨T36, L36, k36, n36⟩, -, X36, ⟨Lc36, hQ36, l36, y36, z36⟩, st36⟩ := X31.privateBack hx (y := mN5) hown (mvT hZ (hwk hw 65 rfl)) (mvT hZ (hwk hw 66 rfl)) (selP (y := mN5) (as := #[]) (mvT hZ (hwk hw 1 rfl)) (mvP hZ (hwk hw 67 rfl)) (mvT hZ (hwk hw 66 rfl)) (by decide)) (Cond.privateMethod_at (mvP hZ (hwk hw 67 rfl) (args := #[]))) (mvT hZ (hwk hw 68 rfl)) (by decide) (backOf (W := 0) (rmPu l Z a0 hw [] a aI aT aP kI kT kP (upd I (0 : Int32) (I (1 : Int32))) (upd D (0 : Int32) (D (1 : Int32))) (upd P (I (1 : Int32)) (0 : Int32)) (3 : Int32) o (1 : Int32) x t T31.heap n0 Z31 hB HR35 i4_1 hx4) hZ (hwk hw 68 rfl) (hwk hw 2 rfl) (by decide) (by decide)) (g := (mkF m 136 #[rv a, iv (0 : Int32), iv x, .val (.double t), .second, iv (1 : Int32), iv (1 : Int32), iv (1 : Int32), iv (2 : Int32)] [(.double t), (.int x), (.int (1 : Int32)), (.ref a)])) rfl (by rw [hml]; rfl) (Steps.refl _) (a := a) qa36 qb36 (argsL := [(.int (1 : Int32)), (.int x), (.double t)]) (rest := []) (lenOf pd__IID_V_e64 rfl) rfl (by show 2 * 0 + _ ≤ _; exact Nat.le_of_eq rfl) (hb hby dp23_23_136) (fun _ _ => ⟨rfl, rfl, (by decide : 0 + 0 ≤ 0), (by decide : 0 + 0 ≤ 0)⟩)
      dsimp only [Pt.U, Pt.locs, Pt.cells, Pt.slots] at X36 l36 y36 z36 st36 hQ36
      subst l36 y36 z36
      obtain ⟨rfl, N36q, K36, HQ36⟩ := hQ36
      have KK37 := KK32.trans K36 (allS (Or.inl (List.mem_of_getElem? (i := 0) rfl)) (allS (Or.inl (List.mem_of_getElem? (i := 1) rfl)) (allS (Or.inl (List.mem_of_getElem? (i := 2) rfl)) (allS (Or.inl (List.mem_of_getElem? (i := 3) rfl)) all0))))
      have Z36 : n0 ≤ T36.heap.size := Nat.le_trans Z31 K36.1
      obtain ⟨E38, FI38, FT38, FP38, FS38, FO38, VI38, VT38, VP38⟩ := id HQ36
      have inv39 := hol_end hol34 i4_1 (by decide) hx4 hS
      have N36 := Fr.app N31 N36q
      refine Goes.sts st36 ?_
      show Gs p e below s _ _ _ T36 m 139 #[rv a, iv (0 : Int32), iv x, .val (.double t), .second, iv (1 : Int32), iv (1 : Int32), iv (1 : Int32), iv (2 : Int32)] []
      have HR40 : HR Z T36.heap a aI aT aP kI kT kP (upd (upd I (0 : Int32) (I (1 : Int32))) (1 : Int32) x) (upd (upd D (0 : Int32) (D (1 : Int32))) (1 : Int32) t) (upd (upd P (I (1 : Int32)) (0 : Int32)) x (1 : Int32)) (3 : Int32) o := ⟨E38, FI38, FT38, FP38, FS38, FO38, VI38, VT38, VP38⟩
      refine Goes.retV X36 hx hlk hret (hb hby dp23_23_139) ?_ (by decide) (by decide)
      exact ⟨(upd (upd I (0 : Int32) (I (1 : Int32))) (1 : Int32) x), (upd (upd D (0 : Int32) (D (1 : Int32))) (1 : Int32) t), (upd (upd P (I (1 : Int32)) (0 : Int32)) x (1 : Int32)), rfl, N36, KK37, HR40, inv39⟩
  · refine gifNo X12 hx (hb hby dp23_23_72) ((if0 _ _).trans (feq c13).1) ?_
    show Gs p e below s _ _ _ T12 m 75 #[rv a, iv (0 : Int32), iv x, .val (.double t), .second, iv (0 : Int32), iv (1 : Int32), iv (1 : Int32), iv (2 : Int32)] []
    refine giload X12 hx (hb hby dp23_23_75) rfl ?_
    refine gistore X12 hx (hb hby dp23_23_77) trivial (l' := #[rv a, iv (0 : Int32), iv x, .val (.double t), .second, iv (0 : Int32), iv (1 : Int32), iv (2 : Int32), iv (2 : Int32)]) rfl ?_
    refine galoadN X12 hx (hb hby dp23_23_79) rfl rfl ?_
    obtain ⟨T41, X41, e41, st41⟩ := getF X12 hx hZ hown (host := "") (Or.inl (hwk hw 15 rfl)) Via.refl eh12 FT1 (g := (mkF m 80 #[rv a, iv (0 : Int32), iv x, .val (.double t), .second, iv (0 : Int32), iv (1 : Int32), iv (2 : Int32), iv (2 : Int32)] [(.ref a)])) rfl rfl (hb hby dp23_23_80)
    refine Goes.st st41 ?_
    refine giload X41 hx (hb hby dp23_23_83) rfl ?_
    show Gs p e below s _ _ _ T41 m 85 #[rv a, iv (0 : Int32), iv x, .val (.double t), .second, iv (0 : Int32), iv (1 : Int32), iv (2 : Int32), iv (2 : Int32)] [(.int (2 : Int32)), (.ref aT)]
    obtain ⟨cl42, Ar42, qk42, Sz42, qz42, Ha42, Gf42⟩ := id VT1
    have in42 := inb_of (j := (2 : Int32)) Sz42 ⟨by decide, by decide⟩
    refine Goes.st (fun tg kg => X41.daload hx (j := (2 : Int32)) (v := (.double (D (2 : Int32)))) (by rw [e41]; exact Ar42.1) (State.isArrayOf_alike hZ.alike Ar42.2.1) Ar42.2.2 in42 (Ha42.at in42 (get_dls i4_2)) (g := (mkF m 85 #[rv a, iv (0 : Int32), iv x, .val (.double t), .second, iv (0 : Int32), iv (1 : Int32), iv (2 : Int32), iv (2 : Int32)] [(.int (2 : Int32)), (.ref aT)])) rfl rfl (hb hby dp23_23_85) tg kg) ?_
    refine galoadN X41 hx (hb hby dp23_23_86) rfl rfl ?_
    obtain ⟨T43, X43, e43, st43⟩ := getF X41 hx hZ hown (host := "") (Or.inl (hwk hw 12 rfl)) Via.refl e41 FI1 (g := (mkF m 87 #[rv a, iv (0 : Int32), iv x, .val (.double t), .second, iv (0 : Int32), iv (1 : Int32), iv (2 : Int32), iv (2 : Int32)] [(.ref a), (.double (D (2 : Int32)))])) rfl rfl (hb hby dp23_23_87)
    refine Goes.st st43 ?_
    refine giload X43 hx (hb hby dp23_23_90) rfl ?_
    show Gs p e below s _ _ _ T43 m 92 #[rv a, iv (0 : Int32), iv x, .val (.double t), .second, iv (0 : Int32), iv (1 : Int32), iv (2 : Int32), iv (2 : Int32)] [(.int (2 : Int32)), (.ref aI), (.double (D (2 : Int32)))]
    obtain ⟨cl44, Ar44, qk44, Sz44, qz44, Ha44, Gf44⟩ := id VI1
    have in44 := inb_of (j := (2 : Int32)) Sz44 ⟨by decide, by decide⟩
    refine Goes.st (fun tg kg => X43.iaload hx (j := (2 : Int32)) (v := (.int (I (2 : Int32)))) (by rw [e43]; exact Ar44.1) (State.isArrayOf_alike hZ.alike Ar44.2.1) Ar44.2.2 in44 (Ha44.at in44 (get_lst i4_2)) (g := (mkF m 92 #[rv a, iv (0 : Int32), iv x, .val (.double t), .second, iv (0 : Int32), iv (1 : Int32), iv (2 : Int32), iv (2 : Int32)] [(.int (2 : Int32)), (.ref aI), (.double (D (2 : Int32)))])) rfl rfl (hb hby dp23_23_92) tg kg) ?_
    refine gdloadN X43 hx (hb hby dp23_23_93) rfl ?_
    refine giloadN X43 hx (hb hby dp23_23_94) rfl ?_
    obtain ⟨_, _, ⟨T45, L45, k45, n45⟩, -, X45, ⟨Lc45, hQ45, l45, y45, z45⟩, st45⟩ := Jvm.LawKit.callS X43 hx (y := mN6) hown (mvT hZ (hwk hw 69 rfl)) (mvT hZ (hwk hw 70 rfl)) (mvT hZ (hwk hw 2 rfl)) (mvT hZ (hwk hw 71 rfl)) (by decide) (backOf (W := 0) (rmBe l Z a0 hw [] (D (2 : Int32)) (I (2 : Int32)) t x h0 n0 Z0 ) hZ (hwk hw 71 rfl) (hwk hw 2 rfl) (by decide) (by decide)) (g := (mkF m 95 #[rv a, iv (0 : Int32), iv x, .val (.double t), .second, iv (0 : Int32), iv (1 : Int32), iv (2 : Int32), iv (2 : Int32)] [(.int x), (.double t), (.int (I (2 : Int32))), (.double (D (2 : Int32)))])) rfl (by rw [hml]; rfl) (argsL := [(.double (D (2 : Int32))), (.int (I (2 : Int32))), (.double t), (.int x)]) (rest := []) (lenOf pd__DIDI_Z_1212 rfl) rfl (by show 2 * 0 + _ ≤ _; exact Nat.le_of_eq rfl) (hb hby dp23_23_95) (fun _ _ => ⟨rfl, e43, (by decide : 0 + 0 ≤ 0), (by decide : 0 + 0 ≤ 0)⟩)
    dsimp only [Pt.U, Pt.locs, Pt.cells, Pt.slots] at X45 l45 y45 z45 st45 hQ45
    subst l45 y45 z45
    obtain ⟨rfl, N45q, eh45⟩ := hQ45
    have N45 := Fr.app N12 N45q
    refine Goes.st st45 ?_
    show Gs p e below s _ _ _ T45 m 98 #[rv a, iv (0 : Int32), iv x, .val (.double t), .second, iv (0 : Int32), iv (1 : Int32), iv (2 : Int32), iv (2 : Int32)] [(.int (bef (D (2 : Int32)) (I (2 : Int32)) t x))]
    by_cases c46 : (bef (D (2 : Int32)) (I (2 : Int32)) t x) = (0 : Int32)
    · refine gifNo X45 hx (hb hby dp23_23_98) ((if0 _ _).trans (teq c46).2) ?_
      show Gs p e below s _ _ _ T45 m 101 #[rv a, iv (0 : Int32), iv x, .val (.double t), .second, iv (0 : Int32), iv (1 : Int32), iv (2 : Int32), iv (2 : Int32)] []
      refine ggoto X45 hx (pc' := 131) (hb hby dp23_23_101) (by decide) (by decide) ?_
      show Gs p e below s _ _ _ T45 m 131 #[rv a, iv (0 : Int32), iv x, .val (.double t), .second, iv (0 : Int32), iv (1 : Int32), iv (2 : Int32), iv (2 : Int32)] []
      refine galoadN X45 hx (hb hby dp23_23_131) rfl rfl ?_
      refine giload X45 hx (hb hby dp23_23_132) rfl ?_
      refine giloadN X45 hx (hb hby dp23_23_134) rfl ?_
      refine gdloadN X45 hx (hb hby dp23_23_135) rfl ?_
      have HR47 : HR Z h0 a aI aT aP kI kT kP I D P (3 : Int32) o := ⟨E1, FI1, FT1, FP1, FS1, FO1, VI1, VT1, VP1⟩
      obtain ⟨cc48, qa48, qb48⟩ := Exa.cell E1
      obtain ⟨_, _, ⟨T48, L48, k48, n48⟩, -, X48, ⟨Lc48, hQ48, l48, y48, z48⟩, st48⟩ := X45.privateBack hx (y := mN5) hown (mvT hZ (hwk hw 65 rfl)) (mvT hZ (hwk hw 66 rfl)) (selP (y := mN5) (as := #[]) (mvT hZ (hwk hw 1 rfl)) (mvP hZ (hwk hw 67 rfl)) (mvT hZ (hwk hw 66 rfl)) (by decide)) (Cond.privateMethod_at (mvP hZ (hwk hw 67 rfl) (args := #[]))) (mvT hZ (hwk hw 68 rfl)) (by decide) (backOf (W := 0) (rmPu l Z a0 hw [] a aI aT aP kI kT kP I D P (3 : Int32) o (0 : Int32) x t h0 n0 Z0 hB HR47 i4_0 hx4) hZ (hwk hw 68 rfl) (hwk hw 2 rfl) (by decide) (by decide)) (g := (mkF m 136 #[rv a, iv (0 : Int32), iv x, .val (.double t), .second, iv (0 : Int32), iv (1 : Int32), iv (2 : Int32), iv (2 : Int32)] [(.double t), (.int x), (.int (0 : Int32)), (.ref a)])) rfl (by rw [hml]; rfl) (Steps.refl _) (a := a) (by rw [eh45]; exact qa48) qb48 (argsL := [(.int (0 : Int32)), (.int x), (.double t)]) (rest := []) (lenOf pd__IID_V_e64 rfl) rfl (by show 2 * 0 + _ ≤ _; exact Nat.le_of_eq rfl) (hb hby dp23_23_136) (fun _ _ => ⟨rfl, eh45, (by decide : 0 + 0 ≤ 0), (by decide : 0 + 0 ≤ 0)⟩)
      dsimp only [Pt.U, Pt.locs, Pt.cells, Pt.slots] at X48 l48 y48 z48 st48 hQ48
      subst l48 y48 z48
      obtain ⟨rfl, N48q, K48, HQ48⟩ := hQ48
      have KK49 := K0.trans K48 (allS (Or.inl (List.mem_of_getElem? (i := 0) rfl)) (allS (Or.inl (List.mem_of_getElem? (i := 1) rfl)) (allS (Or.inl (List.mem_of_getElem? (i := 2) rfl)) (allS (Or.inl (List.mem_of_getElem? (i := 3) rfl)) all0))))
      have Z48 : n0 ≤ T48.heap.size := Nat.le_trans Z0 K48.1
      obtain ⟨E50, FI50, FT50, FP50, FS50, FO50, VI50, VT50, VP50⟩ := id HQ48
      have inv51 := hol_end hH i4_0 (by decide) hx4 hS
      have N48 := Fr.app N45 N48q
      refine Goes.sts st48 ?_
      show Gs p e below s _ _ _ T48 m 139 #[rv a, iv (0 : Int32), iv x, .val (.double t), .second, iv (0 : Int32), iv (1 : Int32), iv (2 : Int32), iv (2 : Int32)] []
      have HR52 : HR Z T48.heap a aI aT aP kI kT kP (upd I (0 : Int32) x) (upd D (0 : Int32) t) (upd P x (0 : Int32)) (3 : Int32) o := ⟨E50, FI50, FT50, FP50, FS50, FO50, VI50, VT50, VP50⟩
      refine Goes.retV X48 hx hlk hret (hb hby dp23_23_139) ?_ (by decide) (by decide)
      exact ⟨(upd I (0 : Int32) x), (upd D (0 : Int32) t), (upd P x (0 : Int32)), rfl, N48, KK49, HR52, inv51⟩
    · refine gifYes X45 hx (pc' := 104) (hb hby dp23_23_98) ((if0 _ _).trans (feq c46).2) (by decide) (by decide) ?_
      show Gs p e below s _ _ _ T45 m 104 #[rv a, iv (0 : Int32), iv x, .val (.double t), .second, iv (0 : Int32), iv (1 : Int32), iv (2 : Int32), iv (2 : Int32)] []
      refine galoadN X45 hx (hb hby dp23_23_104) rfl rfl ?_
      refine giload X45 hx (hb hby dp23_23_105) rfl ?_
      refine galoadN X45 hx (hb hby dp23_23_107) rfl rfl ?_
      obtain ⟨T53, X53, e53, st53⟩ := getF X45 hx hZ hown (host := "") (Or.inl (hwk hw 12 rfl)) Via.refl eh45 FI1 (g := (mkF m 108 #[rv a, iv (0 : Int32), iv x, .val (.double t), .second, iv (0 : Int32), iv (1 : Int32), iv (2 : Int32), iv (2 : Int32)] [(.ref a), (.int (0 : Int32)), (.ref a)])) rfl rfl (hb hby dp23_23_108)
      refine Goes.st st53 ?_
      refine giload X53 hx (hb hby dp23_23_111) rfl ?_
      show Gs p e below s _ _ _ T53 m 113 #[rv a, iv (0 : Int32), iv x, .val (.double t), .second, iv (0 : Int32), iv (1 : Int32), iv (2 : Int32), iv (2 : Int32)] [(.int (2 : Int32)), (.ref aI), (.int (0 : Int32)), (.ref a)]
      obtain ⟨cl54, Ar54, qk54, Sz54, qz54, Ha54, Gf54⟩ := id VI1
      have in54 := inb_of (j := (2 : Int32)) Sz54 ⟨by decide, by decide⟩
      refine Goes.st (fun tg kg => X53.iaload hx (j := (2 : Int32)) (v := (.int (I (2 : Int32)))) (by rw [e53]; exact Ar54.1) (State.isArrayOf_alike hZ.alike Ar54.2.1) Ar54.2.2 in54 (Ha54.at in54 (get_lst i4_2)) (g := (mkF m 113 #[rv a, iv (0 : Int32), iv x, .val (.double t), .second, iv (0 : Int32), iv (1 : Int32), iv (2 : Int32), iv (2 : Int32)] [(.int (2 : Int32)), (.ref aI), (.int (0 : Int32)), (.ref a)])) rfl rfl (hb hby dp23_23_113) tg kg) ?_
      refine galoadN X53 hx (hb hby dp23_23_114) rfl rfl ?_
      obtain ⟨T55, X55, e55, st55⟩ := getF X53 hx hZ hown (host := "") (Or.inl (hwk hw 15 rfl)) Via.refl e53 FT1 (g := (mkF m 115 #[rv a, iv (0 : Int32), iv x, .val (.double t), .second, iv (0 : Int32), iv (1 : Int32), iv (2 : Int32), iv (2 : Int32)] [(.ref a), (.int (I (2 : Int32))), (.int (0 : Int32)), (.ref a)])) rfl rfl (hb hby dp23_23_115)
      refine Goes.st st55 ?_
      refine giload X55 hx (hb hby dp23_23_118) rfl ?_
      show Gs p e below s _ _ _ T55 m 120 #[rv a, iv (0 : Int32), iv x, .val (.double t), .second, iv (0 : Int32), iv (1 : Int32), iv (2 : Int32), iv (2 : Int32)] [(.int (2 : Int32)), (.ref aT), (.int (I (2 : Int32))), (.int (0 : Int32)), (.ref a)]
      obtain ⟨cl56, Ar56, qk56, Sz56, qz56, Ha56, Gf56⟩ := id VT1
      have in56 := inb_of (j := (2 : Int32)) Sz56 ⟨by decide, by decide⟩
      refine Goes.st (fun tg kg => X55.daload hx (j := (2 : Int32)) (v := (.double (D (2 : Int32)))) (by rw [e55]; exact Ar56.1) (State.isArrayOf_alike hZ.alike Ar56.2.1) Ar56.2.2 in56 (Ha56.at in56 (get_dls i4_2)) (g := (mkF m 120 #[rv a, iv (0 : Int32), iv x, .val (.double t), .second, iv (0 : Int32), iv (1 : Int32), iv (2 : Int32), iv (2 : Int32)] [(.int (2 : Int32)), (.ref aT), (.int (I (2 : Int32))), (.int (0 : Int32)), (.ref a)])) rfl rfl (hb hby dp23_23_120) tg kg) ?_
      have HR57 : HR Z h0 a aI aT aP kI kT kP I D P (3 : Int32) o := ⟨E1, FI1, FT1, FP1, FS1, FO1, VI1, VT1, VP1⟩
      obtain ⟨cc58, qa58, qb58⟩ := Exa.cell E1
      obtain ⟨_, _, ⟨T58, L58, k58, n58⟩, -, X58, ⟨Lc58, hQ58, l58, y58, z58⟩, st58⟩ := X55.privateBack hx (y := mN5) hown (mvT hZ (hwk hw 65 rfl)) (mvT hZ (hwk hw 66 rfl)) (selP (y := mN5) (as := #[]) (mvT hZ (hwk hw 1 rfl)) (mvP hZ (hwk hw 67 rfl)) (mvT hZ (hwk hw 66 rfl)) (by decide)) (Cond.privateMethod_at (mvP hZ (hwk hw 67 rfl) (args := #[]))) (mvT hZ (hwk hw 68 rfl)) (by decide) (backOf (W := 0) (rmPu l Z a0 hw [] a aI aT aP kI kT kP I D P (3 : Int32) o (0 : Int32) (I (2 : Int32)) (D (2 : Int32)) h0 n0 Z0 hB HR57 i4_0 (hH.1 _ i4_2)) hZ (hwk hw 68 rfl) (hwk hw 2 rfl) (by decide) (by decide)) (g := (mkF m 121 #[rv a, iv (0 : Int32), iv x, .val (.double t), .second, iv (0 : Int32), iv (1 : Int32), iv (2 : Int32), iv (2 : Int32)] [(.double (D (2 : Int32))), (.int (I (2 : Int32))), (.int (0 : Int32)), (.ref a)])) rfl (by rw [hml]; rfl) (Steps.refl _) (a := a) (by rw [e55]; exact qa58) qb58 (argsL := [(.int (0 : Int32)), (.int (I (2 : Int32))), (.double (D (2 : Int32)))]) (rest := []) (lenOf pd__IID_V_e64 rfl) rfl (by show 2 * 0 + _ ≤ _; exact Nat.le_of_eq rfl) (hb hby dp23_23_121) (fun _ _ => ⟨rfl, e55, (by decide : 0 + 0 ≤ 0), (by decide : 0 + 0 ≤ 0)⟩)
      dsimp only [Pt.U, Pt.locs, Pt.cells, Pt.slots] at X58 l58 y58 z58 st58 hQ58
      subst l58 y58 z58
      obtain ⟨rfl, N58q, K58, HQ58⟩ := hQ58
      have KK59 := K0.trans K58 (allS (Or.inl (List.mem_of_getElem? (i := 0) rfl)) (allS (Or.inl (List.mem_of_getElem? (i := 1) rfl)) (allS (Or.inl (List.mem_of_getElem? (i := 2) rfl)) (allS (Or.inl (List.mem_of_getElem? (i := 3) rfl)) all0))))
      have Z58 : n0 ≤ T58.heap.size := Nat.le_trans Z0 K58.1
      obtain ⟨E60, FI60, FT60, FP60, FS60, FO60, VI60, VT60, VP60⟩ := id HQ58
      have hol61 := hol_move hH i4_2 (by decide) (by decide) i4_0 (by decide)
      have N58 := Fr.app N45 N58q
      refine Goes.sts st58 ?_
      show Gs p e below s _ _ _ T58 m 124 #[rv a, iv (0 : Int32), iv x, .val (.double t), .second, iv (0 : Int32), iv (1 : Int32), iv (2 : Int32), iv (2 : Int32)] []
      refine giload X58 hx (hb hby dp23_23_124) rfl ?_
      refine gistore X58 hx (hb hby dp23_23_126) trivial (l' := #[rv a, iv (0 : Int32), iv x, .val (.double t), .second, iv (2 : Int32), iv (1 : Int32), iv (2 : Int32), iv (2 : Int32)]) rfl ?_
      show Gs p e below s _ _ _ T58 m 128 #[rv a, iv (0 : Int32), iv x, .val (.double t), .second, iv (2 : Int32), iv (1 : Int32), iv (2 : Int32), iv (2 : Int32)] []
      refine ggoto X58 hx (pc' := 11) (hb hby dp23_23_128) (by decide) (by decide) ?_
      show Gs p e below s _ _ _ T58 m 11 #[rv a, iv (0 : Int32), iv x, .val (.double t), .second, iv (2 : Int32), iv (1 : Int32), iv (2 : Int32), iv (2 : Int32)] []
      refine giload X58 hx (hb hby dp23_23_11) rfl ?_
      refine giload X58 hx (hb hby dp23_23_13) rfl ?_
      show Gs p e below s _ _ _ T58 m 15 #[rv a, iv (0 : Int32), iv x, .val (.double t), .second, iv (2 : Int32), iv (1 : Int32), iv (2 : Int32), iv (2 : Int32)] [(.int (1 : Int32)), (.int (2 : Int32))]
      refine gicmpYes X58 hx (pc' := 131) (hb hby dp23_23_15) (by decide) (by decide) (by decide) ?_
      show Gs p e below s _ _ _ T58 m 131 #[rv a, iv (0 : Int32), iv x, .val (.double t), .second, iv (2 : Int32), iv (1 : Int32), iv (2 : Int32), iv (2 : Int32)] []
      refine galoadN X58 hx (hb hby dp23_23_131) rfl rfl ?_
      refine giload X58 hx (hb hby dp23_23_132) rfl ?_
      refine giloadN X58 hx (hb hby dp23_23_134) rfl ?_
      refine gdloadN X58 hx (hb hby dp23_23_135) rfl ?_
      have HR62 : HR Z T58.heap a aI aT aP kI kT kP (upd I (0 : Int32) (I (2 : Int32))) (upd D (0 : Int32) (D (2 : Int32))) (upd P (I (2 : Int32)) (0 : Int32)) (3 : Int32) o := ⟨E60, FI60, FT60, FP60, FS60, FO60, VI60, VT60, VP60⟩
      obtain ⟨cc63, qa63, qb63⟩ := Exa.cell E60
      obtain ⟨_, _, ⟨T63, L63, k63, n63⟩, -, X63, ⟨Lc63, hQ63, l63, y63, z63⟩, st63⟩ := X58.privateBack hx (y := mN5) hown (mvT hZ (hwk hw 65 rfl)) (mvT hZ (hwk hw 66 rfl)) (selP (y := mN5) (as := #[]) (mvT hZ (hwk hw 1 rfl)) (mvP hZ (hwk hw 67 rfl)) (mvT hZ (hwk hw 66 rfl)) (by decide)) (Cond.privateMethod_at (mvP hZ (hwk hw 67 rfl) (args := #[]))) (mvT hZ (hwk hw 68 rfl)) (by decide) (backOf (W := 0) (rmPu l Z a0 hw [] a aI aT aP kI kT kP (upd I (0 : Int32) (I (2 : Int32))) (upd D (0 : Int32) (D (2 : Int32))) (upd P (I (2 : Int32)) (0 : Int32)) (3 : Int32) o (2 : Int32) x t T58.heap n0 Z58 hB HR62 i4_2 hx4) hZ (hwk hw 68 rfl) (hwk hw 2 rfl) (by decide) (by decide)) (g := (mkF m 136 #[rv a, iv (0 : Int32), iv x, .val (.double t), .second, iv (2 : Int32), iv (1 : Int32), iv (2 : Int32), iv (2 : Int32)] [(.double t), (.int x), (.int (2 : Int32)), (.ref a)])) rfl (by rw [hml]; rfl) (Steps.refl _) (a := a) qa63 qb63 (argsL := [(.int (2 : Int32)), (.int x), (.double t)]) (rest := []) (lenOf pd__IID_V_e64 rfl) rfl (by show 2 * 0 + _ ≤ _; exact Nat.le_of_eq rfl) (hb hby dp23_23_136) (fun _ _ => ⟨rfl, rfl, (by decide : 0 + 0 ≤ 0), (by decide : 0 + 0 ≤ 0)⟩)
      dsimp only [Pt.U, Pt.locs, Pt.cells, Pt.slots] at X63 l63 y63 z63 st63 hQ63
      subst l63 y63 z63
      obtain ⟨rfl, N63q, K63, HQ63⟩ := hQ63
      have KK64 := KK59.trans K63 (allS (Or.inl (List.mem_of_getElem? (i := 0) rfl)) (allS (Or.inl (List.mem_of_getElem? (i := 1) rfl)) (allS (Or.inl (List.mem_of_getElem? (i := 2) rfl)) (allS (Or.inl (List.mem_of_getElem? (i := 3) rfl)) all0))))
      have Z63 : n0 ≤ T63.heap.size := Nat.le_trans Z58 K63.1
      obtain ⟨E65, FI65, FT65, FP65, FS65, FO65, VI65, VT65, VP65⟩ := id HQ63
      have inv66 := hol_end hol61 i4_2 (by decide) hx4 hS
      have N63 := Fr.app N58 N63q
      refine Goes.sts st63 ?_
      show Gs p e below s _ _ _ T63 m 139 #[rv a, iv (0 : Int32), iv x, .val (.double t), .second, iv (2 : Int32), iv (1 : Int32), iv (2 : Int32), iv (2 : Int32)] []
      have HR67 : HR Z T63.heap a aI aT aP kI kT kP (upd (upd I (0 : Int32) (I (2 : Int32))) (2 : Int32) x) (upd (upd D (0 : Int32) (D (2 : Int32))) (2 : Int32) t) (upd (upd P (I (2 : Int32)) (0 : Int32)) x (2 : Int32)) (3 : Int32) o := ⟨E65, FI65, FT65, FP65, FS65, FO65, VI65, VT65, VP65⟩
      refine Goes.retV X63 hx hlk hret (hb hby dp23_23_139) ?_ (by decide) (by decide)
      exact ⟨(upd (upd I (0 : Int32) (I (2 : Int32))) (2 : Int32) x), (upd (upd D (0 : Int32) (D (2 : Int32))) (2 : Int32) t), (upd (upd P (I (2 : Int32)) (0 : Int32)) x (2 : Int32)), rfl, N63, KK64, HR67, inv66⟩
theorem ef_D40 (m : MethodId) (x0 : Addr) (x1 : Int32) (x2 : Int32) (x3 : UInt64) : entryFrame m #[(.ref x0), (.int x1), (.int x2), (.double x3)] 9 = mkF m 0 #[rv x0, iv x1, iv x2, .val (.double x3), .second, .unset, .unset, .unset, .unset] [] := by first | (simp [entryFrame, mkF, argsToLocals, Value.category]; done) | rfl
def QD40 (Z : State) (a aI aT aP : Addr) (kI kT kP : ClassId) (I : Int32 → Int32) (D : Int32 → UInt64) (P : Int32 → Int32) (o x : Int32) (t : UInt64) (S : Int32 → Prop) (h0 : Heap) (n0 : Nat) (v : Option Value) (h : Heap) (L : List Loc) : Prop := ∃ (I1 : Int32 → Int32) (D1 : Int32 → UInt64) (P1 : Int32 → Int32), v = none ∧ Fr n0 L ∧ Keep h0 h [a, aI, aT, aP] ∧ HR Z h a aI aT aP kI kT kP I1 D1 P1 (4 : Int32) o ∧ Inv (4 : Int32) S I1 P1
set_option maxRecDepth 65536 in
set_option maxHeartbeats 40000000 in
theorem rmD40 (l : Launch) (Z : State) (a0 : Array Value) (hw : ∀ d ∈ tables_1, d.before a0 Z = true) (ws : List Jvm.Cond) (a aI aT aP : Addr) (kI kT kP : ClassId) (I : Int32 → Int32) (D : Int32 → UInt64) (P : Int32 → Int32) (o x : Int32) (t : UInt64) (S : Int32 → Prop) (h0 : Heap) (n0 : Nat) (Z0 : n0 ≤ h0.size) (hB : HB n0 a aI aT aP) (hR : HR Z h0 a aI aT aP kI kT kP I D P (4 : Int32) o) (hx4 : In4 x) (hH : Hol (4 : Int32) (0 : Int32) x S I P) (hS : S x) :
    MetFree l mN8 (head1 (Jvm.Cond.code mN8 prog_23_method_23_code 9 none :: ws) ({ frames := 1, cells := 0, slots := 0, locals := 17 } : Room)) (fun aa U => aa = #[(.ref a), (.int (0 : Int32)), (.int x), (.double t)] ∧ Z.Warmed39 U.vm ∧ U.heap = h0) (fun _ _ _ _ _ => True) (fun _ u1_ o_ u2_ => ∃ v_ l_, o_ = .returned v_ ∧ QD40 Z a aI aT aP kI kT kP I D P o x t S h0 n0 v_ u2_.heap l_ ∧ FrameEnd u1_ o_ u2_ l_ ({ frames := 1, cells := 0, slots := 0, locals := 17 } : Room).cells ({ frames := 1, cells := 0, slots := 0, locals := 17 } : Room).slots) := by
  refine MetFree.of_bodySF (plainFor_of_name pn_com_example_redoubt_redoubt_engine_IndexHeap) hisR ?_
  intro p e s m args below meth c s₁ Bd hml0 hP hK
  obtain ⟨rfl, hZ, hh⟩ := hP
  have hx := Bd.exec
  have hby := Bd.bytes
  have hlk := BodyLoose.notSynchronized Bd
  have hret := Bd.returns
  have hml : c.maxLocals = 9 := hml0
  have hown : s.vm.findClass "com/example/redoubt/redoubt/engine/IndexHeap" = some m.cls := findClass_of_methodNamed Bd.named
  have hnm := (name_of_methodNamed Bd.named Bd.method).1
  have X0 : Stand p l e ({ frames := 1, cells := 0, slots := 0, locals := 17 } : Room) s m #[(.ref a), (.int (0 : Int32)), (.int x), (.double t)] below meth c s₁ [] 0 0 := Stand.of_body Bd
  have e0 : s₁.heap = h0 := by rw [← hh, Bd.state]; rfl
  have N0 := Fr.nil n0
  refine Goes.st (s := s) (Q := QD40 Z a aI aT aP kI kT kP I D P o x t S h0 n0) (cs := ({ frames := 1, cells := 0, slots := 0, locals := 17 } : Room).cells) (ss := ({ frames := 1, cells := 0, slots := 0, locals := 17 } : Room).slots) (fun tg kg => castTop (ef_D40 m a (0 : Int32) x t) kg) ?_
  obtain ⟨la, lI, lT, lP, naI, naT, naP, nIT, nIP, nTP⟩ := id hB
  obtain ⟨E1, FI1, FT1, FP1, FS1, FO1, VI1, VT1, VP1⟩ := id hR
  have K0 : Keep h0 h0 [a, aI, aT, aP] := Keep.refl _ _
  show Gs p e below s _ _ _ s₁ m 0 #[rv a, iv (0 : Int32), iv x, .val (.double t), .second, .unset, .unset, .unset, .unset] []
  refine giloadN X0 hx (hb hby dp23_23_0) rfl ?_
  refine gistore X0 hx (hb hby dp23_23_1) trivial (l' := #[rv a, iv (0 : Int32), iv x, .val (.double t), .second, iv (0 : Int32), .unset, .unset, .unset]) rfl ?_
  refine galoadN X0 hx (hb hby dp23_23_3) rfl rfl ?_
  obtain ⟨T2, X2, e2, st2⟩ := getF X0 hx hZ hown (host := "") (Or.inl (hwk hw 29 rfl)) Via.refl e0 FS1 (g := (mkF m 4 #[rv a, iv (0 : Int32), iv x, .val (.double t), .second, iv (0 : Int32), .unset, .unset, .unset] [(.ref a)])) rfl rfl (hb hby dp23_23_4)
  refine Goes.st st2 ?_
  refine giconst X2 hx (hb hby dp23_23_7) ?_
  show Gs p e below s _ _ _ T2 m 8 #[rv a, iv (0 : Int32), iv x, .val (.double t), .second, iv (0 : Int32), .unset, .unset, .unset] [(.int (1 : Int32)), (.int (4 : Int32))]
  refine Goes.st (fun tg kg => XT.iushr X2.here hx rfl (hb hby dp23_23_8) rfl kg) ?_
  show Gs p e below s _ _ _ T2 m 9 #[rv a, iv (0 : Int32), iv x, .val (.double t), .second, iv (0 : Int32), .unset, .unset, .unset] [(.int (XT.ushr (4 : Int32) (1 : Int32)))]
  rw [show (XT.ushr (4 : Int32) (1 : Int32)) = (2 : Int32) from by decide]
  show Gs p e below s _ _ _ T2 m 9 #[rv a, iv (0 : Int32), iv x, .val (.double t), .second, iv (0 : Int32), .unset, .unset, .unset] [(.int (2 : Int32))]
  refine gistore X2 hx (hb hby dp23_23_9) trivial (l' := #[rv a, iv (0 : Int32), iv x, .val (.double t), .second, iv (0 : Int32), iv (2 : Int32), .unset, .unset]) rfl ?_
  refine giload X2 hx (hb hby dp23_23_11) rfl ?_
  refine giload X2 hx (hb hby dp23_23_13) rfl ?_
  show Gs p e below s _ _ _ T2 m 15 #[rv a, iv (0 : Int32), iv x, .val (.double t), .second, iv (0 : Int32), iv (2 : Int32), .unset, .unset] [(.int (2 : Int32)), (.int (0 : Int32))]
  refine gicmpNo X2 hx (hb hby dp23_23_15) (by decide) ?_
  show Gs p e below s _ _ _ T2 m 18 #[rv a, iv (0 : Int32), iv x, .val (.double t), .second, iv (0 : Int32), iv (2 : Int32), .unset, .unset] []
  refine giconst X2 hx (hb hby dp23_23_18) ?_
  refine giload X2 hx (hb hby dp23_23_19) rfl ?_
  show Gs p e below s _ _ _ T2 m 21 #[rv a, iv (0 : Int32), iv x, .val (.double t), .second, iv (0 : Int32), iv (2 : Int32), .unset, .unset] [(.int (0 : Int32)), (.int (2 : Int32))]
  refine gimul X2 hx (hb hby dp23_23_21) trivial ?_
  show Gs p e below s _ _ _ T2 m 22 #[rv a, iv (0 : Int32), iv x, .val (.double t), .second, iv (0 : Int32), iv (2 : Int32), .unset, .unset] [(.int ((2 : Int32) * (0 : Int32)))]
  rw [show ((2 : Int32) * (0 : Int32)) = (0 : Int32) from by decide]
  show Gs p e below s _ _ _ T2 m 22 #[rv a, iv (0 : Int32), iv x, .val (.double t), .second, iv (0 : Int32), iv (2 : Int32), .unset, .unset] [(.int (0 : Int32))]
  refine giconst X2 hx (hb hby dp23_23_22) ?_
  refine giadd X2 hx (hb hby dp23_23_23) trivial ?_
  show Gs p e below s _ _ _ T2 m 24 #[rv a, iv (0 : Int32), iv x, .val (.double t), .second, iv (0 : Int32), iv (2 : Int32), .unset, .unset] [(.int ((0 : Int32) + (1 : Int32)))]
  rw [show ((0 : Int32) + (1 : Int32)) = (1 : Int32) from by decide]
  show Gs p e below s _ _ _ T2 m 24 #[rv a, iv (0 : Int32), iv x, .val (.double t), .second, iv (0 : Int32), iv (2 : Int32), .unset, .unset] [(.int (1 : Int32))]
  refine gistore X2 hx (hb hby dp23_23_24) trivial (l' := #[rv a, iv (0 : Int32), iv x, .val (.double t), .second, iv (0 : Int32), iv (2 : Int32), iv (1 : Int32), .unset]) rfl ?_
  refine giload X2 hx (hb hby dp23_23_26) rfl ?_
  refine giconst X2 hx (hb hby dp23_23_28) ?_
  refine giadd X2 hx (hb hby dp23_23_29) trivial ?_
  show Gs p e below s _ _ _ T2 m 30 #[rv a, iv (0 : Int32), iv x, .val (.double t), .second, iv (0 : Int32), iv (2 : Int32), iv (1 : Int32), .unset] [(.int ((1 : Int32) + (1 : Int32)))]
  rw [show ((1 : Int32) + (1 : Int32)) = (2 : Int32) from by decide]
  show Gs p e below s _ _ _ T2 m 30 #[rv a, iv (0 : Int32), iv x, .val (.double t), .second, iv (0 : Int32), iv (2 : Int32), iv (1 : Int32), .unset] [(.int (2 : Int32))]
  refine gistore X2 hx (hb hby dp23_23_30) trivial (l' := #[rv a, iv (0 : Int32), iv x, .val (.double t), .second, iv (0 : Int32), iv (2 : Int32), iv (1 : Int32), iv (2 : Int32)]) rfl ?_
  refine giload X2 hx (hb hby dp23_23_32) rfl ?_
  refine galoadN X2 hx (hb hby dp23_23_34) rfl rfl ?_
  obtain ⟨T3, X3, e3, st3⟩ := getF X2 hx hZ hown (host := "") (Or.inl (hwk hw 29 rfl)) Via.refl e2 FS1 (g := (mkF m 35 #[rv a, iv (0 : Int32), iv x, .val (.double t), .second, iv (0 : Int32), iv (2 : Int32), iv (1 : Int32), iv (2 : Int32)] [(.ref a), (.int (2 : Int32))])) rfl rfl (hb hby dp23_23_35)
  refine Goes.st st3 ?_
  show Gs p e below s _ _ _ T3 m 38 #[rv a, iv (0 : Int32), iv x, .val (.double t), .second, iv (0 : Int32), iv (2 : Int32), iv (1 : Int32), iv (2 : Int32)] [(.int (4 : Int32)), (.int (2 : Int32))]
  refine gicmpNo X3 hx (hb hby dp23_23_38) (by decide) ?_
  show Gs p e below s _ _ _ T3 m 41 #[rv a, iv (0 : Int32), iv x, .val (.double t), .second, iv (0 : Int32), iv (2 : Int32), iv (1 : Int32), iv (2 : Int32)] []
  refine galoadN X3 hx (hb hby dp23_23_41) rfl rfl ?_
  obtain ⟨T4, X4, e4, st4⟩ := getF X3 hx hZ hown (host := "") (Or.inl (hwk hw 15 rfl)) Via.refl e3 FT1 (g := (mkF m 42 #[rv a, iv (0 : Int32), iv x, .val (.double t), .second, iv (0 : Int32), iv (2 : Int32), iv (1 : Int32), iv (2 : Int32)] [(.ref a)])) rfl rfl (hb hby dp23_23_42)
  refine Goes.st st4 ?_
  refine giload X4 hx (hb hby dp23_23_45) rfl ?_
  show Gs p e below s _ _ _ T4 m 47 #[rv a, iv (0 : Int32), iv x, .val (.double t), .second, iv (0 : Int32), iv (2 : Int32), iv (1 : Int32), iv (2 : Int32)] [(.int (2 : Int32)), (.ref aT)]
  obtain ⟨cl5, Ar5, qk5, Sz5, qz5, Ha5, Gf5⟩ := id VT1
  have in5 := inb_of (j := (2 : Int32)) Sz5 ⟨by decide, by decide⟩
  refine Goes.st (fun tg kg => X4.daload hx (j := (2 : Int32)) (v := (.double (D (2 : Int32)))) (by rw [e4]; exact Ar5.1) (State.isArrayOf_alike hZ.alike Ar5.2.1) Ar5.2.2 in5 (Ha5.at in5 (get_dls i4_2)) (g := (mkF m 47 #[rv a, iv (0 : Int32), iv x, .val (.double t), .second, iv (0 : Int32), iv (2 : Int32), iv (1 : Int32), iv (2 : Int32)] [(.int (2 : Int32)), (.ref aT)])) rfl rfl (hb hby dp23_23_47) tg kg) ?_
  refine galoadN X4 hx (hb hby dp23_23_48) rfl rfl ?_
  obtain ⟨T6, X6, e6, st6⟩ := getF X4 hx hZ hown (host := "") (Or.inl (hwk hw 12 rfl)) Via.refl e4 FI1 (g := (mkF m 49 #[rv a, iv (0 : Int32), iv x, .val (.double t), .second, iv (0 : Int32), iv (2 : Int32), iv (1 : Int32), iv (2 : Int32)] [(.ref a), (.double (D (2 : Int32)))])) rfl rfl (hb hby dp23_23_49)
  refine Goes.st st6 ?_
  refine giload X6 hx (hb hby dp23_23_52) rfl ?_
  show Gs p e below s _ _ _ T6 m 54 #[rv a, iv (0 : Int32), iv x, .val (.double t), .second, iv (0 : Int32), iv (2 : Int32), iv (1 : Int32), iv (2 : Int32)] [(.int (2 : Int32)), (.ref aI), (.double (D (2 : Int32)))]
  obtain ⟨cl7, Ar7, qk7, Sz7, qz7, Ha7, Gf7⟩ := id VI1
  have in7 := inb_of (j := (2 : Int32)) Sz7 ⟨by decide, by decide⟩
  refine Goes.st (fun tg kg => X6.iaload hx (j := (2 : Int32)) (v := (.int (I (2 : Int32)))) (by rw [e6]; exact Ar7.1) (State.isArrayOf_alike hZ.alike Ar7.2.1) Ar7.2.2 in7 (Ha7.at in7 (get_lst i4_2)) (g := (mkF m 54 #[rv a, iv (0 : Int32), iv x, .val (.double t), .second, iv (0 : Int32), iv (2 : Int32), iv (1 : Int32), iv (2 : Int32)] [(.int (2 : Int32)), (.ref aI), (.double (D (2 : Int32)))])) rfl rfl (hb hby dp23_23_54) tg kg) ?_
  refine galoadN X6 hx (hb hby dp23_23_55) rfl rfl ?_
  obtain ⟨T8, X8, e8, st8⟩ := getF X6 hx hZ hown (host := "") (Or.inl (hwk hw 15 rfl)) Via.refl e6 FT1 (g := (mkF m 56 #[rv a, iv (0 : Int32), iv x, .val (.double t), .second, iv (0 : Int32), iv (2 : Int32), iv (1 : Int32), iv (2 : Int32)] [(.ref a), (.int (I (2 : Int32))), (.double (D (2 : Int32)))])) rfl rfl (hb hby dp23_23_56)
  refine Goes.st st8 ?_
  refine giload X8 hx (hb hby dp23_23_59) rfl ?_
  show Gs p e below s _ _ _ T8 m 61 #[rv a, iv (0 : Int32), iv x, .val (.double t), .second, iv (0 : Int32), iv (2 : Int32), iv (1 : Int32), iv (2 : Int32)] [(.int (1 : Int32)), (.ref aT), (.int (I (2 : Int32))), (.double (D (2 : Int32)))]
  obtain ⟨cl9, Ar9, qk9, Sz9, qz9, Ha9, Gf9⟩ := id VT1
  have in9 := inb_of (j := (1 : Int32)) Sz9 ⟨by decide, by decide⟩
  refine Goes.st (fun tg kg => X8.daload hx (j := (1 : Int32)) (v := (.double (D (1 : Int32)))) (by rw [e8]; exact Ar9.1) (State.isArrayOf_alike hZ.alike Ar9.2.1) Ar9.2.2 in9 (Ha9.at in9 (get_dls i4_1)) (g := (mkF m 61 #[rv a, iv (0 : Int32), iv x, .val (.double t), .second, iv (0 : Int32), iv (2 : Int32), iv (1 : Int32), iv (2 : Int32)] [(.int (1 : Int32)), (.ref aT), (.int (I (2 : Int32))), (.double (D (2 : Int32)))])) rfl rfl (hb hby dp23_23_61) tg kg) ?_
  refine galoadN X8 hx (hb hby dp23_23_62) rfl rfl ?_
  obtain ⟨T10, X10, e10, st10⟩ := getF X8 hx hZ hown (host := "") (Or.inl (hwk hw 12 rfl)) Via.refl e8 FI1 (g := (mkF m 63 #[rv a, iv (0 : Int32), iv x, .val (.double t), .second, iv (0 : Int32), iv (2 : Int32), iv (1 : Int32), iv (2 : Int32)] [(.ref a), (.double (D (1 : Int32))), (.int (I (2 : Int32))), (.double (D (2 : Int32)))])) rfl rfl (hb hby dp23_23_63)
  refine Goes.st st10 ?_
  refine giload X10 hx (hb hby dp23_23_66) rfl ?_
  show Gs p e below s _ _ _ T10 m 68 #[rv a, iv (0 : Int32), iv x, .val (.double t), .second, iv (0 : Int32), iv (2 : Int32), iv (1 : Int32), iv (2 : Int32)] [(.int (1 : Int32)), (.ref aI), (.double (D (1 : Int32))), (.int (I (2 : Int32))), (.double (D (2 : Int32)))]
  obtain ⟨cl11, Ar11, qk11, Sz11, qz11, Ha11, Gf11⟩ := id VI1
  have in11 := inb_of (j := (1 : Int32)) Sz11 ⟨by decide, by decide⟩
  refine Goes.st (fun tg kg => X10.iaload hx (j := (1 : Int32)) (v := (.int (I (1 : Int32)))) (by rw [e10]; exact Ar11.1) (State.isArrayOf_alike hZ.alike Ar11.2.1) Ar11.2.2 in11 (Ha11.at in11 (get_lst i4_1)) (g := (mkF m 68 #[rv a, iv (0 : Int32), iv x, .val (.double t), .second, iv (0 : Int32), iv (2 : Int32), iv (1 : Int32), iv (2 : Int32)] [(.int (1 : Int32)), (.ref aI), (.double (D (1 : Int32))), (.int (I (2 : Int32))), (.double (D (2 : Int32)))])) rfl rfl (hb hby dp23_23_68) tg kg) ?_
  obtain ⟨_, _, ⟨T12, L12, k12, n12⟩, -, X12, ⟨Lc12, hQ12, l12, y12, z12⟩, st12⟩ := Jvm.LawKit.callS X10 hx (y := mN6) hown (mvT hZ (hwk hw 69 rfl)) (mvT hZ (hwk hw 70 rfl)) (mvT hZ (hwk hw 2 rfl)) (mvT hZ (hwk hw 71 rfl)) (by decide) (backOf (W := 0) (rmBe l Z a0 hw [] (D (2 : Int32)) (I (2 : Int32)) (D (1 : Int32)) (I (1 : Int32)) h0 n0 Z0 ) hZ (hwk hw 71 rfl) (hwk hw 2 rfl) (by decide) (by decide)) (g := (mkF m 69 #[rv a, iv (0 : Int32), iv x, .val (.double t), .second, iv (0 : Int32), iv (2 : Int32), iv (1 : Int32), iv (2 : Int32)] [(.int (I (1 : Int32))), (.double (D (1 : Int32))), (.int (I (2 : Int32))), (.double (D (2 : Int32)))])) rfl (by rw [hml]; rfl) (argsL := [(.double (D (2 : Int32))), (.int (I (2 : Int32))), (.double (D (1 : Int32))), (.int (I (1 : Int32)))]) (rest := []) (lenOf pd__DIDI_Z_1212 rfl) rfl (by show 2 * 0 + _ ≤ _; exact Nat.le_of_eq rfl) (hb hby dp23_23_69) (fun _ _ => ⟨rfl, e10, (by decide : 0 + 0 ≤ 0), (by decide : 0 + 0 ≤ 0)⟩)
  dsimp only [Pt.U, Pt.locs, Pt.cells, Pt.slots] at X12 l12 y12 z12 st12 hQ12
  subst l12 y12 z12
  obtain ⟨rfl, N12q, eh12⟩ := hQ12
  have N12 := Fr.app N0 N12q
  refine Goes.st st12 ?_
  show Gs p e below s _ _ _ T12 m 72 #[rv a, iv (0 : Int32), iv x, .val (.double t), .second, iv (0 : Int32), iv (2 : Int32), iv (1 : Int32), iv (2 : Int32)] [(.int (bef (D (2 : Int32)) (I (2 : Int32)) (D (1 : Int32)) (I (1 : Int32))))]
  by_cases c13 : (bef (D (2 : Int32)) (I (2 : Int32)) (D (1 : Int32)) (I (1 : Int32))) = (0 : Int32)
  · refine gifYes X12 hx (pc' := 79) (hb hby dp23_23_72) ((if0 _ _).trans (teq c13).1) (by decide) (by decide) ?_
    show Gs p e below s _ _ _ T12 m 79 #[rv a, iv (0 : Int32), iv x, .val (.double t), .second, iv (0 : Int32), iv (2 : Int32), iv (1 : Int32), iv (2 : Int32)] []
    refine galoadN X12 hx (hb hby dp23_23_79) rfl rfl ?_
    obtain ⟨T14, X14, e14, st14⟩ := getF X12 hx hZ hown (host := "") (Or.inl (hwk hw 15 rfl)) Via.refl eh12 FT1 (g := (mkF m 80 #[rv a, iv (0 : Int32), iv x, .val (.double t), .second, iv (0 : Int32), iv (2 : Int32), iv (1 : Int32), iv (2 : Int32)] [(.ref a)])) rfl rfl (hb hby dp23_23_80)
    refine Goes.st st14 ?_
    refine giload X14 hx (hb hby dp23_23_83) rfl ?_
    show Gs p e below s _ _ _ T14 m 85 #[rv a, iv (0 : Int32), iv x, .val (.double t), .second, iv (0 : Int32), iv (2 : Int32), iv (1 : Int32), iv (2 : Int32)] [(.int (1 : Int32)), (.ref aT)]
    obtain ⟨cl15, Ar15, qk15, Sz15, qz15, Ha15, Gf15⟩ := id VT1
    have in15 := inb_of (j := (1 : Int32)) Sz15 ⟨by decide, by decide⟩
    refine Goes.st (fun tg kg => X14.daload hx (j := (1 : Int32)) (v := (.double (D (1 : Int32)))) (by rw [e14]; exact Ar15.1) (State.isArrayOf_alike hZ.alike Ar15.2.1) Ar15.2.2 in15 (Ha15.at in15 (get_dls i4_1)) (g := (mkF m 85 #[rv a, iv (0 : Int32), iv x, .val (.double t), .second, iv (0 : Int32), iv (2 : Int32), iv (1 : Int32), iv (2 : Int32)] [(.int (1 : Int32)), (.ref aT)])) rfl rfl (hb hby dp23_23_85) tg kg) ?_
    refine galoadN X14 hx (hb hby dp23_23_86) rfl rfl ?_
    obtain ⟨T16, X16, e16, st16⟩ := getF X14 hx hZ hown (host := "") (Or.inl (hwk hw 12 rfl)) Via.refl e14 FI1 (g := (mkF m 87 #[rv a, iv (0 : Int32), iv x, .val (.double t), .second, iv (0 : Int32), iv (2 : Int32), iv (1 : Int32), iv (2 : Int32)] [(.ref a), (.double (D (1 : Int32)))])) rfl rfl (hb hby dp23_23_87)
    refine Goes.st st16 ?_
    refine giload X16 hx (hb hby dp23_23_90) rfl ?_
    show Gs p e below s _ _ _ T16 m 92 #[rv a, iv (0 : Int32), iv x, .val (.double t), .second, iv (0 : Int32), iv (2 : Int32), iv (1 : Int32), iv (2 : Int32)] [(.int (1 : Int32)), (.ref aI), (.double (D (1 : Int32)))]
    obtain ⟨cl17, Ar17, qk17, Sz17, qz17, Ha17, Gf17⟩ := id VI1
    have in17 := inb_of (j := (1 : Int32)) Sz17 ⟨by decide, by decide⟩
    refine Goes.st (fun tg kg => X16.iaload hx (j := (1 : Int32)) (v := (.int (I (1 : Int32)))) (by rw [e16]; exact Ar17.1) (State.isArrayOf_alike hZ.alike Ar17.2.1) Ar17.2.2 in17 (Ha17.at in17 (get_lst i4_1)) (g := (mkF m 92 #[rv a, iv (0 : Int32), iv x, .val (.double t), .second, iv (0 : Int32), iv (2 : Int32), iv (1 : Int32), iv (2 : Int32)] [(.int (1 : Int32)), (.ref aI), (.double (D (1 : Int32)))])) rfl rfl (hb hby dp23_23_92) tg kg) ?_
    refine gdloadN X16 hx (hb hby dp23_23_93) rfl ?_
    refine giloadN X16 hx (hb hby dp23_23_94) rfl ?_
    obtain ⟨_, _, ⟨T18, L18, k18, n18⟩, -, X18, ⟨Lc18, hQ18, l18, y18, z18⟩, st18⟩ := Jvm.LawKit.callS X16 hx (y := mN6) hown (mvT hZ (hwk hw 69 rfl)) (mvT hZ (hwk hw 70 rfl)) (mvT hZ (hwk hw 2 rfl)) (mvT hZ (hwk hw 71 rfl)) (by decide) (backOf (W := 0) (rmBe l Z a0 hw [] (D (1 : Int32)) (I (1 : Int32)) t x h0 n0 Z0 ) hZ (hwk hw 71 rfl) (hwk hw 2 rfl) (by decide) (by decide)) (g := (mkF m 95 #[rv a, iv (0 : Int32), iv x, .val (.double t), .second, iv (0 : Int32), iv (2 : Int32), iv (1 : Int32), iv (2 : Int32)] [(.int x), (.double t), (.int (I (1 : Int32))), (.double (D (1 : Int32)))])) rfl (by rw [hml]; rfl) (argsL := [(.double (D (1 : Int32))), (.int (I (1 : Int32))), (.double t), (.int x)]) (rest := []) (lenOf pd__DIDI_Z_1212 rfl) rfl (by show 2 * 0 + _ ≤ _; exact Nat.le_of_eq rfl) (hb hby dp23_23_95) (fun _ _ => ⟨rfl, e16, (by decide : 0 + 0 ≤ 0), (by decide : 0 + 0 ≤ 0)⟩)
    dsimp only [Pt.U, Pt.locs, Pt.cells, Pt.slots] at X18 l18 y18 z18 st18 hQ18
    subst l18 y18 z18
    obtain ⟨rfl, N18q, eh18⟩ := hQ18
    have N18 := Fr.app N12 N18q
    refine Goes.st st18 ?_
    show Gs p e below s _ _ _ T18 m 98 #[rv a, iv (0 : Int32), iv x, .val (.double t), .second, iv (0 : Int32), iv (2 : Int32), iv (1 : Int32), iv (2 : Int32)] [(.int (bef (D (1 : Int32)) (I (1 : Int32)) t x))]
    by_cases c19 : (bef (D (1 : Int32)) (I (1 : Int32)) t x) = (0 : Int32)
    · refine gifNo X18 hx (hb hby dp23_23_98) ((if0 _ _).trans (teq c19).2) ?_
      show Gs p e below s _ _ _ T18 m 101 #[rv a, iv (0 : Int32), iv x, .val (.double t), .second, iv (0 : Int32), iv (2 : Int32), iv (1 : Int32), iv (2 : Int32)] []
      refine ggoto X18 hx (pc' := 131) (hb hby dp23_23_101) (by decide) (by decide) ?_
      show Gs p e below s _ _ _ T18 m 131 #[rv a, iv (0 : Int32), iv x, .val (.double t), .second, iv (0 : Int32), iv (2 : Int32), iv (1 : Int32), iv (2 : Int32)] []
      refine galoadN X18 hx (hb hby dp23_23_131) rfl rfl ?_
      refine giload X18 hx (hb hby dp23_23_132) rfl ?_
      refine giloadN X18 hx (hb hby dp23_23_134) rfl ?_
      refine gdloadN X18 hx (hb hby dp23_23_135) rfl ?_
      have HR20 : HR Z h0 a aI aT aP kI kT kP I D P (4 : Int32) o := ⟨E1, FI1, FT1, FP1, FS1, FO1, VI1, VT1, VP1⟩
      obtain ⟨cc21, qa21, qb21⟩ := Exa.cell E1
      obtain ⟨_, _, ⟨T21, L21, k21, n21⟩, -, X21, ⟨Lc21, hQ21, l21, y21, z21⟩, st21⟩ := X18.privateBack hx (y := mN5) hown (mvT hZ (hwk hw 65 rfl)) (mvT hZ (hwk hw 66 rfl)) (selP (y := mN5) (as := #[]) (mvT hZ (hwk hw 1 rfl)) (mvP hZ (hwk hw 67 rfl)) (mvT hZ (hwk hw 66 rfl)) (by decide)) (Cond.privateMethod_at (mvP hZ (hwk hw 67 rfl) (args := #[]))) (mvT hZ (hwk hw 68 rfl)) (by decide) (backOf (W := 0) (rmPu l Z a0 hw [] a aI aT aP kI kT kP I D P (4 : Int32) o (0 : Int32) x t h0 n0 Z0 hB HR20 i4_0 hx4) hZ (hwk hw 68 rfl) (hwk hw 2 rfl) (by decide) (by decide)) (g := (mkF m 136 #[rv a, iv (0 : Int32), iv x, .val (.double t), .second, iv (0 : Int32), iv (2 : Int32), iv (1 : Int32), iv (2 : Int32)] [(.double t), (.int x), (.int (0 : Int32)), (.ref a)])) rfl (by rw [hml]; rfl) (Steps.refl _) (a := a) (by rw [eh18]; exact qa21) qb21 (argsL := [(.int (0 : Int32)), (.int x), (.double t)]) (rest := []) (lenOf pd__IID_V_e64 rfl) rfl (by show 2 * 0 + _ ≤ _; exact Nat.le_of_eq rfl) (hb hby dp23_23_136) (fun _ _ => ⟨rfl, eh18, (by decide : 0 + 0 ≤ 0), (by decide : 0 + 0 ≤ 0)⟩)
      dsimp only [Pt.U, Pt.locs, Pt.cells, Pt.slots] at X21 l21 y21 z21 st21 hQ21
      subst l21 y21 z21
      obtain ⟨rfl, N21q, K21, HQ21⟩ := hQ21
      have KK22 := K0.trans K21 (allS (Or.inl (List.mem_of_getElem? (i := 0) rfl)) (allS (Or.inl (List.mem_of_getElem? (i := 1) rfl)) (allS (Or.inl (List.mem_of_getElem? (i := 2) rfl)) (allS (Or.inl (List.mem_of_getElem? (i := 3) rfl)) all0))))
      have Z21 : n0 ≤ T21.heap.size := Nat.le_trans Z0 K21.1
      obtain ⟨E23, FI23, FT23, FP23, FS23, FO23, VI23, VT23, VP23⟩ := id HQ21
      have inv24 := hol_end hH i4_0 (by decide) hx4 hS
      have N21 := Fr.app N18 N21q
      refine Goes.sts st21 ?_
      show Gs p e below s _ _ _ T21 m 139 #[rv a, iv (0 : Int32), iv x, .val (.double t), .second, iv (0 : Int32), iv (2 : Int32), iv (1 : Int32), iv (2 : Int32)] []
      have HR25 : HR Z T21.heap a aI aT aP kI kT kP (upd I (0 : Int32) x) (upd D (0 : Int32) t) (upd P x (0 : Int32)) (4 : Int32) o := ⟨E23, FI23, FT23, FP23, FS23, FO23, VI23, VT23, VP23⟩
      refine Goes.retV X21 hx hlk hret (hb hby dp23_23_139) ?_ (by decide) (by decide)
      exact ⟨(upd I (0 : Int32) x), (upd D (0 : Int32) t), (upd P x (0 : Int32)), rfl, N21, KK22, HR25, inv24⟩
    · refine gifYes X18 hx (pc' := 104) (hb hby dp23_23_98) ((if0 _ _).trans (feq c19).2) (by decide) (by decide) ?_
      show Gs p e below s _ _ _ T18 m 104 #[rv a, iv (0 : Int32), iv x, .val (.double t), .second, iv (0 : Int32), iv (2 : Int32), iv (1 : Int32), iv (2 : Int32)] []
      refine galoadN X18 hx (hb hby dp23_23_104) rfl rfl ?_
      refine giload X18 hx (hb hby dp23_23_105) rfl ?_
      refine galoadN X18 hx (hb hby dp23_23_107) rfl rfl ?_
      obtain ⟨T26, X26, e26, st26⟩ := getF X18 hx hZ hown (host := "") (Or.inl (hwk hw 12 rfl)) Via.refl eh18 FI1 (g := (mkF m 108 #[rv a, iv (0 : Int32), iv x, .val (.double t), .second, iv (0 : Int32), iv (2 : Int32), iv (1 : Int32), iv (2 : Int32)] [(.ref a), (.int (0 : Int32)), (.ref a)])) rfl rfl (hb hby dp23_23_108)
      refine Goes.st st26 ?_
      refine giload X26 hx (hb hby dp23_23_111) rfl ?_
      show Gs p e below s _ _ _ T26 m 113 #[rv a, iv (0 : Int32), iv x, .val (.double t), .second, iv (0 : Int32), iv (2 : Int32), iv (1 : Int32), iv (2 : Int32)] [(.int (1 : Int32)), (.ref aI), (.int (0 : Int32)), (.ref a)]
      obtain ⟨cl27, Ar27, qk27, Sz27, qz27, Ha27, Gf27⟩ := id VI1
      have in27 := inb_of (j := (1 : Int32)) Sz27 ⟨by decide, by decide⟩
      refine Goes.st (fun tg kg => X26.iaload hx (j := (1 : Int32)) (v := (.int (I (1 : Int32)))) (by rw [e26]; exact Ar27.1) (State.isArrayOf_alike hZ.alike Ar27.2.1) Ar27.2.2 in27 (Ha27.at in27 (get_lst i4_1)) (g := (mkF m 113 #[rv a, iv (0 : Int32), iv x, .val (.double t), .second, iv (0 : Int32), iv (2 : Int32), iv (1 : Int32), iv (2 : Int32)] [(.int (1 : Int32)), (.ref aI), (.int (0 : Int32)), (.ref a)])) rfl rfl (hb hby dp23_23_113) tg kg) ?_
      refine galoadN X26 hx (hb hby dp23_23_114) rfl rfl ?_
      obtain ⟨T28, X28, e28, st28⟩ := getF X26 hx hZ hown (host := "") (Or.inl (hwk hw 15 rfl)) Via.refl e26 FT1 (g := (mkF m 115 #[rv a, iv (0 : Int32), iv x, .val (.double t), .second, iv (0 : Int32), iv (2 : Int32), iv (1 : Int32), iv (2 : Int32)] [(.ref a), (.int (I (1 : Int32))), (.int (0 : Int32)), (.ref a)])) rfl rfl (hb hby dp23_23_115)
      refine Goes.st st28 ?_
      refine giload X28 hx (hb hby dp23_23_118) rfl ?_
      show Gs p e below s _ _ _ T28 m 120 #[rv a, iv (0 : Int32), iv x, .val (.double t), .second, iv (0 : Int32), iv (2 : Int32), iv (1 : Int32), iv (2 : Int32)] [(.int (1 : Int32)), (.ref aT), (.int (I (1 : Int32))), (.int (0 : Int32)), (.ref a)]
      obtain ⟨cl29, Ar29, qk29, Sz29, qz29, Ha29, Gf29⟩ := id VT1
      have in29 := inb_of (j := (1 : Int32)) Sz29 ⟨by decide, by decide⟩
      refine Goes.st (fun tg kg => X28.daload hx (j := (1 : Int32)) (v := (.double (D (1 : Int32)))) (by rw [e28]; exact Ar29.1) (State.isArrayOf_alike hZ.alike Ar29.2.1) Ar29.2.2 in29 (Ha29.at in29 (get_dls i4_1)) (g := (mkF m 120 #[rv a, iv (0 : Int32), iv x, .val (.double t), .second, iv (0 : Int32), iv (2 : Int32), iv (1 : Int32), iv (2 : Int32)] [(.int (1 : Int32)), (.ref aT), (.int (I (1 : Int32))), (.int (0 : Int32)), (.ref a)])) rfl rfl (hb hby dp23_23_120) tg kg) ?_
      have HR30 : HR Z h0 a aI aT aP kI kT kP I D P (4 : Int32) o := ⟨E1, FI1, FT1, FP1, FS1, FO1, VI1, VT1, VP1⟩
      obtain ⟨cc31, qa31, qb31⟩ := Exa.cell E1
      obtain ⟨_, _, ⟨T31, L31, k31, n31⟩, -, X31, ⟨Lc31, hQ31, l31, y31, z31⟩, st31⟩ := X28.privateBack hx (y := mN5) hown (mvT hZ (hwk hw 65 rfl)) (mvT hZ (hwk hw 66 rfl)) (selP (y := mN5) (as := #[]) (mvT hZ (hwk hw 1 rfl)) (mvP hZ (hwk hw 67 rfl)) (mvT hZ (hwk hw 66 rfl)) (by decide)) (Cond.privateMethod_at (mvP hZ (hwk hw 67 rfl) (args := #[]))) (mvT hZ (hwk hw 68 rfl)) (by decide) (backOf (W := 0) (rmPu l Z a0 hw [] a aI aT aP kI kT kP I D P (4 : Int32) o (0 : Int32) (I (1 : Int32)) (D (1 : Int32)) h0 n0 Z0 hB HR30 i4_0 (hH.1 _ i4_1)) hZ (hwk hw 68 rfl) (hwk hw 2 rfl) (by decide) (by decide)) (g := (mkF m 121 #[rv a, iv (0 : Int32), iv x, .val (.double t), .second, iv (0 : Int32), iv (2 : Int32), iv (1 : Int32), iv (2 : Int32)] [(.double (D (1 : Int32))), (.int (I (1 : Int32))), (.int (0 : Int32)), (.ref a)])) rfl (by rw [hml]; rfl) (Steps.refl _) (a := a) (by rw [e28]; exact qa31) qb31 (argsL := [(.int (0 : Int32)), (.int (I (1 : Int32))), (.double (D (1 : Int32)))]) (rest := []) (lenOf pd__IID_V_e64 rfl) rfl (by show 2 * 0 + _ ≤ _; exact Nat.le_of_eq rfl) (hb hby dp23_23_121) (fun _ _ => ⟨rfl, e28, (by decide : 0 + 0 ≤ 0), (by decide : 0 + 0 ≤ 0)⟩)
      dsimp only [Pt.U, Pt.locs, Pt.cells, Pt.slots] at X31 l31 y31 z31 st31 hQ31
      subst l31 y31 z31
      obtain ⟨rfl, N31q, K31, HQ31⟩ := hQ31
      have KK32 := K0.trans K31 (allS (Or.inl (List.mem_of_getElem? (i := 0) rfl)) (allS (Or.inl (List.mem_of_getElem? (i := 1) rfl)) (allS (Or.inl (List.mem_of_getElem? (i := 2) rfl)) (allS (Or.inl (List.mem_of_getElem? (i := 3) rfl)) all0))))
      have Z31 : n0 ≤ T31.heap.size := Nat.le_trans Z0 K31.1
      obtain ⟨E33, FI33, FT33, FP33, FS33, FO33, VI33, VT33, VP33⟩ := id HQ31
      have hol34 := hol_move hH i4_1 (by decide) (by decide) i4_0 (by decide)
      have N31 := Fr.app N18 N31q
      refine Goes.sts st31 ?_
      show Gs p e below s _ _ _ T31 m 124 #[rv a, iv (0 : Int32), iv x, .val (.double t), .second, iv (0 : Int32), iv (2 : Int32), iv (1 : Int32), iv (2 : Int32)] []
      refine giload X31 hx (hb hby dp23_23_124) rfl ?_
      refine gistore X31 hx (hb hby dp23_23_126) trivial (l' := #[rv a, iv (0 : Int32), iv x, .val (.double t), .second, iv (1 : Int32), iv (2 : Int32), iv (1 : Int32), iv (2 : Int32)]) rfl ?_
      show Gs p e below s _ _ _ T31 m 128 #[rv a, iv (0 : Int32), iv x, .val (.double t), .second, iv (1 : Int32), iv (2 : Int32), iv (1 : Int32), iv (2 : Int32)] []
      refine ggoto X31 hx (pc' := 11) (hb hby dp23_23_128) (by decide) (by decide) ?_
      show Gs p e below s _ _ _ T31 m 11 #[rv a, iv (0 : Int32), iv x, .val (.double t), .second, iv (1 : Int32), iv (2 : Int32), iv (1 : Int32), iv (2 : Int32)] []
      refine giload X31 hx (hb hby dp23_23_11) rfl ?_
      refine giload X31 hx (hb hby dp23_23_13) rfl ?_
      show Gs p e below s _ _ _ T31 m 15 #[rv a, iv (0 : Int32), iv x, .val (.double t), .second, iv (1 : Int32), iv (2 : Int32), iv (1 : Int32), iv (2 : Int32)] [(.int (2 : Int32)), (.int (1 : Int32))]
      refine gicmpNo X31 hx (hb hby dp23_23_15) (by decide) ?_
      show Gs p e below s _ _ _ T31 m 18 #[rv a, iv (0 : Int32), iv x, .val (.double t), .second, iv (1 : Int32), iv (2 : Int32), iv (1 : Int32), iv (2 : Int32)] []
      refine giconst X31 hx (hb hby dp23_23_18) ?_
      refine giload X31 hx (hb hby dp23_23_19) rfl ?_
      show Gs p e below s _ _ _ T31 m 21 #[rv a, iv (0 : Int32), iv x, .val (.double t), .second, iv (1 : Int32), iv (2 : Int32), iv (1 : Int32), iv (2 : Int32)] [(.int (1 : Int32)), (.int (2 : Int32))]
      refine gimul X31 hx (hb hby dp23_23_21) trivial ?_
      show Gs p e below s _ _ _ T31 m 22 #[rv a, iv (0 : Int32), iv x, .val (.double t), .second, iv (1 : Int32), iv (2 : Int32), iv (1 : Int32), iv (2 : Int32)] [(.int ((2 : Int32) * (1 : Int32)))]
      rw [show ((2 : Int32) * (1 : Int32)) = (2 : Int32) from by decide]
      show Gs p e below s _ _ _ T31 m 22 #[rv a, iv (0 : Int32), iv x, .val (.double t), .second, iv (1 : Int32), iv (2 : Int32), iv (1 : Int32), iv (2 : Int32)] [(.int (2 : Int32))]
      refine giconst X31 hx (hb hby dp23_23_22) ?_
      refine giadd X31 hx (hb hby dp23_23_23) trivial ?_
      show Gs p e below s _ _ _ T31 m 24 #[rv a, iv (0 : Int32), iv x, .val (.double t), .second, iv (1 : Int32), iv (2 : Int32), iv (1 : Int32), iv (2 : Int32)] [(.int ((2 : Int32) + (1 : Int32)))]
      rw [show ((2 : Int32) + (1 : Int32)) = (3 : Int32) from by decide]
      show Gs p e below s _ _ _ T31 m 24 #[rv a, iv (0 : Int32), iv x, .val (.double t), .second, iv (1 : Int32), iv (2 : Int32), iv (1 : Int32), iv (2 : Int32)] [(.int (3 : Int32))]
      refine gistore X31 hx (hb hby dp23_23_24) trivial (l' := #[rv a, iv (0 : Int32), iv x, .val (.double t), .second, iv (1 : Int32), iv (2 : Int32), iv (3 : Int32), iv (2 : Int32)]) rfl ?_
      refine giload X31 hx (hb hby dp23_23_26) rfl ?_
      refine giconst X31 hx (hb hby dp23_23_28) ?_
      refine giadd X31 hx (hb hby dp23_23_29) trivial ?_
      show Gs p e below s _ _ _ T31 m 30 #[rv a, iv (0 : Int32), iv x, .val (.double t), .second, iv (1 : Int32), iv (2 : Int32), iv (3 : Int32), iv (2 : Int32)] [(.int ((3 : Int32) + (1 : Int32)))]
      rw [show ((3 : Int32) + (1 : Int32)) = (4 : Int32) from by decide]
      show Gs p e below s _ _ _ T31 m 30 #[rv a, iv (0 : Int32), iv x, .val (.double t), .second, iv (1 : Int32), iv (2 : Int32), iv (3 : Int32), iv (2 : Int32)] [(.int (4 : Int32))]
      refine gistore X31 hx (hb hby dp23_23_30) trivial (l' := #[rv a, iv (0 : Int32), iv x, .val (.double t), .second, iv (1 : Int32), iv (2 : Int32), iv (3 : Int32), iv (4 : Int32)]) rfl ?_
      refine giload X31 hx (hb hby dp23_23_32) rfl ?_
      refine galoadN X31 hx (hb hby dp23_23_34) rfl rfl ?_
      obtain ⟨T35, X35, e35, st35⟩ := getF X31 hx hZ hown (host := "") (Or.inl (hwk hw 29 rfl)) Via.refl rfl FS33 (g := (mkF m 35 #[rv a, iv (0 : Int32), iv x, .val (.double t), .second, iv (1 : Int32), iv (2 : Int32), iv (3 : Int32), iv (4 : Int32)] [(.ref a), (.int (4 : Int32))])) rfl rfl (hb hby dp23_23_35)
      refine Goes.st st35 ?_
      show Gs p e below s _ _ _ T35 m 38 #[rv a, iv (0 : Int32), iv x, .val (.double t), .second, iv (1 : Int32), iv (2 : Int32), iv (3 : Int32), iv (4 : Int32)] [(.int (4 : Int32)), (.int (4 : Int32))]
      refine gicmpYes X35 hx (pc' := 79) (hb hby dp23_23_38) (by decide) (by decide) (by decide) ?_
      show Gs p e below s _ _ _ T35 m 79 #[rv a, iv (0 : Int32), iv x, .val (.double t), .second, iv (1 : Int32), iv (2 : Int32), iv (3 : Int32), iv (4 : Int32)] []
      refine galoadN X35 hx (hb hby dp23_23_79) rfl rfl ?_
      obtain ⟨T36, X36, e36, st36⟩ := getF X35 hx hZ hown (host := "") (Or.inl (hwk hw 15 rfl)) Via.refl e35 FT33 (g := (mkF m 80 #[rv a, iv (0 : Int32), iv x, .val (.double t), .second, iv (1 : Int32), iv (2 : Int32), iv (3 : Int32), iv (4 : Int32)] [(.ref a)])) rfl rfl (hb hby dp23_23_80)
      refine Goes.st st36 ?_
      refine giload X36 hx (hb hby dp23_23_83) rfl ?_
      show Gs p e below s _ _ _ T36 m 85 #[rv a, iv (0 : Int32), iv x, .val (.double t), .second, iv (1 : Int32), iv (2 : Int32), iv (3 : Int32), iv (4 : Int32)] [(.int (3 : Int32)), (.ref aT)]
      obtain ⟨cl37, Ar37, qk37, Sz37, qz37, Ha37, Gf37⟩ := id VT33
      have in37 := inb_of (j := (3 : Int32)) Sz37 ⟨by decide, by decide⟩
      refine Goes.st (fun tg kg => X36.daload hx (j := (3 : Int32)) (v := (.double ((upd D (0 : Int32) (D (1 : Int32))) (3 : Int32)))) (by rw [e36]; exact Ar37.1) (State.isArrayOf_alike hZ.alike Ar37.2.1) Ar37.2.2 in37 (Ha37.at in37 (get_dls i4_3)) (g := (mkF m 85 #[rv a, iv (0 : Int32), iv x, .val (.double t), .second, iv (1 : Int32), iv (2 : Int32), iv (3 : Int32), iv (4 : Int32)] [(.int (3 : Int32)), (.ref aT)])) rfl rfl (hb hby dp23_23_85) tg kg) ?_
      refine galoadN X36 hx (hb hby dp23_23_86) rfl rfl ?_
      obtain ⟨T38, X38, e38, st38⟩ := getF X36 hx hZ hown (host := "") (Or.inl (hwk hw 12 rfl)) Via.refl e36 FI33 (g := (mkF m 87 #[rv a, iv (0 : Int32), iv x, .val (.double t), .second, iv (1 : Int32), iv (2 : Int32), iv (3 : Int32), iv (4 : Int32)] [(.ref a), (.double ((upd D (0 : Int32) (D (1 : Int32))) (3 : Int32)))])) rfl rfl (hb hby dp23_23_87)
      refine Goes.st st38 ?_
      refine giload X38 hx (hb hby dp23_23_90) rfl ?_
      show Gs p e below s _ _ _ T38 m 92 #[rv a, iv (0 : Int32), iv x, .val (.double t), .second, iv (1 : Int32), iv (2 : Int32), iv (3 : Int32), iv (4 : Int32)] [(.int (3 : Int32)), (.ref aI), (.double ((upd D (0 : Int32) (D (1 : Int32))) (3 : Int32)))]
      obtain ⟨cl39, Ar39, qk39, Sz39, qz39, Ha39, Gf39⟩ := id VI33
      have in39 := inb_of (j := (3 : Int32)) Sz39 ⟨by decide, by decide⟩
      refine Goes.st (fun tg kg => X38.iaload hx (j := (3 : Int32)) (v := (.int ((upd I (0 : Int32) (I (1 : Int32))) (3 : Int32)))) (by rw [e38]; exact Ar39.1) (State.isArrayOf_alike hZ.alike Ar39.2.1) Ar39.2.2 in39 (Ha39.at in39 (get_lst i4_3)) (g := (mkF m 92 #[rv a, iv (0 : Int32), iv x, .val (.double t), .second, iv (1 : Int32), iv (2 : Int32), iv (3 : Int32), iv (4 : Int32)] [(.int (3 : Int32)), (.ref aI), (.double ((upd D (0 : Int32) (D (1 : Int32))) (3 : Int32)))])) rfl rfl (hb hby dp23_23_92) tg kg) ?_
      refine gdloadN X38 hx (hb hby dp23_23_93) rfl ?_
      refine giloadN X38 hx (hb hby dp23_23_94) rfl ?_
      obtain ⟨_, _, ⟨T40, L40, k40, n40⟩, -, X40, ⟨Lc40, hQ40, l40, y40, z40⟩, st40⟩ := Jvm.LawKit.callS X38 hx (y := mN6) hown (mvT hZ (hwk hw 69 rfl)) (mvT hZ (hwk hw 70 rfl)) (mvT hZ (hwk hw 2 rfl)) (mvT hZ (hwk hw 71 rfl)) (by decide) (backOf (W := 0) (rmBe l Z a0 hw [] ((upd D (0 : Int32) (D (1 : Int32))) (3 : Int32)) ((upd I (0 : Int32) (I (1 : Int32))) (3 : Int32)) t x T31.heap n0 Z31 ) hZ (hwk hw 71 rfl) (hwk hw 2 rfl) (by decide) (by decide)) (g := (mkF m 95 #[rv a, iv (0 : Int32), iv x, .val (.double t), .second, iv (1 : Int32), iv (2 : Int32), iv (3 : Int32), iv (4 : Int32)] [(.int x), (.double t), (.int ((upd I (0 : Int32) (I (1 : Int32))) (3 : Int32))), (.double ((upd D (0 : Int32) (D (1 : Int32))) (3 : Int32)))])) rfl (by rw [hml]; rfl) (argsL := [(.double ((upd D (0 : Int32) (D (1 : Int32))) (3 : Int32))), (.int ((upd I (0 : Int32) (I (1 : Int32))) (3 : Int32))), (.double t), (.int x)]) (rest := []) (lenOf pd__DIDI_Z_1212 rfl) rfl (by show 2 * 0 + _ ≤ _; exact Nat.le_of_eq rfl) (hb hby dp23_23_95) (fun _ _ => ⟨rfl, e38, (by decide : 0 + 0 ≤ 0), (by decide : 0 + 0 ≤ 0)⟩)
      dsimp only [Pt.U, Pt.locs, Pt.cells, Pt.slots] at X40 l40 y40 z40 st40 hQ40
      subst l40 y40 z40
      obtain ⟨rfl, N40q, eh40⟩ := hQ40
      have N40 := Fr.app N31 N40q
      refine Goes.st st40 ?_
      show Gs p e below s _ _ _ T40 m 98 #[rv a, iv (0 : Int32), iv x, .val (.double t), .second, iv (1 : Int32), iv (2 : Int32), iv (3 : Int32), iv (4 : Int32)] [(.int (bef ((upd D (0 : Int32) (D (1 : Int32))) (3 : Int32)) ((upd I (0 : Int32) (I (1 : Int32))) (3 : Int32)) t x))]
      by_cases c41 : (bef ((upd D (0 : Int32) (D (1 : Int32))) (3 : Int32)) ((upd I (0 : Int32) (I (1 : Int32))) (3 : Int32)) t x) = (0 : Int32)
      · refine gifNo X40 hx (hb hby dp23_23_98) ((if0 _ _).trans (teq c41).2) ?_
        show Gs p e below s _ _ _ T40 m 101 #[rv a, iv (0 : Int32), iv x, .val (.double t), .second, iv (1 : Int32), iv (2 : Int32), iv (3 : Int32), iv (4 : Int32)] []
        refine ggoto X40 hx (pc' := 131) (hb hby dp23_23_101) (by decide) (by decide) ?_
        show Gs p e below s _ _ _ T40 m 131 #[rv a, iv (0 : Int32), iv x, .val (.double t), .second, iv (1 : Int32), iv (2 : Int32), iv (3 : Int32), iv (4 : Int32)] []
        refine galoadN X40 hx (hb hby dp23_23_131) rfl rfl ?_
        refine giload X40 hx (hb hby dp23_23_132) rfl ?_
        refine giloadN X40 hx (hb hby dp23_23_134) rfl ?_
        refine gdloadN X40 hx (hb hby dp23_23_135) rfl ?_
        have HR42 : HR Z T31.heap a aI aT aP kI kT kP (upd I (0 : Int32) (I (1 : Int32))) (upd D (0 : Int32) (D (1 : Int32))) (upd P (I (1 : Int32)) (0 : Int32)) (4 : Int32) o := ⟨E33, FI33, FT33, FP33, FS33, FO33, VI33, VT33, VP33⟩
        obtain ⟨cc43, qa43, qb43⟩ := Exa.cell E33
        obtain ⟨_, _, ⟨T43, L43, k43, n43⟩, -, X43, ⟨Lc43, hQ43, l43, y43, z43⟩, st43⟩ := X40.privateBack hx (y := mN5) hown (mvT hZ (hwk hw 65 rfl)) (mvT hZ (hwk hw 66 rfl)) (selP (y := mN5) (as := #[]) (mvT hZ (hwk hw 1 rfl)) (mvP hZ (hwk hw 67 rfl)) (mvT hZ (hwk hw 66 rfl)) (by decide)) (Cond.privateMethod_at (mvP hZ (hwk hw 67 rfl) (args := #[]))) (mvT hZ (hwk hw 68 rfl)) (by decide) (backOf (W := 0) (rmPu l Z a0 hw [] a aI aT aP kI kT kP (upd I (0 : Int32) (I (1 : Int32))) (upd D (0 : Int32) (D (1 : Int32))) (upd P (I (1 : Int32)) (0 : Int32)) (4 : Int32) o (1 : Int32) x t T31.heap n0 Z31 hB HR42 i4_1 hx4) hZ (hwk hw 68 rfl) (hwk hw 2 rfl) (by decide) (by decide)) (g := (mkF m 136 #[rv a, iv (0 : Int32), iv x, .val (.double t), .second, iv (1 : Int32), iv (2 : Int32), iv (3 : Int32), iv (4 : Int32)] [(.double t), (.int x), (.int (1 : Int32)), (.ref a)])) rfl (by rw [hml]; rfl) (Steps.refl _) (a := a) (by rw [eh40]; exact qa43) qb43 (argsL := [(.int (1 : Int32)), (.int x), (.double t)]) (rest := []) (lenOf pd__IID_V_e64 rfl) rfl (by show 2 * 0 + _ ≤ _; exact Nat.le_of_eq rfl) (hb hby dp23_23_136) (fun _ _ => ⟨rfl, eh40, (by decide : 0 + 0 ≤ 0), (by decide : 0 + 0 ≤ 0)⟩)
        dsimp only [Pt.U, Pt.locs, Pt.cells, Pt.slots] at X43 l43 y43 z43 st43 hQ43
        subst l43 y43 z43
        obtain ⟨rfl, N43q, K43, HQ43⟩ := hQ43
        have KK44 := KK32.trans K43 (allS (Or.inl (List.mem_of_getElem? (i := 0) rfl)) (allS (Or.inl (List.mem_of_getElem? (i := 1) rfl)) (allS (Or.inl (List.mem_of_getElem? (i := 2) rfl)) (allS (Or.inl (List.mem_of_getElem? (i := 3) rfl)) all0))))
        have Z43 : n0 ≤ T43.heap.size := Nat.le_trans Z31 K43.1
        obtain ⟨E45, FI45, FT45, FP45, FS45, FO45, VI45, VT45, VP45⟩ := id HQ43
        have inv46 := hol_end hol34 i4_1 (by decide) hx4 hS
        have N43 := Fr.app N40 N43q
        refine Goes.sts st43 ?_
        show Gs p e below s _ _ _ T43 m 139 #[rv a, iv (0 : Int32), iv x, .val (.double t), .second, iv (1 : Int32), iv (2 : Int32), iv (3 : Int32), iv (4 : Int32)] []
        have HR47 : HR Z T43.heap a aI aT aP kI kT kP (upd (upd I (0 : Int32) (I (1 : Int32))) (1 : Int32) x) (upd (upd D (0 : Int32) (D (1 : Int32))) (1 : Int32) t) (upd (upd P (I (1 : Int32)) (0 : Int32)) x (1 : Int32)) (4 : Int32) o := ⟨E45, FI45, FT45, FP45, FS45, FO45, VI45, VT45, VP45⟩
        refine Goes.retV X43 hx hlk hret (hb hby dp23_23_139) ?_ (by decide) (by decide)
        exact ⟨(upd (upd I (0 : Int32) (I (1 : Int32))) (1 : Int32) x), (upd (upd D (0 : Int32) (D (1 : Int32))) (1 : Int32) t), (upd (upd P (I (1 : Int32)) (0 : Int32)) x (1 : Int32)), rfl, N43, KK44, HR47, inv46⟩
      · refine gifYes X40 hx (pc' := 104) (hb hby dp23_23_98) ((if0 _ _).trans (feq c41).2) (by decide) (by decide) ?_
        show Gs p e below s _ _ _ T40 m 104 #[rv a, iv (0 : Int32), iv x, .val (.double t), .second, iv (1 : Int32), iv (2 : Int32), iv (3 : Int32), iv (4 : Int32)] []
        refine galoadN X40 hx (hb hby dp23_23_104) rfl rfl ?_
        refine giload X40 hx (hb hby dp23_23_105) rfl ?_
        refine galoadN X40 hx (hb hby dp23_23_107) rfl rfl ?_
        obtain ⟨T48, X48, e48, st48⟩ := getF X40 hx hZ hown (host := "") (Or.inl (hwk hw 12 rfl)) Via.refl eh40 FI33 (g := (mkF m 108 #[rv a, iv (0 : Int32), iv x, .val (.double t), .second, iv (1 : Int32), iv (2 : Int32), iv (3 : Int32), iv (4 : Int32)] [(.ref a), (.int (1 : Int32)), (.ref a)])) rfl rfl (hb hby dp23_23_108)
        refine Goes.st st48 ?_
        refine giload X48 hx (hb hby dp23_23_111) rfl ?_
        show Gs p e below s _ _ _ T48 m 113 #[rv a, iv (0 : Int32), iv x, .val (.double t), .second, iv (1 : Int32), iv (2 : Int32), iv (3 : Int32), iv (4 : Int32)] [(.int (3 : Int32)), (.ref aI), (.int (1 : Int32)), (.ref a)]
        obtain ⟨cl49, Ar49, qk49, Sz49, qz49, Ha49, Gf49⟩ := id VI33
        have in49 := inb_of (j := (3 : Int32)) Sz49 ⟨by decide, by decide⟩
        refine Goes.st (fun tg kg => X48.iaload hx (j := (3 : Int32)) (v := (.int ((upd I (0 : Int32) (I (1 : Int32))) (3 : Int32)))) (by rw [e48]; exact Ar49.1) (State.isArrayOf_alike hZ.alike Ar49.2.1) Ar49.2.2 in49 (Ha49.at in49 (get_lst i4_3)) (g := (mkF m 113 #[rv a, iv (0 : Int32), iv x, .val (.double t), .second, iv (1 : Int32), iv (2 : Int32), iv (3 : Int32), iv (4 : Int32)] [(.int (3 : Int32)), (.ref aI), (.int (1 : Int32)), (.ref a)])) rfl rfl (hb hby dp23_23_113) tg kg) ?_
        refine galoadN X48 hx (hb hby dp23_23_114) rfl rfl ?_
        obtain ⟨T50, X50, e50, st50⟩ := getF X48 hx hZ hown (host := "") (Or.inl (hwk hw 15 rfl)) Via.refl e48 FT33 (g := (mkF m 115 #[rv a, iv (0 : Int32), iv x, .val (.double t), .second, iv (1 : Int32), iv (2 : Int32), iv (3 : Int32), iv (4 : Int32)] [(.ref a), (.int ((upd I (0 : Int32) (I (1 : Int32))) (3 : Int32))), (.int (1 : Int32)), (.ref a)])) rfl rfl (hb hby dp23_23_115)
        refine Goes.st st50 ?_
        refine giload X50 hx (hb hby dp23_23_118) rfl ?_
        show Gs p e below s _ _ _ T50 m 120 #[rv a, iv (0 : Int32), iv x, .val (.double t), .second, iv (1 : Int32), iv (2 : Int32), iv (3 : Int32), iv (4 : Int32)] [(.int (3 : Int32)), (.ref aT), (.int ((upd I (0 : Int32) (I (1 : Int32))) (3 : Int32))), (.int (1 : Int32)), (.ref a)]
        obtain ⟨cl51, Ar51, qk51, Sz51, qz51, Ha51, Gf51⟩ := id VT33
        have in51 := inb_of (j := (3 : Int32)) Sz51 ⟨by decide, by decide⟩
        refine Goes.st (fun tg kg => X50.daload hx (j := (3 : Int32)) (v := (.double ((upd D (0 : Int32) (D (1 : Int32))) (3 : Int32)))) (by rw [e50]; exact Ar51.1) (State.isArrayOf_alike hZ.alike Ar51.2.1) Ar51.2.2 in51 (Ha51.at in51 (get_dls i4_3)) (g := (mkF m 120 #[rv a, iv (0 : Int32), iv x, .val (.double t), .second, iv (1 : Int32), iv (2 : Int32), iv (3 : Int32), iv (4 : Int32)] [(.int (3 : Int32)), (.ref aT), (.int ((upd I (0 : Int32) (I (1 : Int32))) (3 : Int32))), (.int (1 : Int32)), (.ref a)])) rfl rfl (hb hby dp23_23_120) tg kg) ?_
        have HR52 : HR Z T31.heap a aI aT aP kI kT kP (upd I (0 : Int32) (I (1 : Int32))) (upd D (0 : Int32) (D (1 : Int32))) (upd P (I (1 : Int32)) (0 : Int32)) (4 : Int32) o := ⟨E33, FI33, FT33, FP33, FS33, FO33, VI33, VT33, VP33⟩
        obtain ⟨cc53, qa53, qb53⟩ := Exa.cell E33
        obtain ⟨_, _, ⟨T53, L53, k53, n53⟩, -, X53, ⟨Lc53, hQ53, l53, y53, z53⟩, st53⟩ := X50.privateBack hx (y := mN5) hown (mvT hZ (hwk hw 65 rfl)) (mvT hZ (hwk hw 66 rfl)) (selP (y := mN5) (as := #[]) (mvT hZ (hwk hw 1 rfl)) (mvP hZ (hwk hw 67 rfl)) (mvT hZ (hwk hw 66 rfl)) (by decide)) (Cond.privateMethod_at (mvP hZ (hwk hw 67 rfl) (args := #[]))) (mvT hZ (hwk hw 68 rfl)) (by decide) (backOf (W := 0) (rmPu l Z a0 hw [] a aI aT aP kI kT kP (upd I (0 : Int32) (I (1 : Int32))) (upd D (0 : Int32) (D (1 : Int32))) (upd P (I (1 : Int32)) (0 : Int32)) (4 : Int32) o (1 : Int32) ((upd I (0 : Int32) (I (1 : Int32))) (3 : Int32)) ((upd D (0 : Int32) (D (1 : Int32))) (3 : Int32)) T31.heap n0 Z31 hB HR52 i4_1 (hol34.1 _ i4_3)) hZ (hwk hw 68 rfl) (hwk hw 2 rfl) (by decide) (by decide)) (g := (mkF m 121 #[rv a, iv (0 : Int32), iv x, .val (.double t), .second, iv (1 : Int32), iv (2 : Int32), iv (3 : Int32), iv (4 : Int32)] [(.double ((upd D (0 : Int32) (D (1 : Int32))) (3 : Int32))), (.int ((upd I (0 : Int32) (I (1 : Int32))) (3 : Int32))), (.int (1 : Int32)), (.ref a)])) rfl (by rw [hml]; rfl) (Steps.refl _) (a := a) (by rw [e50]; exact qa53) qb53 (argsL := [(.int (1 : Int32)), (.int ((upd I (0 : Int32) (I (1 : Int32))) (3 : Int32))), (.double ((upd D (0 : Int32) (D (1 : Int32))) (3 : Int32)))]) (rest := []) (lenOf pd__IID_V_e64 rfl) rfl (by show 2 * 0 + _ ≤ _; exact Nat.le_of_eq rfl) (hb hby dp23_23_121) (fun _ _ => ⟨rfl, e50, (by decide : 0 + 0 ≤ 0), (by decide : 0 + 0 ≤ 0)⟩)
        dsimp only [Pt.U, Pt.locs, Pt.cells, Pt.slots] at X53 l53 y53 z53 st53 hQ53
        subst l53 y53 z53
        obtain ⟨rfl, N53q, K53, HQ53⟩ := hQ53
        have KK54 := KK32.trans K53 (allS (Or.inl (List.mem_of_getElem? (i := 0) rfl)) (allS (Or.inl (List.mem_of_getElem? (i := 1) rfl)) (allS (Or.inl (List.mem_of_getElem? (i := 2) rfl)) (allS (Or.inl (List.mem_of_getElem? (i := 3) rfl)) all0))))
        have Z53 : n0 ≤ T53.heap.size := Nat.le_trans Z31 K53.1
        obtain ⟨E55, FI55, FT55, FP55, FS55, FO55, VI55, VT55, VP55⟩ := id HQ53
        have hol56 := hol_move hol34 i4_3 (by decide) (by decide) i4_1 (by decide)
        have N53 := Fr.app N40 N53q
        refine Goes.sts st53 ?_
        show Gs p e below s _ _ _ T53 m 124 #[rv a, iv (0 : Int32), iv x, .val (.double t), .second, iv (1 : Int32), iv (2 : Int32), iv (3 : Int32), iv (4 : Int32)] []
        refine giload X53 hx (hb hby dp23_23_124) rfl ?_
        refine gistore X53 hx (hb hby dp23_23_126) trivial (l' := #[rv a, iv (0 : Int32), iv x, .val (.double t), .second, iv (3 : Int32), iv (2 : Int32), iv (3 : Int32), iv (4 : Int32)]) rfl ?_
        show Gs p e below s _ _ _ T53 m 128 #[rv a, iv (0 : Int32), iv x, .val (.double t), .second, iv (3 : Int32), iv (2 : Int32), iv (3 : Int32), iv (4 : Int32)] []
        refine ggoto X53 hx (pc' := 11) (hb hby dp23_23_128) (by decide) (by decide) ?_
        show Gs p e below s _ _ _ T53 m 11 #[rv a, iv (0 : Int32), iv x, .val (.double t), .second, iv (3 : Int32), iv (2 : Int32), iv (3 : Int32), iv (4 : Int32)] []
        refine giload X53 hx (hb hby dp23_23_11) rfl ?_
        refine giload X53 hx (hb hby dp23_23_13) rfl ?_
        show Gs p e below s _ _ _ T53 m 15 #[rv a, iv (0 : Int32), iv x, .val (.double t), .second, iv (3 : Int32), iv (2 : Int32), iv (3 : Int32), iv (4 : Int32)] [(.int (2 : Int32)), (.int (3 : Int32))]
        refine gicmpYes X53 hx (pc' := 131) (hb hby dp23_23_15) (by decide) (by decide) (by decide) ?_
        show Gs p e below s _ _ _ T53 m 131 #[rv a, iv (0 : Int32), iv x, .val (.double t), .second, iv (3 : Int32), iv (2 : Int32), iv (3 : Int32), iv (4 : Int32)] []
        refine galoadN X53 hx (hb hby dp23_23_131) rfl rfl ?_
        refine giload X53 hx (hb hby dp23_23_132) rfl ?_
        refine giloadN X53 hx (hb hby dp23_23_134) rfl ?_
        refine gdloadN X53 hx (hb hby dp23_23_135) rfl ?_
        have HR57 : HR Z T53.heap a aI aT aP kI kT kP (upd (upd I (0 : Int32) (I (1 : Int32))) (1 : Int32) ((upd I (0 : Int32) (I (1 : Int32))) (3 : Int32))) (upd (upd D (0 : Int32) (D (1 : Int32))) (1 : Int32) ((upd D (0 : Int32) (D (1 : Int32))) (3 : Int32))) (upd (upd P (I (1 : Int32)) (0 : Int32)) ((upd I (0 : Int32) (I (1 : Int32))) (3 : Int32)) (1 : Int32)) (4 : Int32) o := ⟨E55, FI55, FT55, FP55, FS55, FO55, VI55, VT55, VP55⟩
        obtain ⟨cc58, qa58, qb58⟩ := Exa.cell E55
        obtain ⟨_, _, ⟨T58, L58, k58, n58⟩, -, X58, ⟨Lc58, hQ58, l58, y58, z58⟩, st58⟩ := X53.privateBack hx (y := mN5) hown (mvT hZ (hwk hw 65 rfl)) (mvT hZ (hwk hw 66 rfl)) (selP (y := mN5) (as := #[]) (mvT hZ (hwk hw 1 rfl)) (mvP hZ (hwk hw 67 rfl)) (mvT hZ (hwk hw 66 rfl)) (by decide)) (Cond.privateMethod_at (mvP hZ (hwk hw 67 rfl) (args := #[]))) (mvT hZ (hwk hw 68 rfl)) (by decide) (backOf (W := 0) (rmPu l Z a0 hw [] a aI aT aP kI kT kP (upd (upd I (0 : Int32) (I (1 : Int32))) (1 : Int32) ((upd I (0 : Int32) (I (1 : Int32))) (3 : Int32))) (upd (upd D (0 : Int32) (D (1 : Int32))) (1 : Int32) ((upd D (0 : Int32) (D (1 : Int32))) (3 : Int32))) (upd (upd P (I (1 : Int32)) (0 : Int32)) ((upd I (0 : Int32) (I (1 : Int32))) (3 : Int32)) (1 : Int32)) (4 : Int32) o (3 : Int32) x t T53.heap n0 Z53 hB HR57 i4_3 hx4) hZ (hwk hw 68 rfl) (hwk hw 2 rfl) (by decide) (by decide)) (g := (mkF m 136 #[rv a, iv (0 : Int32), iv x, .val (.double t), .second, iv (3 : Int32), iv (2 : Int32), iv (3 : Int32), iv (4 : Int32)] [(.double t), (.int x), (.int (3 : Int32)), (.ref a)])) rfl (by rw [hml]; rfl) (Steps.refl _) (a := a) qa58 qb58 (argsL := [(.int (3 : Int32)), (.int x), (.double t)]) (rest := []) (lenOf pd__IID_V_e64 rfl) rfl (by show 2 * 0 + _ ≤ _; exact Nat.le_of_eq rfl) (hb hby dp23_23_136) (fun _ _ => ⟨rfl, rfl, (by decide : 0 + 0 ≤ 0), (by decide : 0 + 0 ≤ 0)⟩)
        dsimp only [Pt.U, Pt.locs, Pt.cells, Pt.slots] at X58 l58 y58 z58 st58 hQ58
        subst l58 y58 z58
        obtain ⟨rfl, N58q, K58, HQ58⟩ := hQ58
        have KK59 := KK54.trans K58 (allS (Or.inl (List.mem_of_getElem? (i := 0) rfl)) (allS (Or.inl (List.mem_of_getElem? (i := 1) rfl)) (allS (Or.inl (List.mem_of_getElem? (i := 2) rfl)) (allS (Or.inl (List.mem_of_getElem? (i := 3) rfl)) all0))))
        have Z58 : n0 ≤ T58.heap.size := Nat.le_trans Z53 K58.1
        obtain ⟨E60, FI60, FT60, FP60, FS60, FO60, VI60, VT60, VP60⟩ := id HQ58
        have inv61 := hol_end hol56 i4_3 (by decide) hx4 hS
        have N58 := Fr.app N53 N58q
        refine Goes.sts st58 ?_
        show Gs p e below s _ _ _ T58 m 139 #[rv a, iv (0 : Int32), iv x, .val (.double t), .second, iv (3 : Int32), iv (2 : Int32), iv (3 : Int32), iv (4 : Int32)] []
        have HR62 : HR Z T58.heap a aI aT aP kI kT kP (upd (upd (upd I (0 : Int32) (I (1 : Int32))) (1 : Int32) ((upd I (0 : Int32) (I (1 : Int32))) (3 : Int32))) (3 : Int32) x) (upd (upd (upd D (0 : Int32) (D (1 : Int32))) (1 : Int32) ((upd D (0 : Int32) (D (1 : Int32))) (3 : Int32))) (3 : Int32) t) (upd (upd (upd P (I (1 : Int32)) (0 : Int32)) ((upd I (0 : Int32) (I (1 : Int32))) (3 : Int32)) (1 : Int32)) x (3 : Int32)) (4 : Int32) o := ⟨E60, FI60, FT60, FP60, FS60, FO60, VI60, VT60, VP60⟩
        refine Goes.retV X58 hx hlk hret (hb hby dp23_23_139) ?_ (by decide) (by decide)
        exact ⟨(upd (upd (upd I (0 : Int32) (I (1 : Int32))) (1 : Int32) ((upd I (0 : Int32) (I (1 : Int32))) (3 : Int32))) (3 : Int32) x), (upd (upd (upd D (0 : Int32) (D (1 : Int32))) (1 : Int32) ((upd D (0 : Int32) (D (1 : Int32))) (3 : Int32))) (3 : Int32) t), (upd (upd (upd P (I (1 : Int32)) (0 : Int32)) ((upd I (0 : Int32) (I (1 : Int32))) (3 : Int32)) (1 : Int32)) x (3 : Int32)), rfl, N58, KK59, HR62, inv61⟩
  · refine gifNo X12 hx (hb hby dp23_23_72) ((if0 _ _).trans (feq c13).1) ?_
    show Gs p e below s _ _ _ T12 m 75 #[rv a, iv (0 : Int32), iv x, .val (.double t), .second, iv (0 : Int32), iv (2 : Int32), iv (1 : Int32), iv (2 : Int32)] []
    refine giload X12 hx (hb hby dp23_23_75) rfl ?_
    refine gistore X12 hx (hb hby dp23_23_77) trivial (l' := #[rv a, iv (0 : Int32), iv x, .val (.double t), .second, iv (0 : Int32), iv (2 : Int32), iv (2 : Int32), iv (2 : Int32)]) rfl ?_
    refine galoadN X12 hx (hb hby dp23_23_79) rfl rfl ?_
    obtain ⟨T63, X63, e63, st63⟩ := getF X12 hx hZ hown (host := "") (Or.inl (hwk hw 15 rfl)) Via.refl eh12 FT1 (g := (mkF m 80 #[rv a, iv (0 : Int32), iv x, .val (.double t), .second, iv (0 : Int32), iv (2 : Int32), iv (2 : Int32), iv (2 : Int32)] [(.ref a)])) rfl rfl (hb hby dp23_23_80)
    refine Goes.st st63 ?_
    refine giload X63 hx (hb hby dp23_23_83) rfl ?_
    show Gs p e below s _ _ _ T63 m 85 #[rv a, iv (0 : Int32), iv x, .val (.double t), .second, iv (0 : Int32), iv (2 : Int32), iv (2 : Int32), iv (2 : Int32)] [(.int (2 : Int32)), (.ref aT)]
    obtain ⟨cl64, Ar64, qk64, Sz64, qz64, Ha64, Gf64⟩ := id VT1
    have in64 := inb_of (j := (2 : Int32)) Sz64 ⟨by decide, by decide⟩
    refine Goes.st (fun tg kg => X63.daload hx (j := (2 : Int32)) (v := (.double (D (2 : Int32)))) (by rw [e63]; exact Ar64.1) (State.isArrayOf_alike hZ.alike Ar64.2.1) Ar64.2.2 in64 (Ha64.at in64 (get_dls i4_2)) (g := (mkF m 85 #[rv a, iv (0 : Int32), iv x, .val (.double t), .second, iv (0 : Int32), iv (2 : Int32), iv (2 : Int32), iv (2 : Int32)] [(.int (2 : Int32)), (.ref aT)])) rfl rfl (hb hby dp23_23_85) tg kg) ?_
    refine galoadN X63 hx (hb hby dp23_23_86) rfl rfl ?_
    obtain ⟨T65, X65, e65, st65⟩ := getF X63 hx hZ hown (host := "") (Or.inl (hwk hw 12 rfl)) Via.refl e63 FI1 (g := (mkF m 87 #[rv a, iv (0 : Int32), iv x, .val (.double t), .second, iv (0 : Int32), iv (2 : Int32), iv (2 : Int32), iv (2 : Int32)] [(.ref a), (.double (D (2 : Int32)))])) rfl rfl (hb hby dp23_23_87)
    refine Goes.st st65 ?_
    refine giload X65 hx (hb hby dp23_23_90) rfl ?_
    show Gs p e below s _ _ _ T65 m 92 #[rv a, iv (0 : Int32), iv x, .val (.double t), .second, iv (0 : Int32), iv (2 : Int32), iv (2 : Int32), iv (2 : Int32)] [(.int (2 : Int32)), (.ref aI), (.double (D (2 : Int32)))]
    obtain ⟨cl66, Ar66, qk66, Sz66, qz66, Ha66, Gf66⟩ := id VI1
    have in66 := inb_of (j := (2 : Int32)) Sz66 ⟨by decide, by decide⟩
    refine Goes.st (fun tg kg => X65.iaload hx (j := (2 : Int32)) (v := (.int (I (2 : Int32)))) (by rw [e65]; exact Ar66.1) (State.isArrayOf_alike hZ.alike Ar66.2.1) Ar66.2.2 in66 (Ha66.at in66 (get_lst i4_2)) (g := (mkF m 92 #[rv a, iv (0 : Int32), iv x, .val (.double t), .second, iv (0 : Int32), iv (2 : Int32), iv (2 : Int32), iv (2 : Int32)] [(.int (2 : Int32)), (.ref aI), (.double (D (2 : Int32)))])) rfl rfl (hb hby dp23_23_92) tg kg) ?_
    refine gdloadN X65 hx (hb hby dp23_23_93) rfl ?_
    refine giloadN X65 hx (hb hby dp23_23_94) rfl ?_
    obtain ⟨_, _, ⟨T67, L67, k67, n67⟩, -, X67, ⟨Lc67, hQ67, l67, y67, z67⟩, st67⟩ := Jvm.LawKit.callS X65 hx (y := mN6) hown (mvT hZ (hwk hw 69 rfl)) (mvT hZ (hwk hw 70 rfl)) (mvT hZ (hwk hw 2 rfl)) (mvT hZ (hwk hw 71 rfl)) (by decide) (backOf (W := 0) (rmBe l Z a0 hw [] (D (2 : Int32)) (I (2 : Int32)) t x h0 n0 Z0 ) hZ (hwk hw 71 rfl) (hwk hw 2 rfl) (by decide) (by decide)) (g := (mkF m 95 #[rv a, iv (0 : Int32), iv x, .val (.double t), .second, iv (0 : Int32), iv (2 : Int32), iv (2 : Int32), iv (2 : Int32)] [(.int x), (.double t), (.int (I (2 : Int32))), (.double (D (2 : Int32)))])) rfl (by rw [hml]; rfl) (argsL := [(.double (D (2 : Int32))), (.int (I (2 : Int32))), (.double t), (.int x)]) (rest := []) (lenOf pd__DIDI_Z_1212 rfl) rfl (by show 2 * 0 + _ ≤ _; exact Nat.le_of_eq rfl) (hb hby dp23_23_95) (fun _ _ => ⟨rfl, e65, (by decide : 0 + 0 ≤ 0), (by decide : 0 + 0 ≤ 0)⟩)
    dsimp only [Pt.U, Pt.locs, Pt.cells, Pt.slots] at X67 l67 y67 z67 st67 hQ67
    subst l67 y67 z67
    obtain ⟨rfl, N67q, eh67⟩ := hQ67
    have N67 := Fr.app N12 N67q
    refine Goes.st st67 ?_
    show Gs p e below s _ _ _ T67 m 98 #[rv a, iv (0 : Int32), iv x, .val (.double t), .second, iv (0 : Int32), iv (2 : Int32), iv (2 : Int32), iv (2 : Int32)] [(.int (bef (D (2 : Int32)) (I (2 : Int32)) t x))]
    by_cases c68 : (bef (D (2 : Int32)) (I (2 : Int32)) t x) = (0 : Int32)
    · refine gifNo X67 hx (hb hby dp23_23_98) ((if0 _ _).trans (teq c68).2) ?_
      show Gs p e below s _ _ _ T67 m 101 #[rv a, iv (0 : Int32), iv x, .val (.double t), .second, iv (0 : Int32), iv (2 : Int32), iv (2 : Int32), iv (2 : Int32)] []
      refine ggoto X67 hx (pc' := 131) (hb hby dp23_23_101) (by decide) (by decide) ?_
      show Gs p e below s _ _ _ T67 m 131 #[rv a, iv (0 : Int32), iv x, .val (.double t), .second, iv (0 : Int32), iv (2 : Int32), iv (2 : Int32), iv (2 : Int32)] []
      refine galoadN X67 hx (hb hby dp23_23_131) rfl rfl ?_
      refine giload X67 hx (hb hby dp23_23_132) rfl ?_
      refine giloadN X67 hx (hb hby dp23_23_134) rfl ?_
      refine gdloadN X67 hx (hb hby dp23_23_135) rfl ?_
      have HR69 : HR Z h0 a aI aT aP kI kT kP I D P (4 : Int32) o := ⟨E1, FI1, FT1, FP1, FS1, FO1, VI1, VT1, VP1⟩
      obtain ⟨cc70, qa70, qb70⟩ := Exa.cell E1
      obtain ⟨_, _, ⟨T70, L70, k70, n70⟩, -, X70, ⟨Lc70, hQ70, l70, y70, z70⟩, st70⟩ := X67.privateBack hx (y := mN5) hown (mvT hZ (hwk hw 65 rfl)) (mvT hZ (hwk hw 66 rfl)) (selP (y := mN5) (as := #[]) (mvT hZ (hwk hw 1 rfl)) (mvP hZ (hwk hw 67 rfl)) (mvT hZ (hwk hw 66 rfl)) (by decide)) (Cond.privateMethod_at (mvP hZ (hwk hw 67 rfl) (args := #[]))) (mvT hZ (hwk hw 68 rfl)) (by decide) (backOf (W := 0) (rmPu l Z a0 hw [] a aI aT aP kI kT kP I D P (4 : Int32) o (0 : Int32) x t h0 n0 Z0 hB HR69 i4_0 hx4) hZ (hwk hw 68 rfl) (hwk hw 2 rfl) (by decide) (by decide)) (g := (mkF m 136 #[rv a, iv (0 : Int32), iv x, .val (.double t), .second, iv (0 : Int32), iv (2 : Int32), iv (2 : Int32), iv (2 : Int32)] [(.double t), (.int x), (.int (0 : Int32)), (.ref a)])) rfl (by rw [hml]; rfl) (Steps.refl _) (a := a) (by rw [eh67]; exact qa70) qb70 (argsL := [(.int (0 : Int32)), (.int x), (.double t)]) (rest := []) (lenOf pd__IID_V_e64 rfl) rfl (by show 2 * 0 + _ ≤ _; exact Nat.le_of_eq rfl) (hb hby dp23_23_136) (fun _ _ => ⟨rfl, eh67, (by decide : 0 + 0 ≤ 0), (by decide : 0 + 0 ≤ 0)⟩)
      dsimp only [Pt.U, Pt.locs, Pt.cells, Pt.slots] at X70 l70 y70 z70 st70 hQ70
      subst l70 y70 z70
      obtain ⟨rfl, N70q, K70, HQ70⟩ := hQ70
      have KK71 := K0.trans K70 (allS (Or.inl (List.mem_of_getElem? (i := 0) rfl)) (allS (Or.inl (List.mem_of_getElem? (i := 1) rfl)) (allS (Or.inl (List.mem_of_getElem? (i := 2) rfl)) (allS (Or.inl (List.mem_of_getElem? (i := 3) rfl)) all0))))
      have Z70 : n0 ≤ T70.heap.size := Nat.le_trans Z0 K70.1
      obtain ⟨E72, FI72, FT72, FP72, FS72, FO72, VI72, VT72, VP72⟩ := id HQ70
      have inv73 := hol_end hH i4_0 (by decide) hx4 hS
      have N70 := Fr.app N67 N70q
      refine Goes.sts st70 ?_
      show Gs p e below s _ _ _ T70 m 139 #[rv a, iv (0 : Int32), iv x, .val (.double t), .second, iv (0 : Int32), iv (2 : Int32), iv (2 : Int32), iv (2 : Int32)] []
      have HR74 : HR Z T70.heap a aI aT aP kI kT kP (upd I (0 : Int32) x) (upd D (0 : Int32) t) (upd P x (0 : Int32)) (4 : Int32) o := ⟨E72, FI72, FT72, FP72, FS72, FO72, VI72, VT72, VP72⟩
      refine Goes.retV X70 hx hlk hret (hb hby dp23_23_139) ?_ (by decide) (by decide)
      exact ⟨(upd I (0 : Int32) x), (upd D (0 : Int32) t), (upd P x (0 : Int32)), rfl, N70, KK71, HR74, inv73⟩
    · refine gifYes X67 hx (pc' := 104) (hb hby dp23_23_98) ((if0 _ _).trans (feq c68).2) (by decide) (by decide) ?_
      show Gs p e below s _ _ _ T67 m 104 #[rv a, iv (0 : Int32), iv x, .val (.double t), .second, iv (0 : Int32), iv (2 : Int32), iv (2 : Int32), iv (2 : Int32)] []
      refine galoadN X67 hx (hb hby dp23_23_104) rfl rfl ?_
      refine giload X67 hx (hb hby dp23_23_105) rfl ?_
      refine galoadN X67 hx (hb hby dp23_23_107) rfl rfl ?_
      obtain ⟨T75, X75, e75, st75⟩ := getF X67 hx hZ hown (host := "") (Or.inl (hwk hw 12 rfl)) Via.refl eh67 FI1 (g := (mkF m 108 #[rv a, iv (0 : Int32), iv x, .val (.double t), .second, iv (0 : Int32), iv (2 : Int32), iv (2 : Int32), iv (2 : Int32)] [(.ref a), (.int (0 : Int32)), (.ref a)])) rfl rfl (hb hby dp23_23_108)
      refine Goes.st st75 ?_
      refine giload X75 hx (hb hby dp23_23_111) rfl ?_
      show Gs p e below s _ _ _ T75 m 113 #[rv a, iv (0 : Int32), iv x, .val (.double t), .second, iv (0 : Int32), iv (2 : Int32), iv (2 : Int32), iv (2 : Int32)] [(.int (2 : Int32)), (.ref aI), (.int (0 : Int32)), (.ref a)]
      obtain ⟨cl76, Ar76, qk76, Sz76, qz76, Ha76, Gf76⟩ := id VI1
      have in76 := inb_of (j := (2 : Int32)) Sz76 ⟨by decide, by decide⟩
      refine Goes.st (fun tg kg => X75.iaload hx (j := (2 : Int32)) (v := (.int (I (2 : Int32)))) (by rw [e75]; exact Ar76.1) (State.isArrayOf_alike hZ.alike Ar76.2.1) Ar76.2.2 in76 (Ha76.at in76 (get_lst i4_2)) (g := (mkF m 113 #[rv a, iv (0 : Int32), iv x, .val (.double t), .second, iv (0 : Int32), iv (2 : Int32), iv (2 : Int32), iv (2 : Int32)] [(.int (2 : Int32)), (.ref aI), (.int (0 : Int32)), (.ref a)])) rfl rfl (hb hby dp23_23_113) tg kg) ?_
      refine galoadN X75 hx (hb hby dp23_23_114) rfl rfl ?_
      obtain ⟨T77, X77, e77, st77⟩ := getF X75 hx hZ hown (host := "") (Or.inl (hwk hw 15 rfl)) Via.refl e75 FT1 (g := (mkF m 115 #[rv a, iv (0 : Int32), iv x, .val (.double t), .second, iv (0 : Int32), iv (2 : Int32), iv (2 : Int32), iv (2 : Int32)] [(.ref a), (.int (I (2 : Int32))), (.int (0 : Int32)), (.ref a)])) rfl rfl (hb hby dp23_23_115)
      refine Goes.st st77 ?_
      refine giload X77 hx (hb hby dp23_23_118) rfl ?_
      show Gs p e below s _ _ _ T77 m 120 #[rv a, iv (0 : Int32), iv x, .val (.double t), .second, iv (0 : Int32), iv (2 : Int32), iv (2 : Int32), iv (2 : Int32)] [(.int (2 : Int32)), (.ref aT), (.int (I (2 : Int32))), (.int (0 : Int32)), (.ref a)]
      obtain ⟨cl78, Ar78, qk78, Sz78, qz78, Ha78, Gf78⟩ := id VT1
      have in78 := inb_of (j := (2 : Int32)) Sz78 ⟨by decide, by decide⟩
      refine Goes.st (fun tg kg => X77.daload hx (j := (2 : Int32)) (v := (.double (D (2 : Int32)))) (by rw [e77]; exact Ar78.1) (State.isArrayOf_alike hZ.alike Ar78.2.1) Ar78.2.2 in78 (Ha78.at in78 (get_dls i4_2)) (g := (mkF m 120 #[rv a, iv (0 : Int32), iv x, .val (.double t), .second, iv (0 : Int32), iv (2 : Int32), iv (2 : Int32), iv (2 : Int32)] [(.int (2 : Int32)), (.ref aT), (.int (I (2 : Int32))), (.int (0 : Int32)), (.ref a)])) rfl rfl (hb hby dp23_23_120) tg kg) ?_
      have HR79 : HR Z h0 a aI aT aP kI kT kP I D P (4 : Int32) o := ⟨E1, FI1, FT1, FP1, FS1, FO1, VI1, VT1, VP1⟩
      obtain ⟨cc80, qa80, qb80⟩ := Exa.cell E1
      obtain ⟨_, _, ⟨T80, L80, k80, n80⟩, -, X80, ⟨Lc80, hQ80, l80, y80, z80⟩, st80⟩ := X77.privateBack hx (y := mN5) hown (mvT hZ (hwk hw 65 rfl)) (mvT hZ (hwk hw 66 rfl)) (selP (y := mN5) (as := #[]) (mvT hZ (hwk hw 1 rfl)) (mvP hZ (hwk hw 67 rfl)) (mvT hZ (hwk hw 66 rfl)) (by decide)) (Cond.privateMethod_at (mvP hZ (hwk hw 67 rfl) (args := #[]))) (mvT hZ (hwk hw 68 rfl)) (by decide) (backOf (W := 0) (rmPu l Z a0 hw [] a aI aT aP kI kT kP I D P (4 : Int32) o (0 : Int32) (I (2 : Int32)) (D (2 : Int32)) h0 n0 Z0 hB HR79 i4_0 (hH.1 _ i4_2)) hZ (hwk hw 68 rfl) (hwk hw 2 rfl) (by decide) (by decide)) (g := (mkF m 121 #[rv a, iv (0 : Int32), iv x, .val (.double t), .second, iv (0 : Int32), iv (2 : Int32), iv (2 : Int32), iv (2 : Int32)] [(.double (D (2 : Int32))), (.int (I (2 : Int32))), (.int (0 : Int32)), (.ref a)])) rfl (by rw [hml]; rfl) (Steps.refl _) (a := a) (by rw [e77]; exact qa80) qb80 (argsL := [(.int (0 : Int32)), (.int (I (2 : Int32))), (.double (D (2 : Int32)))]) (rest := []) (lenOf pd__IID_V_e64 rfl) rfl (by show 2 * 0 + _ ≤ _; exact Nat.le_of_eq rfl) (hb hby dp23_23_121) (fun _ _ => ⟨rfl, e77, (by decide : 0 + 0 ≤ 0), (by decide : 0 + 0 ≤ 0)⟩)
      dsimp only [Pt.U, Pt.locs, Pt.cells, Pt.slots] at X80 l80 y80 z80 st80 hQ80
      subst l80 y80 z80
      obtain ⟨rfl, N80q, K80, HQ80⟩ := hQ80
      have KK81 := K0.trans K80 (allS (Or.inl (List.mem_of_getElem? (i := 0) rfl)) (allS (Or.inl (List.mem_of_getElem? (i := 1) rfl)) (allS (Or.inl (List.mem_of_getElem? (i := 2) rfl)) (allS (Or.inl (List.mem_of_getElem? (i := 3) rfl)) all0))))
      have Z80 : n0 ≤ T80.heap.size := Nat.le_trans Z0 K80.1
      obtain ⟨E82, FI82, FT82, FP82, FS82, FO82, VI82, VT82, VP82⟩ := id HQ80
      have hol83 := hol_move hH i4_2 (by decide) (by decide) i4_0 (by decide)
      have N80 := Fr.app N67 N80q
      refine Goes.sts st80 ?_
      show Gs p e below s _ _ _ T80 m 124 #[rv a, iv (0 : Int32), iv x, .val (.double t), .second, iv (0 : Int32), iv (2 : Int32), iv (2 : Int32), iv (2 : Int32)] []
      refine giload X80 hx (hb hby dp23_23_124) rfl ?_
      refine gistore X80 hx (hb hby dp23_23_126) trivial (l' := #[rv a, iv (0 : Int32), iv x, .val (.double t), .second, iv (2 : Int32), iv (2 : Int32), iv (2 : Int32), iv (2 : Int32)]) rfl ?_
      show Gs p e below s _ _ _ T80 m 128 #[rv a, iv (0 : Int32), iv x, .val (.double t), .second, iv (2 : Int32), iv (2 : Int32), iv (2 : Int32), iv (2 : Int32)] []
      refine ggoto X80 hx (pc' := 11) (hb hby dp23_23_128) (by decide) (by decide) ?_
      show Gs p e below s _ _ _ T80 m 11 #[rv a, iv (0 : Int32), iv x, .val (.double t), .second, iv (2 : Int32), iv (2 : Int32), iv (2 : Int32), iv (2 : Int32)] []
      refine giload X80 hx (hb hby dp23_23_11) rfl ?_
      refine giload X80 hx (hb hby dp23_23_13) rfl ?_
      show Gs p e below s _ _ _ T80 m 15 #[rv a, iv (0 : Int32), iv x, .val (.double t), .second, iv (2 : Int32), iv (2 : Int32), iv (2 : Int32), iv (2 : Int32)] [(.int (2 : Int32)), (.int (2 : Int32))]
      refine gicmpYes X80 hx (pc' := 131) (hb hby dp23_23_15) (by decide) (by decide) (by decide) ?_
      show Gs p e below s _ _ _ T80 m 131 #[rv a, iv (0 : Int32), iv x, .val (.double t), .second, iv (2 : Int32), iv (2 : Int32), iv (2 : Int32), iv (2 : Int32)] []
      refine galoadN X80 hx (hb hby dp23_23_131) rfl rfl ?_
      refine giload X80 hx (hb hby dp23_23_132) rfl ?_
      refine giloadN X80 hx (hb hby dp23_23_134) rfl ?_
      refine gdloadN X80 hx (hb hby dp23_23_135) rfl ?_
      have HR84 : HR Z T80.heap a aI aT aP kI kT kP (upd I (0 : Int32) (I (2 : Int32))) (upd D (0 : Int32) (D (2 : Int32))) (upd P (I (2 : Int32)) (0 : Int32)) (4 : Int32) o := ⟨E82, FI82, FT82, FP82, FS82, FO82, VI82, VT82, VP82⟩
      obtain ⟨cc85, qa85, qb85⟩ := Exa.cell E82
      obtain ⟨_, _, ⟨T85, L85, k85, n85⟩, -, X85, ⟨Lc85, hQ85, l85, y85, z85⟩, st85⟩ := X80.privateBack hx (y := mN5) hown (mvT hZ (hwk hw 65 rfl)) (mvT hZ (hwk hw 66 rfl)) (selP (y := mN5) (as := #[]) (mvT hZ (hwk hw 1 rfl)) (mvP hZ (hwk hw 67 rfl)) (mvT hZ (hwk hw 66 rfl)) (by decide)) (Cond.privateMethod_at (mvP hZ (hwk hw 67 rfl) (args := #[]))) (mvT hZ (hwk hw 68 rfl)) (by decide) (backOf (W := 0) (rmPu l Z a0 hw [] a aI aT aP kI kT kP (upd I (0 : Int32) (I (2 : Int32))) (upd D (0 : Int32) (D (2 : Int32))) (upd P (I (2 : Int32)) (0 : Int32)) (4 : Int32) o (2 : Int32) x t T80.heap n0 Z80 hB HR84 i4_2 hx4) hZ (hwk hw 68 rfl) (hwk hw 2 rfl) (by decide) (by decide)) (g := (mkF m 136 #[rv a, iv (0 : Int32), iv x, .val (.double t), .second, iv (2 : Int32), iv (2 : Int32), iv (2 : Int32), iv (2 : Int32)] [(.double t), (.int x), (.int (2 : Int32)), (.ref a)])) rfl (by rw [hml]; rfl) (Steps.refl _) (a := a) qa85 qb85 (argsL := [(.int (2 : Int32)), (.int x), (.double t)]) (rest := []) (lenOf pd__IID_V_e64 rfl) rfl (by show 2 * 0 + _ ≤ _; exact Nat.le_of_eq rfl) (hb hby dp23_23_136) (fun _ _ => ⟨rfl, rfl, (by decide : 0 + 0 ≤ 0), (by decide : 0 + 0 ≤ 0)⟩)
      dsimp only [Pt.U, Pt.locs, Pt.cells, Pt.slots] at X85 l85 y85 z85 st85 hQ85
      subst l85 y85 z85
      obtain ⟨rfl, N85q, K85, HQ85⟩ := hQ85
      have KK86 := KK81.trans K85 (allS (Or.inl (List.mem_of_getElem? (i := 0) rfl)) (allS (Or.inl (List.mem_of_getElem? (i := 1) rfl)) (allS (Or.inl (List.mem_of_getElem? (i := 2) rfl)) (allS (Or.inl (List.mem_of_getElem? (i := 3) rfl)) all0))))
      have Z85 : n0 ≤ T85.heap.size := Nat.le_trans Z80 K85.1
      obtain ⟨E87, FI87, FT87, FP87, FS87, FO87, VI87, VT87, VP87⟩ := id HQ85
      have inv88 := hol_end hol83 i4_2 (by decide) hx4 hS
      have N85 := Fr.app N80 N85q
      refine Goes.sts st85 ?_
      show Gs p e below s _ _ _ T85 m 139 #[rv a, iv (0 : Int32), iv x, .val (.double t), .second, iv (2 : Int32), iv (2 : Int32), iv (2 : Int32), iv (2 : Int32)] []
      have HR89 : HR Z T85.heap a aI aT aP kI kT kP (upd (upd I (0 : Int32) (I (2 : Int32))) (2 : Int32) x) (upd (upd D (0 : Int32) (D (2 : Int32))) (2 : Int32) t) (upd (upd P (I (2 : Int32)) (0 : Int32)) x (2 : Int32)) (4 : Int32) o := ⟨E87, FI87, FT87, FP87, FS87, FO87, VI87, VT87, VP87⟩
      refine Goes.retV X85 hx hlk hret (hb hby dp23_23_139) ?_ (by decide) (by decide)
      exact ⟨(upd (upd I (0 : Int32) (I (2 : Int32))) (2 : Int32) x), (upd (upd D (0 : Int32) (D (2 : Int32))) (2 : Int32) t), (upd (upd P (I (2 : Int32)) (0 : Int32)) x (2 : Int32)), rfl, N85, KK86, HR89, inv88⟩
theorem ef_D41 (m : MethodId) (x0 : Addr) (x1 : Int32) (x2 : Int32) (x3 : UInt64) : entryFrame m #[(.ref x0), (.int x1), (.int x2), (.double x3)] 9 = mkF m 0 #[rv x0, iv x1, iv x2, .val (.double x3), .second, .unset, .unset, .unset, .unset] [] := by first | (simp [entryFrame, mkF, argsToLocals, Value.category]; done) | rfl
def QD41 (Z : State) (a aI aT aP : Addr) (kI kT kP : ClassId) (I : Int32 → Int32) (D : Int32 → UInt64) (P : Int32 → Int32) (o x : Int32) (t : UInt64) (S : Int32 → Prop) (h0 : Heap) (n0 : Nat) (v : Option Value) (h : Heap) (L : List Loc) : Prop := ∃ (I1 : Int32 → Int32) (D1 : Int32 → UInt64) (P1 : Int32 → Int32), v = none ∧ Fr n0 L ∧ Keep h0 h [a, aI, aT, aP] ∧ HR Z h a aI aT aP kI kT kP I1 D1 P1 (4 : Int32) o ∧ Inv (4 : Int32) S I1 P1
set_option maxRecDepth 65536 in
set_option maxHeartbeats 40000000 in
theorem rmD41 (l : Launch) (Z : State) (a0 : Array Value) (hw : ∀ d ∈ tables_1, d.before a0 Z = true) (ws : List Jvm.Cond) (a aI aT aP : Addr) (kI kT kP : ClassId) (I : Int32 → Int32) (D : Int32 → UInt64) (P : Int32 → Int32) (o x : Int32) (t : UInt64) (S : Int32 → Prop) (h0 : Heap) (n0 : Nat) (Z0 : n0 ≤ h0.size) (hB : HB n0 a aI aT aP) (hR : HR Z h0 a aI aT aP kI kT kP I D P (4 : Int32) o) (hx4 : In4 x) (hH : Hol (4 : Int32) (1 : Int32) x S I P) (hS : S x) :
    MetFree l mN8 (head1 (Jvm.Cond.code mN8 prog_23_method_23_code 9 none :: ws) ({ frames := 1, cells := 0, slots := 0, locals := 17 } : Room)) (fun aa U => aa = #[(.ref a), (.int (1 : Int32)), (.int x), (.double t)] ∧ Z.Warmed39 U.vm ∧ U.heap = h0) (fun _ _ _ _ _ => True) (fun _ u1_ o_ u2_ => ∃ v_ l_, o_ = .returned v_ ∧ QD41 Z a aI aT aP kI kT kP I D P o x t S h0 n0 v_ u2_.heap l_ ∧ FrameEnd u1_ o_ u2_ l_ ({ frames := 1, cells := 0, slots := 0, locals := 17 } : Room).cells ({ frames := 1, cells := 0, slots := 0, locals := 17 } : Room).slots) := by
  refine MetFree.of_bodySF (plainFor_of_name pn_com_example_redoubt_redoubt_engine_IndexHeap) hisR ?_
  intro p e s m args below meth c s₁ Bd hml0 hP hK
  obtain ⟨rfl, hZ, hh⟩ := hP
  have hx := Bd.exec
  have hby := Bd.bytes
  have hlk := BodyLoose.notSynchronized Bd
  have hret := Bd.returns
  have hml : c.maxLocals = 9 := hml0
  have hown : s.vm.findClass "com/example/redoubt/redoubt/engine/IndexHeap" = some m.cls := findClass_of_methodNamed Bd.named
  have hnm := (name_of_methodNamed Bd.named Bd.method).1
  have X0 : Stand p l e ({ frames := 1, cells := 0, slots := 0, locals := 17 } : Room) s m #[(.ref a), (.int (1 : Int32)), (.int x), (.double t)] below meth c s₁ [] 0 0 := Stand.of_body Bd
  have e0 : s₁.heap = h0 := by rw [← hh, Bd.state]; rfl
  have N0 := Fr.nil n0
  refine Goes.st (s := s) (Q := QD41 Z a aI aT aP kI kT kP I D P o x t S h0 n0) (cs := ({ frames := 1, cells := 0, slots := 0, locals := 17 } : Room).cells) (ss := ({ frames := 1, cells := 0, slots := 0, locals := 17 } : Room).slots) (fun tg kg => castTop (ef_D41 m a (1 : Int32) x t) kg) ?_
  obtain ⟨la, lI, lT, lP, naI, naT, naP, nIT, nIP, nTP⟩ := id hB
  obtain ⟨E1, FI1, FT1, FP1, FS1, FO1, VI1, VT1, VP1⟩ := id hR
  have K0 : Keep h0 h0 [a, aI, aT, aP] := Keep.refl _ _
  show Gs p e below s _ _ _ s₁ m 0 #[rv a, iv (1 : Int32), iv x, .val (.double t), .second, .unset, .unset, .unset, .unset] []
  refine giloadN X0 hx (hb hby dp23_23_0) rfl ?_
  refine gistore X0 hx (hb hby dp23_23_1) trivial (l' := #[rv a, iv (1 : Int32), iv x, .val (.double t), .second, iv (1 : Int32), .unset, .unset, .unset]) rfl ?_
  refine galoadN X0 hx (hb hby dp23_23_3) rfl rfl ?_
  obtain ⟨T2, X2, e2, st2⟩ := getF X0 hx hZ hown (host := "") (Or.inl (hwk hw 29 rfl)) Via.refl e0 FS1 (g := (mkF m 4 #[rv a, iv (1 : Int32), iv x, .val (.double t), .second, iv (1 : Int32), .unset, .unset, .unset] [(.ref a)])) rfl rfl (hb hby dp23_23_4)
  refine Goes.st st2 ?_
  refine giconst X2 hx (hb hby dp23_23_7) ?_
  show Gs p e below s _ _ _ T2 m 8 #[rv a, iv (1 : Int32), iv x, .val (.double t), .second, iv (1 : Int32), .unset, .unset, .unset] [(.int (1 : Int32)), (.int (4 : Int32))]
  refine Goes.st (fun tg kg => XT.iushr X2.here hx rfl (hb hby dp23_23_8) rfl kg) ?_
  show Gs p e below s _ _ _ T2 m 9 #[rv a, iv (1 : Int32), iv x, .val (.double t), .second, iv (1 : Int32), .unset, .unset, .unset] [(.int (XT.ushr (4 : Int32) (1 : Int32)))]
  rw [show (XT.ushr (4 : Int32) (1 : Int32)) = (2 : Int32) from by decide]
  show Gs p e below s _ _ _ T2 m 9 #[rv a, iv (1 : Int32), iv x, .val (.double t), .second, iv (1 : Int32), .unset, .unset, .unset] [(.int (2 : Int32))]
  refine gistore X2 hx (hb hby dp23_23_9) trivial (l' := #[rv a, iv (1 : Int32), iv x, .val (.double t), .second, iv (1 : Int32), iv (2 : Int32), .unset, .unset]) rfl ?_
  refine giload X2 hx (hb hby dp23_23_11) rfl ?_
  refine giload X2 hx (hb hby dp23_23_13) rfl ?_
  show Gs p e below s _ _ _ T2 m 15 #[rv a, iv (1 : Int32), iv x, .val (.double t), .second, iv (1 : Int32), iv (2 : Int32), .unset, .unset] [(.int (2 : Int32)), (.int (1 : Int32))]
  refine gicmpNo X2 hx (hb hby dp23_23_15) (by decide) ?_
  show Gs p e below s _ _ _ T2 m 18 #[rv a, iv (1 : Int32), iv x, .val (.double t), .second, iv (1 : Int32), iv (2 : Int32), .unset, .unset] []
  refine giconst X2 hx (hb hby dp23_23_18) ?_
  refine giload X2 hx (hb hby dp23_23_19) rfl ?_
  show Gs p e below s _ _ _ T2 m 21 #[rv a, iv (1 : Int32), iv x, .val (.double t), .second, iv (1 : Int32), iv (2 : Int32), .unset, .unset] [(.int (1 : Int32)), (.int (2 : Int32))]
  refine gimul X2 hx (hb hby dp23_23_21) trivial ?_
  show Gs p e below s _ _ _ T2 m 22 #[rv a, iv (1 : Int32), iv x, .val (.double t), .second, iv (1 : Int32), iv (2 : Int32), .unset, .unset] [(.int ((2 : Int32) * (1 : Int32)))]
  rw [show ((2 : Int32) * (1 : Int32)) = (2 : Int32) from by decide]
  show Gs p e below s _ _ _ T2 m 22 #[rv a, iv (1 : Int32), iv x, .val (.double t), .second, iv (1 : Int32), iv (2 : Int32), .unset, .unset] [(.int (2 : Int32))]
  refine giconst X2 hx (hb hby dp23_23_22) ?_
  refine giadd X2 hx (hb hby dp23_23_23) trivial ?_
  show Gs p e below s _ _ _ T2 m 24 #[rv a, iv (1 : Int32), iv x, .val (.double t), .second, iv (1 : Int32), iv (2 : Int32), .unset, .unset] [(.int ((2 : Int32) + (1 : Int32)))]
  rw [show ((2 : Int32) + (1 : Int32)) = (3 : Int32) from by decide]
  show Gs p e below s _ _ _ T2 m 24 #[rv a, iv (1 : Int32), iv x, .val (.double t), .second, iv (1 : Int32), iv (2 : Int32), .unset, .unset] [(.int (3 : Int32))]
  refine gistore X2 hx (hb hby dp23_23_24) trivial (l' := #[rv a, iv (1 : Int32), iv x, .val (.double t), .second, iv (1 : Int32), iv (2 : Int32), iv (3 : Int32), .unset]) rfl ?_
  refine giload X2 hx (hb hby dp23_23_26) rfl ?_
  refine giconst X2 hx (hb hby dp23_23_28) ?_
  refine giadd X2 hx (hb hby dp23_23_29) trivial ?_
  show Gs p e below s _ _ _ T2 m 30 #[rv a, iv (1 : Int32), iv x, .val (.double t), .second, iv (1 : Int32), iv (2 : Int32), iv (3 : Int32), .unset] [(.int ((3 : Int32) + (1 : Int32)))]
  rw [show ((3 : Int32) + (1 : Int32)) = (4 : Int32) from by decide]
  show Gs p e below s _ _ _ T2 m 30 #[rv a, iv (1 : Int32), iv x, .val (.double t), .second, iv (1 : Int32), iv (2 : Int32), iv (3 : Int32), .unset] [(.int (4 : Int32))]
  refine gistore X2 hx (hb hby dp23_23_30) trivial (l' := #[rv a, iv (1 : Int32), iv x, .val (.double t), .second, iv (1 : Int32), iv (2 : Int32), iv (3 : Int32), iv (4 : Int32)]) rfl ?_
  refine giload X2 hx (hb hby dp23_23_32) rfl ?_
  refine galoadN X2 hx (hb hby dp23_23_34) rfl rfl ?_
  obtain ⟨T3, X3, e3, st3⟩ := getF X2 hx hZ hown (host := "") (Or.inl (hwk hw 29 rfl)) Via.refl e2 FS1 (g := (mkF m 35 #[rv a, iv (1 : Int32), iv x, .val (.double t), .second, iv (1 : Int32), iv (2 : Int32), iv (3 : Int32), iv (4 : Int32)] [(.ref a), (.int (4 : Int32))])) rfl rfl (hb hby dp23_23_35)
  refine Goes.st st3 ?_
  show Gs p e below s _ _ _ T3 m 38 #[rv a, iv (1 : Int32), iv x, .val (.double t), .second, iv (1 : Int32), iv (2 : Int32), iv (3 : Int32), iv (4 : Int32)] [(.int (4 : Int32)), (.int (4 : Int32))]
  refine gicmpYes X3 hx (pc' := 79) (hb hby dp23_23_38) (by decide) (by decide) (by decide) ?_
  show Gs p e below s _ _ _ T3 m 79 #[rv a, iv (1 : Int32), iv x, .val (.double t), .second, iv (1 : Int32), iv (2 : Int32), iv (3 : Int32), iv (4 : Int32)] []
  refine galoadN X3 hx (hb hby dp23_23_79) rfl rfl ?_
  obtain ⟨T4, X4, e4, st4⟩ := getF X3 hx hZ hown (host := "") (Or.inl (hwk hw 15 rfl)) Via.refl e3 FT1 (g := (mkF m 80 #[rv a, iv (1 : Int32), iv x, .val (.double t), .second, iv (1 : Int32), iv (2 : Int32), iv (3 : Int32), iv (4 : Int32)] [(.ref a)])) rfl rfl (hb hby dp23_23_80)
  refine Goes.st st4 ?_
  refine giload X4 hx (hb hby dp23_23_83) rfl ?_
  show Gs p e below s _ _ _ T4 m 85 #[rv a, iv (1 : Int32), iv x, .val (.double t), .second, iv (1 : Int32), iv (2 : Int32), iv (3 : Int32), iv (4 : Int32)] [(.int (3 : Int32)), (.ref aT)]
  obtain ⟨cl5, Ar5, qk5, Sz5, qz5, Ha5, Gf5⟩ := id VT1
  have in5 := inb_of (j := (3 : Int32)) Sz5 ⟨by decide, by decide⟩
  refine Goes.st (fun tg kg => X4.daload hx (j := (3 : Int32)) (v := (.double (D (3 : Int32)))) (by rw [e4]; exact Ar5.1) (State.isArrayOf_alike hZ.alike Ar5.2.1) Ar5.2.2 in5 (Ha5.at in5 (get_dls i4_3)) (g := (mkF m 85 #[rv a, iv (1 : Int32), iv x, .val (.double t), .second, iv (1 : Int32), iv (2 : Int32), iv (3 : Int32), iv (4 : Int32)] [(.int (3 : Int32)), (.ref aT)])) rfl rfl (hb hby dp23_23_85) tg kg) ?_
  refine galoadN X4 hx (hb hby dp23_23_86) rfl rfl ?_
  obtain ⟨T6, X6, e6, st6⟩ := getF X4 hx hZ hown (host := "") (Or.inl (hwk hw 12 rfl)) Via.refl e4 FI1 (g := (mkF m 87 #[rv a, iv (1 : Int32), iv x, .val (.double t), .second, iv (1 : Int32), iv (2 : Int32), iv (3 : Int32), iv (4 : Int32)] [(.ref a), (.double (D (3 : Int32)))])) rfl rfl (hb hby dp23_23_87)
  refine Goes.st st6 ?_
  refine giload X6 hx (hb hby dp23_23_90) rfl ?_
  show Gs p e below s _ _ _ T6 m 92 #[rv a, iv (1 : Int32), iv x, .val (.double t), .second, iv (1 : Int32), iv (2 : Int32), iv (3 : Int32), iv (4 : Int32)] [(.int (3 : Int32)), (.ref aI), (.double (D (3 : Int32)))]
  obtain ⟨cl7, Ar7, qk7, Sz7, qz7, Ha7, Gf7⟩ := id VI1
  have in7 := inb_of (j := (3 : Int32)) Sz7 ⟨by decide, by decide⟩
  refine Goes.st (fun tg kg => X6.iaload hx (j := (3 : Int32)) (v := (.int (I (3 : Int32)))) (by rw [e6]; exact Ar7.1) (State.isArrayOf_alike hZ.alike Ar7.2.1) Ar7.2.2 in7 (Ha7.at in7 (get_lst i4_3)) (g := (mkF m 92 #[rv a, iv (1 : Int32), iv x, .val (.double t), .second, iv (1 : Int32), iv (2 : Int32), iv (3 : Int32), iv (4 : Int32)] [(.int (3 : Int32)), (.ref aI), (.double (D (3 : Int32)))])) rfl rfl (hb hby dp23_23_92) tg kg) ?_
  refine gdloadN X6 hx (hb hby dp23_23_93) rfl ?_
  refine giloadN X6 hx (hb hby dp23_23_94) rfl ?_
  obtain ⟨_, _, ⟨T8, L8, k8, n8⟩, -, X8, ⟨Lc8, hQ8, l8, y8, z8⟩, st8⟩ := Jvm.LawKit.callS X6 hx (y := mN6) hown (mvT hZ (hwk hw 69 rfl)) (mvT hZ (hwk hw 70 rfl)) (mvT hZ (hwk hw 2 rfl)) (mvT hZ (hwk hw 71 rfl)) (by decide) (backOf (W := 0) (rmBe l Z a0 hw [] (D (3 : Int32)) (I (3 : Int32)) t x h0 n0 Z0 ) hZ (hwk hw 71 rfl) (hwk hw 2 rfl) (by decide) (by decide)) (g := (mkF m 95 #[rv a, iv (1 : Int32), iv x, .val (.double t), .second, iv (1 : Int32), iv (2 : Int32), iv (3 : Int32), iv (4 : Int32)] [(.int x), (.double t), (.int (I (3 : Int32))), (.double (D (3 : Int32)))])) rfl (by rw [hml]; rfl) (argsL := [(.double (D (3 : Int32))), (.int (I (3 : Int32))), (.double t), (.int x)]) (rest := []) (lenOf pd__DIDI_Z_1212 rfl) rfl (by show 2 * 0 + _ ≤ _; exact Nat.le_of_eq rfl) (hb hby dp23_23_95) (fun _ _ => ⟨rfl, e6, (by decide : 0 + 0 ≤ 0), (by decide : 0 + 0 ≤ 0)⟩)
  dsimp only [Pt.U, Pt.locs, Pt.cells, Pt.slots] at X8 l8 y8 z8 st8 hQ8
  subst l8 y8 z8
  obtain ⟨rfl, N8q, eh8⟩ := hQ8
  have N8 := Fr.app N0 N8q
  refine Goes.st st8 ?_
  show Gs p e below s _ _ _ T8 m 98 #[rv a, iv (1 : Int32), iv x, .val (.double t), .second, iv (1 : Int32), iv (2 : Int32), iv (3 : Int32), iv (4 : Int32)] [(.int (bef (D (3 : Int32)) (I (3 : Int32)) t x))]
  by_cases c9 : (bef (D (3 : Int32)) (I (3 : Int32)) t x) = (0 : Int32)
  · refine gifNo X8 hx (hb hby dp23_23_98) ((if0 _ _).trans (teq c9).2) ?_
    show Gs p e below s _ _ _ T8 m 101 #[rv a, iv (1 : Int32), iv x, .val (.double t), .second, iv (1 : Int32), iv (2 : Int32), iv (3 : Int32), iv (4 : Int32)] []
    refine ggoto X8 hx (pc' := 131) (hb hby dp23_23_101) (by decide) (by decide) ?_
    show Gs p e below s _ _ _ T8 m 131 #[rv a, iv (1 : Int32), iv x, .val (.double t), .second, iv (1 : Int32), iv (2 : Int32), iv (3 : Int32), iv (4 : Int32)] []
    refine galoadN X8 hx (hb hby dp23_23_131) rfl rfl ?_
    refine giload X8 hx (hb hby dp23_23_132) rfl ?_
    refine giloadN X8 hx (hb hby dp23_23_134) rfl ?_
    refine gdloadN X8 hx (hb hby dp23_23_135) rfl ?_
    have HR10 : HR Z h0 a aI aT aP kI kT kP I D P (4 : Int32) o := ⟨E1, FI1, FT1, FP1, FS1, FO1, VI1, VT1, VP1⟩
    obtain ⟨cc11, qa11, qb11⟩ := Exa.cell E1
    obtain ⟨_, _, ⟨T11, L11, k11, n11⟩, -, X11, ⟨Lc11, hQ11, l11, y11, z11⟩, st11⟩ := X8.privateBack hx (y := mN5) hown (mvT hZ (hwk hw 65 rfl)) (mvT hZ (hwk hw 66 rfl)) (selP (y := mN5) (as := #[]) (mvT hZ (hwk hw 1 rfl)) (mvP hZ (hwk hw 67 rfl)) (mvT hZ (hwk hw 66 rfl)) (by decide)) (Cond.privateMethod_at (mvP hZ (hwk hw 67 rfl) (args := #[]))) (mvT hZ (hwk hw 68 rfl)) (by decide) (backOf (W := 0) (rmPu l Z a0 hw [] a aI aT aP kI kT kP I D P (4 : Int32) o (1 : Int32) x t h0 n0 Z0 hB HR10 i4_1 hx4) hZ (hwk hw 68 rfl) (hwk hw 2 rfl) (by decide) (by decide)) (g := (mkF m 136 #[rv a, iv (1 : Int32), iv x, .val (.double t), .second, iv (1 : Int32), iv (2 : Int32), iv (3 : Int32), iv (4 : Int32)] [(.double t), (.int x), (.int (1 : Int32)), (.ref a)])) rfl (by rw [hml]; rfl) (Steps.refl _) (a := a) (by rw [eh8]; exact qa11) qb11 (argsL := [(.int (1 : Int32)), (.int x), (.double t)]) (rest := []) (lenOf pd__IID_V_e64 rfl) rfl (by show 2 * 0 + _ ≤ _; exact Nat.le_of_eq rfl) (hb hby dp23_23_136) (fun _ _ => ⟨rfl, eh8, (by decide : 0 + 0 ≤ 0), (by decide : 0 + 0 ≤ 0)⟩)
    dsimp only [Pt.U, Pt.locs, Pt.cells, Pt.slots] at X11 l11 y11 z11 st11 hQ11
    subst l11 y11 z11
    obtain ⟨rfl, N11q, K11, HQ11⟩ := hQ11
    have KK12 := K0.trans K11 (allS (Or.inl (List.mem_of_getElem? (i := 0) rfl)) (allS (Or.inl (List.mem_of_getElem? (i := 1) rfl)) (allS (Or.inl (List.mem_of_getElem? (i := 2) rfl)) (allS (Or.inl (List.mem_of_getElem? (i := 3) rfl)) all0))))
    have Z11 : n0 ≤ T11.heap.size := Nat.le_trans Z0 K11.1
    obtain ⟨E13, FI13, FT13, FP13, FS13, FO13, VI13, VT13, VP13⟩ := id HQ11
    have inv14 := hol_end hH i4_1 (by decide) hx4 hS
    have N11 := Fr.app N8 N11q
    refine Goes.sts st11 ?_
    show Gs p e below s _ _ _ T11 m 139 #[rv a, iv (1 : Int32), iv x, .val (.double t), .second, iv (1 : Int32), iv (2 : Int32), iv (3 : Int32), iv (4 : Int32)] []
    have HR15 : HR Z T11.heap a aI aT aP kI kT kP (upd I (1 : Int32) x) (upd D (1 : Int32) t) (upd P x (1 : Int32)) (4 : Int32) o := ⟨E13, FI13, FT13, FP13, FS13, FO13, VI13, VT13, VP13⟩
    refine Goes.retV X11 hx hlk hret (hb hby dp23_23_139) ?_ (by decide) (by decide)
    exact ⟨(upd I (1 : Int32) x), (upd D (1 : Int32) t), (upd P x (1 : Int32)), rfl, N11, KK12, HR15, inv14⟩
  · refine gifYes X8 hx (pc' := 104) (hb hby dp23_23_98) ((if0 _ _).trans (feq c9).2) (by decide) (by decide) ?_
    show Gs p e below s _ _ _ T8 m 104 #[rv a, iv (1 : Int32), iv x, .val (.double t), .second, iv (1 : Int32), iv (2 : Int32), iv (3 : Int32), iv (4 : Int32)] []
    refine galoadN X8 hx (hb hby dp23_23_104) rfl rfl ?_
    refine giload X8 hx (hb hby dp23_23_105) rfl ?_
    refine galoadN X8 hx (hb hby dp23_23_107) rfl rfl ?_
    obtain ⟨T16, X16, e16, st16⟩ := getF X8 hx hZ hown (host := "") (Or.inl (hwk hw 12 rfl)) Via.refl eh8 FI1 (g := (mkF m 108 #[rv a, iv (1 : Int32), iv x, .val (.double t), .second, iv (1 : Int32), iv (2 : Int32), iv (3 : Int32), iv (4 : Int32)] [(.ref a), (.int (1 : Int32)), (.ref a)])) rfl rfl (hb hby dp23_23_108)
    refine Goes.st st16 ?_
    refine giload X16 hx (hb hby dp23_23_111) rfl ?_
    show Gs p e below s _ _ _ T16 m 113 #[rv a, iv (1 : Int32), iv x, .val (.double t), .second, iv (1 : Int32), iv (2 : Int32), iv (3 : Int32), iv (4 : Int32)] [(.int (3 : Int32)), (.ref aI), (.int (1 : Int32)), (.ref a)]
    obtain ⟨cl17, Ar17, qk17, Sz17, qz17, Ha17, Gf17⟩ := id VI1
    have in17 := inb_of (j := (3 : Int32)) Sz17 ⟨by decide, by decide⟩
    refine Goes.st (fun tg kg => X16.iaload hx (j := (3 : Int32)) (v := (.int (I (3 : Int32)))) (by rw [e16]; exact Ar17.1) (State.isArrayOf_alike hZ.alike Ar17.2.1) Ar17.2.2 in17 (Ha17.at in17 (get_lst i4_3)) (g := (mkF m 113 #[rv a, iv (1 : Int32), iv x, .val (.double t), .second, iv (1 : Int32), iv (2 : Int32), iv (3 : Int32), iv (4 : Int32)] [(.int (3 : Int32)), (.ref aI), (.int (1 : Int32)), (.ref a)])) rfl rfl (hb hby dp23_23_113) tg kg) ?_
    refine galoadN X16 hx (hb hby dp23_23_114) rfl rfl ?_
    obtain ⟨T18, X18, e18, st18⟩ := getF X16 hx hZ hown (host := "") (Or.inl (hwk hw 15 rfl)) Via.refl e16 FT1 (g := (mkF m 115 #[rv a, iv (1 : Int32), iv x, .val (.double t), .second, iv (1 : Int32), iv (2 : Int32), iv (3 : Int32), iv (4 : Int32)] [(.ref a), (.int (I (3 : Int32))), (.int (1 : Int32)), (.ref a)])) rfl rfl (hb hby dp23_23_115)
    refine Goes.st st18 ?_
    refine giload X18 hx (hb hby dp23_23_118) rfl ?_
    show Gs p e below s _ _ _ T18 m 120 #[rv a, iv (1 : Int32), iv x, .val (.double t), .second, iv (1 : Int32), iv (2 : Int32), iv (3 : Int32), iv (4 : Int32)] [(.int (3 : Int32)), (.ref aT), (.int (I (3 : Int32))), (.int (1 : Int32)), (.ref a)]
    obtain ⟨cl19, Ar19, qk19, Sz19, qz19, Ha19, Gf19⟩ := id VT1
    have in19 := inb_of (j := (3 : Int32)) Sz19 ⟨by decide, by decide⟩
    refine Goes.st (fun tg kg => X18.daload hx (j := (3 : Int32)) (v := (.double (D (3 : Int32)))) (by rw [e18]; exact Ar19.1) (State.isArrayOf_alike hZ.alike Ar19.2.1) Ar19.2.2 in19 (Ha19.at in19 (get_dls i4_3)) (g := (mkF m 120 #[rv a, iv (1 : Int32), iv x, .val (.double t), .second, iv (1 : Int32), iv (2 : Int32), iv (3 : Int32), iv (4 : Int32)] [(.int (3 : Int32)), (.ref aT), (.int (I (3 : Int32))), (.int (1 : Int32)), (.ref a)])) rfl rfl (hb hby dp23_23_120) tg kg) ?_
    have HR20 : HR Z h0 a aI aT aP kI kT kP I D P (4 : Int32) o := ⟨E1, FI1, FT1, FP1, FS1, FO1, VI1, VT1, VP1⟩
    obtain ⟨cc21, qa21, qb21⟩ := Exa.cell E1
    obtain ⟨_, _, ⟨T21, L21, k21, n21⟩, -, X21, ⟨Lc21, hQ21, l21, y21, z21⟩, st21⟩ := X18.privateBack hx (y := mN5) hown (mvT hZ (hwk hw 65 rfl)) (mvT hZ (hwk hw 66 rfl)) (selP (y := mN5) (as := #[]) (mvT hZ (hwk hw 1 rfl)) (mvP hZ (hwk hw 67 rfl)) (mvT hZ (hwk hw 66 rfl)) (by decide)) (Cond.privateMethod_at (mvP hZ (hwk hw 67 rfl) (args := #[]))) (mvT hZ (hwk hw 68 rfl)) (by decide) (backOf (W := 0) (rmPu l Z a0 hw [] a aI aT aP kI kT kP I D P (4 : Int32) o (1 : Int32) (I (3 : Int32)) (D (3 : Int32)) h0 n0 Z0 hB HR20 i4_1 (hH.1 _ i4_3)) hZ (hwk hw 68 rfl) (hwk hw 2 rfl) (by decide) (by decide)) (g := (mkF m 121 #[rv a, iv (1 : Int32), iv x, .val (.double t), .second, iv (1 : Int32), iv (2 : Int32), iv (3 : Int32), iv (4 : Int32)] [(.double (D (3 : Int32))), (.int (I (3 : Int32))), (.int (1 : Int32)), (.ref a)])) rfl (by rw [hml]; rfl) (Steps.refl _) (a := a) (by rw [e18]; exact qa21) qb21 (argsL := [(.int (1 : Int32)), (.int (I (3 : Int32))), (.double (D (3 : Int32)))]) (rest := []) (lenOf pd__IID_V_e64 rfl) rfl (by show 2 * 0 + _ ≤ _; exact Nat.le_of_eq rfl) (hb hby dp23_23_121) (fun _ _ => ⟨rfl, e18, (by decide : 0 + 0 ≤ 0), (by decide : 0 + 0 ≤ 0)⟩)
    dsimp only [Pt.U, Pt.locs, Pt.cells, Pt.slots] at X21 l21 y21 z21 st21 hQ21
    subst l21 y21 z21
    obtain ⟨rfl, N21q, K21, HQ21⟩ := hQ21
    have KK22 := K0.trans K21 (allS (Or.inl (List.mem_of_getElem? (i := 0) rfl)) (allS (Or.inl (List.mem_of_getElem? (i := 1) rfl)) (allS (Or.inl (List.mem_of_getElem? (i := 2) rfl)) (allS (Or.inl (List.mem_of_getElem? (i := 3) rfl)) all0))))
    have Z21 : n0 ≤ T21.heap.size := Nat.le_trans Z0 K21.1
    obtain ⟨E23, FI23, FT23, FP23, FS23, FO23, VI23, VT23, VP23⟩ := id HQ21
    have hol24 := hol_move hH i4_3 (by decide) (by decide) i4_1 (by decide)
    have N21 := Fr.app N8 N21q
    refine Goes.sts st21 ?_
    show Gs p e below s _ _ _ T21 m 124 #[rv a, iv (1 : Int32), iv x, .val (.double t), .second, iv (1 : Int32), iv (2 : Int32), iv (3 : Int32), iv (4 : Int32)] []
    refine giload X21 hx (hb hby dp23_23_124) rfl ?_
    refine gistore X21 hx (hb hby dp23_23_126) trivial (l' := #[rv a, iv (1 : Int32), iv x, .val (.double t), .second, iv (3 : Int32), iv (2 : Int32), iv (3 : Int32), iv (4 : Int32)]) rfl ?_
    show Gs p e below s _ _ _ T21 m 128 #[rv a, iv (1 : Int32), iv x, .val (.double t), .second, iv (3 : Int32), iv (2 : Int32), iv (3 : Int32), iv (4 : Int32)] []
    refine ggoto X21 hx (pc' := 11) (hb hby dp23_23_128) (by decide) (by decide) ?_
    show Gs p e below s _ _ _ T21 m 11 #[rv a, iv (1 : Int32), iv x, .val (.double t), .second, iv (3 : Int32), iv (2 : Int32), iv (3 : Int32), iv (4 : Int32)] []
    refine giload X21 hx (hb hby dp23_23_11) rfl ?_
    refine giload X21 hx (hb hby dp23_23_13) rfl ?_
    show Gs p e below s _ _ _ T21 m 15 #[rv a, iv (1 : Int32), iv x, .val (.double t), .second, iv (3 : Int32), iv (2 : Int32), iv (3 : Int32), iv (4 : Int32)] [(.int (2 : Int32)), (.int (3 : Int32))]
    refine gicmpYes X21 hx (pc' := 131) (hb hby dp23_23_15) (by decide) (by decide) (by decide) ?_
    show Gs p e below s _ _ _ T21 m 131 #[rv a, iv (1 : Int32), iv x, .val (.double t), .second, iv (3 : Int32), iv (2 : Int32), iv (3 : Int32), iv (4 : Int32)] []
    refine galoadN X21 hx (hb hby dp23_23_131) rfl rfl ?_
    refine giload X21 hx (hb hby dp23_23_132) rfl ?_
    refine giloadN X21 hx (hb hby dp23_23_134) rfl ?_
    refine gdloadN X21 hx (hb hby dp23_23_135) rfl ?_
    have HR25 : HR Z T21.heap a aI aT aP kI kT kP (upd I (1 : Int32) (I (3 : Int32))) (upd D (1 : Int32) (D (3 : Int32))) (upd P (I (3 : Int32)) (1 : Int32)) (4 : Int32) o := ⟨E23, FI23, FT23, FP23, FS23, FO23, VI23, VT23, VP23⟩
    obtain ⟨cc26, qa26, qb26⟩ := Exa.cell E23
    obtain ⟨_, _, ⟨T26, L26, k26, n26⟩, -, X26, ⟨Lc26, hQ26, l26, y26, z26⟩, st26⟩ := X21.privateBack hx (y := mN5) hown (mvT hZ (hwk hw 65 rfl)) (mvT hZ (hwk hw 66 rfl)) (selP (y := mN5) (as := #[]) (mvT hZ (hwk hw 1 rfl)) (mvP hZ (hwk hw 67 rfl)) (mvT hZ (hwk hw 66 rfl)) (by decide)) (Cond.privateMethod_at (mvP hZ (hwk hw 67 rfl) (args := #[]))) (mvT hZ (hwk hw 68 rfl)) (by decide) (backOf (W := 0) (rmPu l Z a0 hw [] a aI aT aP kI kT kP (upd I (1 : Int32) (I (3 : Int32))) (upd D (1 : Int32) (D (3 : Int32))) (upd P (I (3 : Int32)) (1 : Int32)) (4 : Int32) o (3 : Int32) x t T21.heap n0 Z21 hB HR25 i4_3 hx4) hZ (hwk hw 68 rfl) (hwk hw 2 rfl) (by decide) (by decide)) (g := (mkF m 136 #[rv a, iv (1 : Int32), iv x, .val (.double t), .second, iv (3 : Int32), iv (2 : Int32), iv (3 : Int32), iv (4 : Int32)] [(.double t), (.int x), (.int (3 : Int32)), (.ref a)])) rfl (by rw [hml]; rfl) (Steps.refl _) (a := a) qa26 qb26 (argsL := [(.int (3 : Int32)), (.int x), (.double t)]) (rest := []) (lenOf pd__IID_V_e64 rfl) rfl (by show 2 * 0 + _ ≤ _; exact Nat.le_of_eq rfl) (hb hby dp23_23_136) (fun _ _ => ⟨rfl, rfl, (by decide : 0 + 0 ≤ 0), (by decide : 0 + 0 ≤ 0)⟩)
    dsimp only [Pt.U, Pt.locs, Pt.cells, Pt.slots] at X26 l26 y26 z26 st26 hQ26
    subst l26 y26 z26
    obtain ⟨rfl, N26q, K26, HQ26⟩ := hQ26
    have KK27 := KK22.trans K26 (allS (Or.inl (List.mem_of_getElem? (i := 0) rfl)) (allS (Or.inl (List.mem_of_getElem? (i := 1) rfl)) (allS (Or.inl (List.mem_of_getElem? (i := 2) rfl)) (allS (Or.inl (List.mem_of_getElem? (i := 3) rfl)) all0))))
    have Z26 : n0 ≤ T26.heap.size := Nat.le_trans Z21 K26.1
    obtain ⟨E28, FI28, FT28, FP28, FS28, FO28, VI28, VT28, VP28⟩ := id HQ26
    have inv29 := hol_end hol24 i4_3 (by decide) hx4 hS
    have N26 := Fr.app N21 N26q
    refine Goes.sts st26 ?_
    show Gs p e below s _ _ _ T26 m 139 #[rv a, iv (1 : Int32), iv x, .val (.double t), .second, iv (3 : Int32), iv (2 : Int32), iv (3 : Int32), iv (4 : Int32)] []
    have HR30 : HR Z T26.heap a aI aT aP kI kT kP (upd (upd I (1 : Int32) (I (3 : Int32))) (3 : Int32) x) (upd (upd D (1 : Int32) (D (3 : Int32))) (3 : Int32) t) (upd (upd P (I (3 : Int32)) (1 : Int32)) x (3 : Int32)) (4 : Int32) o := ⟨E28, FI28, FT28, FP28, FS28, FO28, VI28, VT28, VP28⟩
    refine Goes.retV X26 hx hlk hret (hb hby dp23_23_139) ?_ (by decide) (by decide)
    exact ⟨(upd (upd I (1 : Int32) (I (3 : Int32))) (3 : Int32) x), (upd (upd D (1 : Int32) (D (3 : Int32))) (3 : Int32) t), (upd (upd P (I (3 : Int32)) (1 : Int32)) x (3 : Int32)), rfl, N26, KK27, HR30, inv29⟩
theorem dp23_11_0 : decode prog_23_method_11_code 0 = .ok (.aload_n 0, 1) := by decide +kernel
theorem dp23_11_1 : decode prog_23_method_11_code 1 = .ok (.iload_n 1, 1) := by decide +kernel
theorem dp23_11_2 : decode prog_23_method_11_code 2 = .ok (.dload_n 2, 1) := by decide +kernel
theorem dp23_11_3 : decode prog_23_method_11_code 3 = .ok (.invokevirtual 56, 3) := by decide +kernel
theorem dp23_11_6 : decode prog_23_method_11_code 6 = .ok (.aload_n 0, 1) := by decide +kernel
theorem dp23_11_7 : decode prog_23_method_11_code 7 = .ok (.dup, 1) := by decide +kernel
theorem dp23_11_8 : decode prog_23_method_11_code 8 = .ok (.getfield 30, 3) := by decide +kernel
theorem dp23_11_11 : decode prog_23_method_11_code 11 = .ok (.dup_x1, 1) := by decide +kernel
theorem dp23_11_12 : decode prog_23_method_11_code 12 = .ok (.iconst 1, 1) := by decide +kernel
theorem dp23_11_13 : decode prog_23_method_11_code 13 = .ok (.iadd, 1) := by decide +kernel
theorem dp23_11_14 : decode prog_23_method_11_code 14 = .ok (.putfield 30, 3) := by decide +kernel
theorem dp23_11_17 : decode prog_23_method_11_code 17 = .ok (.istore 4, 2) := by decide +kernel
theorem dp23_11_19 : decode prog_23_method_11_code 19 = .ok (.aload_n 0, 1) := by decide +kernel
theorem dp23_11_20 : decode prog_23_method_11_code 20 = .ok (.getfield 7, 3) := by decide +kernel
theorem dp23_11_23 : decode prog_23_method_11_code 23 = .ok (.ifCond .eq 14, 3) := by decide +kernel
theorem dp23_11_26 : decode prog_23_method_11_code 26 = .ok (.aload_n 0, 1) := by decide +kernel
theorem dp23_11_27 : decode prog_23_method_11_code 27 = .ok (.iload 4, 2) := by decide +kernel
theorem dp23_11_29 : decode prog_23_method_11_code 29 = .ok (.iload_n 1, 1) := by decide +kernel
theorem dp23_11_30 : decode prog_23_method_11_code 30 = .ok (.dload_n 2, 1) := by decide +kernel
theorem dp23_11_31 : decode prog_23_method_11_code 31 = .ok (.invokevirtual 60, 3) := by decide +kernel
theorem dp23_11_34 : decode prog_23_method_11_code 34 = .ok (.goto 11, 3) := by decide +kernel
theorem dp23_11_37 : decode prog_23_method_11_code 37 = .ok (.aload_n 0, 1) := by decide +kernel
theorem dp23_11_38 : decode prog_23_method_11_code 38 = .ok (.iload 4, 2) := by decide +kernel
theorem dp23_11_40 : decode prog_23_method_11_code 40 = .ok (.iload_n 1, 1) := by decide +kernel
theorem dp23_11_41 : decode prog_23_method_11_code 41 = .ok (.dload_n 2, 1) := by decide +kernel
theorem dp23_11_42 : decode prog_23_method_11_code 42 = .ok (.invokevirtual 64, 3) := by decide +kernel
theorem dp23_11_45 : decode prog_23_method_11_code 45 = .ok (.return_, 1) := by decide +kernel
theorem pd__ID_V_b10 : parseMethodDescriptor "(ID)V" = some ⟨[.int, .double], none⟩ := by decide +kernel
theorem ef_A0 (m : MethodId) (x0 : Addr) (x1 : Int32) (x2 : UInt64) : entryFrame m #[(.ref x0), (.int x1), (.double x2)] 5 = mkF m 0 #[rv x0, iv x1, .val (.double x2), .second, .unset] [] := by first | (simp [entryFrame, mkF, argsToLocals, Value.category]; done) | rfl
def QA0 (Z : State) (a aI aT aP : Addr) (kI kT kP : ClassId) (I : Int32 → Int32) (D : Int32 → UInt64) (P : Int32 → Int32) (o x : Int32) (t : UInt64) (S : Int32 → Prop) (h0 : Heap) (n0 : Nat) (v : Option Value) (h : Heap) (L : List Loc) : Prop := ∃ (I1 : Int32 → Int32) (D1 : Int32 → UInt64) (P1 : Int32 → Int32) (o1 : Int32), v = none ∧ Fr n0 L ∧ Keep h0 h [a, aI, aT, aP] ∧ HR Z h a aI aT aP kI kT kP I1 D1 P1 (1 : Int32) o1 ∧ Inv (1 : Int32) (fun i => S i ∨ i = x) I1 P1
set_option maxRecDepth 65536 in
set_option maxHeartbeats 40000000 in
theorem rmA0 (l : Launch) (Z : State) (a0 : Array Value) (hw : ∀ d ∈ tables_1, d.before a0 Z = true) (ws : List Jvm.Cond) (a aI aT aP : Addr) (kI kT kP : ClassId) (I : Int32 → Int32) (D : Int32 → UInt64) (P : Int32 → Int32) (o x : Int32) (t : UInt64) (S : Int32 → Prop) (h0 : Heap) (n0 : Nat) (Z0 : n0 ≤ h0.size) (hB : HB n0 a aI aT aP) (hR : HR Z h0 a aI aT aP kI kT kP I D P (0 : Int32) o) (hx4 : In4 x) (hI : Inv (0 : Int32) S I P) (hS : ¬ S x) (ht : NoNaN64 t) :
    MetFree l mN9 (head1 (Jvm.Cond.code mN9 prog_23_method_11_code 5 none :: ws) ({ frames := 3, cells := 0, slots := 0, locals := 41 } : Room)) (fun aa U => aa = #[(.ref a), (.int x), (.double t)] ∧ Z.Warmed39 U.vm ∧ U.heap = h0) (fun _ _ _ _ _ => True) (fun _ u1_ o_ u2_ => ∃ v_ l_, o_ = .returned v_ ∧ QA0 Z a aI aT aP kI kT kP I D P o x t S h0 n0 v_ u2_.heap l_ ∧ FrameEnd u1_ o_ u2_ l_ ({ frames := 3, cells := 0, slots := 0, locals := 41 } : Room).cells ({ frames := 3, cells := 0, slots := 0, locals := 41 } : Room).slots) := by
  refine MetFree.of_bodySF (plainFor_of_name pn_com_example_redoubt_redoubt_engine_IndexHeap) hisR ?_
  intro p e s m args below meth c s₁ Bd hml0 hP hK
  obtain ⟨rfl, hZ, hh⟩ := hP
  have hx := Bd.exec
  have hby := Bd.bytes
  have hlk := BodyLoose.notSynchronized Bd
  have hret := Bd.returns
  have hml : c.maxLocals = 5 := hml0
  have hown : s.vm.findClass "com/example/redoubt/redoubt/engine/IndexHeap" = some m.cls := findClass_of_methodNamed Bd.named
  have hnm := (name_of_methodNamed Bd.named Bd.method).1
  have X0 : Stand p l e ({ frames := 3, cells := 0, slots := 0, locals := 41 } : Room) s m #[(.ref a), (.int x), (.double t)] below meth c s₁ [] 0 0 := Stand.of_body Bd
  have e0 : s₁.heap = h0 := by rw [← hh, Bd.state]; rfl
  have N0 := Fr.nil n0
  refine Goes.st (s := s) (Q := QA0 Z a aI aT aP kI kT kP I D P o x t S h0 n0) (cs := ({ frames := 3, cells := 0, slots := 0, locals := 41 } : Room).cells) (ss := ({ frames := 3, cells := 0, slots := 0, locals := 41 } : Room).slots) (fun tg kg => castTop (ef_A0 m a x t) kg) ?_
  obtain ⟨la, lI, lT, lP, naI, naT, naP, nIT, nIP, nTP⟩ := id hB
  obtain ⟨E1, FI1, FT1, FP1, FS1, FO1, VI1, VT1, VP1⟩ := id hR
  have K0 : Keep h0 h0 [a, aI, aT, aP] := Keep.refl _ _
  have hol0 : Hol (1 : Int32) (0 : Int32) x (fun i => S i ∨ i = x) I P := (hol_new (n := (0 : Int32)) (n' := (1 : Int32)) hI (fun j hj h => by rcases hj with rfl | rfl | rfl | rfl <;> revert h <;> decide) (fun j hj h h2 => by rcases hj with rfl | rfl | rfl | rfl <;> revert h h2 <;> decide) (fun j h e => by subst e; revert h; decide))
  show Gs p e below s _ _ _ s₁ m 0 #[rv a, iv x, .val (.double t), .second, .unset] []
  refine galoadN X0 hx (hb hby dp23_11_0) rfl rfl ?_
  refine giloadN X0 hx (hb hby dp23_11_1) rfl ?_
  refine gdloadN X0 hx (hb hby dp23_11_2) rfl ?_
  obtain ⟨cc2, qa2, qb2⟩ := Exa.cell E1
  obtain ⟨_, _, ⟨T2, L2, k2, n2⟩, -, X2, ⟨Lc2, hQ2, l2, y2, z2⟩, st2⟩ := X0.privateBack hx (y := mN4) hown (mvT hZ (hwk hw 50 rfl)) (mvT hZ (hwk hw 51 rfl)) (selP (y := mN4) (as := #[]) (mvT hZ (hwk hw 1 rfl)) (mvP hZ (hwk hw 52 rfl)) (mvT hZ (hwk hw 51 rfl)) (by decide)) (Cond.privateMethod_at (mvP hZ (hwk hw 52 rfl) (args := #[]))) (mvT hZ (hwk hw 53 rfl)) (by decide) (backOf (W := 0) (rmRn l Z a0 hw [] a x t aP kP P h0 n0 Z0 FP1 VP1 hx4 (inv_fresh hI hx4 hS) ht) hZ (hwk hw 53 rfl) (hwk hw 2 rfl) (by decide) (by decide)) (g := (mkF m 3 #[rv a, iv x, .val (.double t), .second, .unset] [(.double t), (.int x), (.ref a)])) rfl (by rw [hml]; rfl) (Steps.refl _) (a := a) (by rw [e0]; exact qa2) qb2 (argsL := [(.int x), (.double t)]) (rest := []) (lenOf pd__ID_V_b10 rfl) rfl (by show 2 * 0 + _ ≤ _; exact Nat.le_of_eq rfl) (hb hby dp23_11_3) (fun _ _ => ⟨rfl, e0, (by decide : 0 + 0 ≤ 0), (by decide : 0 + 0 ≤ 0)⟩)
  dsimp only [Pt.U, Pt.locs, Pt.cells, Pt.slots] at X2 l2 y2 z2 st2 hQ2
  subst l2 y2 z2
  obtain ⟨rfl, N2q, eh2⟩ := hQ2
  have N2 := Fr.app N0 N2q
  refine Goes.sts st2 ?_
  show Gs p e below s _ _ _ T2 m 6 #[rv a, iv x, .val (.double t), .second, .unset] []
  refine galoadN X2 hx (hb hby dp23_11_6) rfl rfl ?_
  refine gdup X2 hx (hb hby dp23_11_7) trivial rfl ?_
  obtain ⟨T3, X3, e3, st3⟩ := getF X2 hx hZ hown (host := "") (Or.inl (hwk hw 29 rfl)) Via.refl eh2 FS1 (g := (mkF m 8 #[rv a, iv x, .val (.double t), .second, .unset] [(.ref a), (.ref a)])) rfl rfl (hb hby dp23_11_8)
  refine Goes.st st3 ?_
  show Gs p e below s _ _ _ T3 m 11 #[rv a, iv x, .val (.double t), .second, .unset] [(.int (0 : Int32)), (.ref a)]
  refine Goes.st (fun tg kg => XT.dupX1 X3.here hx rfl (hb hby dp23_11_11) rfl rfl rfl kg) ?_
  show Gs p e below s _ _ _ T3 m 12 #[rv a, iv x, .val (.double t), .second, .unset] [(.int (0 : Int32)), (.ref a), (.int (0 : Int32))]
  refine giconst X3 hx (hb hby dp23_11_12) ?_
  refine giadd X3 hx (hb hby dp23_11_13) trivial ?_
  show Gs p e below s _ _ _ T3 m 14 #[rv a, iv x, .val (.double t), .second, .unset] [(.int ((0 : Int32) + (1 : Int32))), (.ref a), (.int (0 : Int32))]
  rw [show ((0 : Int32) + (1 : Int32)) = (1 : Int32) from by decide]
  show Gs p e below s _ _ _ T3 m 14 #[rv a, iv x, .val (.double t), .second, .unset] [(.int (1 : Int32)), (.ref a), (.int (0 : Int32))]
  obtain ⟨T4, h4, X4, e4, W4, st4⟩ := putF X3 hx hZ hown (host := "") (Or.inl (hwk hw 29 rfl)) Via.refl e3 FS1 E1 (Or.inl (hwk hw 30 rfl)) (hwk hw 1 rfl) (ty := .int) (by decide) rfl rfl (g := (mkF m 14 #[rv a, iv x, .val (.double t), .second, .unset] [(.int (1 : Int32)), (.ref a), (.int (0 : Int32))])) rfl rfl (hb hby dp23_11_14)
  have N4 := Fr.snoc X4 N2 la
  have G4 := FS1.same W4
  refine Goes.st st4 ?_
  have KK5 := K0.wr W4 (Or.inl (List.mem_of_getElem? (i := 0) rfl))
  have Z4 : n0 ≤ h4.size := by have := W4.size; have := Z0; omega
  show Gs p e below s _ _ _ T4 m 17 #[rv a, iv x, .val (.double t), .second, .unset] [(.int (0 : Int32))]
  refine gistore X4 hx (hb hby dp23_11_17) trivial (l' := #[rv a, iv x, .val (.double t), .second, iv (0 : Int32)]) rfl ?_
  refine galoadN X4 hx (hb hby dp23_11_19) rfl rfl ?_
  have f7 := (FO1.other W4 (Or.inr (slot_ne (Or.inl (hwk hw 10 rfl)) (Or.inl (hwk hw 30 rfl)) (by decide) (t := .boolean) (t' := .int) (by decide) (by decide))))
  obtain ⟨T6, X6, e6, st6⟩ := getF X4 hx hZ hown (host := "") (Or.inl (hwk hw 9 rfl)) Via.refl e4 f7 (g := (mkF m 20 #[rv a, iv x, .val (.double t), .second, iv (0 : Int32)] [(.ref a)])) rfl rfl (hb hby dp23_11_20)
  refine Goes.st st6 ?_
  show Gs p e below s _ _ _ T6 m 23 #[rv a, iv x, .val (.double t), .second, iv (0 : Int32)] [(.int o)]
  by_cases c8 : o = (0 : Int32)
  · refine gifYes X6 hx (pc' := 37) (hb hby dp23_11_23) ((if0 _ _).trans (teq c8).1) (by decide) (by decide) ?_
    show Gs p e below s _ _ _ T6 m 37 #[rv a, iv x, .val (.double t), .second, iv (0 : Int32)] []
    refine galoadN X6 hx (hb hby dp23_11_37) rfl rfl ?_
    refine giload X6 hx (hb hby dp23_11_38) rfl ?_
    refine giloadN X6 hx (hb hby dp23_11_40) rfl ?_
    refine gdloadN X6 hx (hb hby dp23_11_41) rfl ?_
    have f9 := (E1.wr W4)
    have f10 := (FI1.other W4 (Or.inr (slot_ne (Or.inr (hwk hw 13 rfl)) (Or.inl (hwk hw 30 rfl)) (by decide) (t := (.array .int)) (t' := .int) (by decide) (by decide))))
    have f11 := (FT1.other W4 (Or.inr (slot_ne (Or.inr (hwk hw 16 rfl)) (Or.inl (hwk hw 30 rfl)) (by decide) (t := (.array .double)) (t' := .int) (by decide) (by decide))))
    have f12 := (FP1.other W4 (Or.inr (slot_ne (Or.inr (hwk hw 18 rfl)) (Or.inl (hwk hw 30 rfl)) (by decide) (t := (.array .int)) (t' := .int) (by decide) (by decide))))
    have f13 := (VI1.other W4 (Ne.symm naI))
    have f14 := (VT1.other W4 (Ne.symm naT))
    have f15 := (VP1.other W4 (Ne.symm naP))
    have HR16 : HR Z h4 a aI aT aP kI kT kP I D P (1 : Int32) o := ⟨f9, f10, f11, f12, G4, f7, f13, f14, f15⟩
    obtain ⟨cc17, qa17, qb17⟩ := Exa.cell f9
    obtain ⟨_, _, ⟨T17, L17, k17, n17⟩, -, X17, ⟨Lc17, hQ17, l17, y17, z17⟩, st17⟩ := X6.privateBack hx (y := mN5) hown (mvT hZ (hwk hw 65 rfl)) (mvT hZ (hwk hw 66 rfl)) (selP (y := mN5) (as := #[]) (mvT hZ (hwk hw 1 rfl)) (mvP hZ (hwk hw 67 rfl)) (mvT hZ (hwk hw 66 rfl)) (by decide)) (Cond.privateMethod_at (mvP hZ (hwk hw 67 rfl) (args := #[]))) (mvT hZ (hwk hw 68 rfl)) (by decide) (backOf (W := 0) (rmPu l Z a0 hw [] a aI aT aP kI kT kP I D P (1 : Int32) o (0 : Int32) x t h4 n0 Z4 hB HR16 i4_0 hx4) hZ (hwk hw 68 rfl) (hwk hw 2 rfl) (by decide) (by decide)) (g := (mkF m 42 #[rv a, iv x, .val (.double t), .second, iv (0 : Int32)] [(.double t), (.int x), (.int (0 : Int32)), (.ref a)])) rfl (by rw [hml]; rfl) (Steps.refl _) (a := a) (by rw [e6]; exact qa17) qb17 (argsL := [(.int (0 : Int32)), (.int x), (.double t)]) (rest := []) (lenOf pd__IID_V_e64 rfl) rfl (by show 2 * 0 + _ ≤ _; exact Nat.le_of_eq rfl) (hb hby dp23_11_42) (fun _ _ => ⟨rfl, e6, (by decide : 0 + 0 ≤ 0), (by decide : 0 + 0 ≤ 0)⟩)
    dsimp only [Pt.U, Pt.locs, Pt.cells, Pt.slots] at X17 l17 y17 z17 st17 hQ17
    subst l17 y17 z17
    obtain ⟨rfl, N17q, K17, HQ17⟩ := hQ17
    have KK18 := KK5.trans K17 (allS (Or.inl (List.mem_of_getElem? (i := 0) rfl)) (allS (Or.inl (List.mem_of_getElem? (i := 1) rfl)) (allS (Or.inl (List.mem_of_getElem? (i := 2) rfl)) (allS (Or.inl (List.mem_of_getElem? (i := 3) rfl)) all0))))
    have Z17 : n0 ≤ T17.heap.size := Nat.le_trans Z4 K17.1
    obtain ⟨E19, FI19, FT19, FP19, FS19, FO19, VI19, VT19, VP19⟩ := id HQ17
    have inv20 := hol_end hol0 i4_0 (by decide) hx4 (Or.inr rfl)
    have N17 := Fr.app N4 N17q
    refine Goes.sts st17 ?_
    show Gs p e below s _ _ _ T17 m 45 #[rv a, iv x, .val (.double t), .second, iv (0 : Int32)] []
    have HR21 : HR Z T17.heap a aI aT aP kI kT kP (upd I (0 : Int32) x) (upd D (0 : Int32) t) (upd P x (0 : Int32)) (1 : Int32) o := ⟨E19, FI19, FT19, FP19, FS19, FO19, VI19, VT19, VP19⟩
    refine Goes.retV X17 hx hlk hret (hb hby dp23_11_45) ?_ (by decide) (by decide)
    exact ⟨(upd I (0 : Int32) x), (upd D (0 : Int32) t), (upd P x (0 : Int32)), o, rfl, N17, KK18, HR21, inv20⟩
  · refine gifNo X6 hx (hb hby dp23_11_23) ((if0 _ _).trans (feq c8).1) ?_
    show Gs p e below s _ _ _ T6 m 26 #[rv a, iv x, .val (.double t), .second, iv (0 : Int32)] []
    refine galoadN X6 hx (hb hby dp23_11_26) rfl rfl ?_
    refine giload X6 hx (hb hby dp23_11_27) rfl ?_
    refine giloadN X6 hx (hb hby dp23_11_29) rfl ?_
    refine gdloadN X6 hx (hb hby dp23_11_30) rfl ?_
    have f22 := (E1.wr W4)
    have f23 := (FI1.other W4 (Or.inr (slot_ne (Or.inr (hwk hw 13 rfl)) (Or.inl (hwk hw 30 rfl)) (by decide) (t := (.array .int)) (t' := .int) (by decide) (by decide))))
    have f24 := (FT1.other W4 (Or.inr (slot_ne (Or.inr (hwk hw 16 rfl)) (Or.inl (hwk hw 30 rfl)) (by decide) (t := (.array .double)) (t' := .int) (by decide) (by decide))))
    have f25 := (FP1.other W4 (Or.inr (slot_ne (Or.inr (hwk hw 18 rfl)) (Or.inl (hwk hw 30 rfl)) (by decide) (t := (.array .int)) (t' := .int) (by decide) (by decide))))
    have f26 := (VI1.other W4 (Ne.symm naI))
    have f27 := (VT1.other W4 (Ne.symm naT))
    have f28 := (VP1.other W4 (Ne.symm naP))
    have HR29 : HR Z h4 a aI aT aP kI kT kP I D P (1 : Int32) o := ⟨f22, f23, f24, f25, G4, f7, f26, f27, f28⟩
    obtain ⟨cc30, qa30, qb30⟩ := Exa.cell f22
    obtain ⟨_, _, ⟨T30, L30, k30, n30⟩, -, X30, ⟨Lc30, hQ30, l30, y30, z30⟩, st30⟩ := X6.privateBack hx (y := mN7) hown (mvT hZ (hwk hw 61 rfl)) (mvT hZ (hwk hw 62 rfl)) (selP (y := mN7) (as := #[]) (mvT hZ (hwk hw 1 rfl)) (mvP hZ (hwk hw 63 rfl)) (mvT hZ (hwk hw 62 rfl)) (by decide)) (Cond.privateMethod_at (mvP hZ (hwk hw 63 rfl) (args := #[]))) (mvT hZ (hwk hw 64 rfl)) (by decide) (backOf (W := 0) (rmU0 l Z a0 hw [] a aI aT aP kI kT kP I D P (1 : Int32) o x t (fun i => S i ∨ i = x) h4 n0 Z4 hB HR29 hx4 hol0 (Or.inr rfl) (by decide)) hZ (hwk hw 64 rfl) (hwk hw 2 rfl) (by decide) (by decide)) (g := (mkF m 31 #[rv a, iv x, .val (.double t), .second, iv (0 : Int32)] [(.double t), (.int x), (.int (0 : Int32)), (.ref a)])) rfl (by rw [hml]; rfl) (Steps.refl _) (a := a) (by rw [e6]; exact qa30) qb30 (argsL := [(.int (0 : Int32)), (.int x), (.double t)]) (rest := []) (lenOf pd__IID_V_e64 rfl) rfl (by show 2 * 0 + _ ≤ _; exact Nat.le_of_eq rfl) (hb hby dp23_11_31) (fun _ _ => ⟨rfl, e6, (by decide : 0 + 0 ≤ 0), (by decide : 0 + 0 ≤ 0)⟩)
    dsimp only [Pt.U, Pt.locs, Pt.cells, Pt.slots] at X30 l30 y30 z30 st30 hQ30
    subst l30 y30 z30
    obtain ⟨I30, D30, P30, rfl, N30q, K30, HQ30, inv30⟩ := hQ30
    have KK31 := KK5.trans K30 (allS (Or.inl (List.mem_of_getElem? (i := 0) rfl)) (allS (Or.inl (List.mem_of_getElem? (i := 1) rfl)) (allS (Or.inl (List.mem_of_getElem? (i := 2) rfl)) (allS (Or.inl (List.mem_of_getElem? (i := 3) rfl)) all0))))
    have Z30 : n0 ≤ T30.heap.size := Nat.le_trans Z4 K30.1
    obtain ⟨E32, FI32, FT32, FP32, FS32, FO32, VI32, VT32, VP32⟩ := id HQ30
    have N30 := Fr.app N4 N30q
    refine Goes.sts st30 ?_
    show Gs p e below s _ _ _ T30 m 34 #[rv a, iv x, .val (.double t), .second, iv (0 : Int32)] []
    refine ggoto X30 hx (pc' := 45) (hb hby dp23_11_34) (by decide) (by decide) ?_
    show Gs p e below s _ _ _ T30 m 45 #[rv a, iv x, .val (.double t), .second, iv (0 : Int32)] []
    have HR33 : HR Z T30.heap a aI aT aP kI kT kP I30 D30 P30 (1 : Int32) o := ⟨E32, FI32, FT32, FP32, FS32, FO32, VI32, VT32, VP32⟩
    refine Goes.retV X30 hx hlk hret (hb hby dp23_11_45) ?_ (by decide) (by decide)
    exact ⟨I30, D30, P30, o, rfl, N30, KK31, HR33, inv30⟩
theorem dp23_12_0 : decode prog_23_method_12_code 0 = .ok (.aload_n 0, 1) := by decide +kernel
theorem dp23_12_1 : decode prog_23_method_12_code 1 = .ok (.iload_n 1, 1) := by decide +kernel
theorem dp23_12_2 : decode prog_23_method_12_code 2 = .ok (.dload_n 2, 1) := by decide +kernel
theorem dp23_12_3 : decode prog_23_method_12_code 3 = .ok (.invokevirtual 56, 3) := by decide +kernel
theorem dp23_12_6 : decode prog_23_method_12_code 6 = .ok (.aload_n 0, 1) := by decide +kernel
theorem dp23_12_7 : decode prog_23_method_12_code 7 = .ok (.aload_n 0, 1) := by decide +kernel
theorem dp23_12_8 : decode prog_23_method_12_code 8 = .ok (.dup, 1) := by decide +kernel
theorem dp23_12_9 : decode prog_23_method_12_code 9 = .ok (.getfield 30, 3) := by decide +kernel
theorem dp23_12_12 : decode prog_23_method_12_code 12 = .ok (.dup_x1, 1) := by decide +kernel
theorem dp23_12_13 : decode prog_23_method_12_code 13 = .ok (.iconst 1, 1) := by decide +kernel
theorem dp23_12_14 : decode prog_23_method_12_code 14 = .ok (.iadd, 1) := by decide +kernel
theorem dp23_12_15 : decode prog_23_method_12_code 15 = .ok (.putfield 30, 3) := by decide +kernel
theorem dp23_12_18 : decode prog_23_method_12_code 18 = .ok (.iload_n 1, 1) := by decide +kernel
theorem dp23_12_19 : decode prog_23_method_12_code 19 = .ok (.dload_n 2, 1) := by decide +kernel
theorem dp23_12_20 : decode prog_23_method_12_code 20 = .ok (.invokevirtual 64, 3) := by decide +kernel
theorem dp23_12_23 : decode prog_23_method_12_code 23 = .ok (.aload_n 0, 1) := by decide +kernel
theorem dp23_12_24 : decode prog_23_method_12_code 24 = .ok (.iconst 0, 1) := by decide +kernel
theorem dp23_12_25 : decode prog_23_method_12_code 25 = .ok (.putfield 7, 3) := by decide +kernel
theorem dp23_12_28 : decode prog_23_method_12_code 28 = .ok (.return_, 1) := by decide +kernel
theorem ef_Q0 (m : MethodId) (x0 : Addr) (x1 : Int32) (x2 : UInt64) : entryFrame m #[(.ref x0), (.int x1), (.double x2)] 4 = mkF m 0 #[rv x0, iv x1, .val (.double x2), .second] [] := by first | (simp [entryFrame, mkF, argsToLocals, Value.category]; done) | rfl
def QQ0 (Z : State) (a aI aT aP : Addr) (kI kT kP : ClassId) (I : Int32 → Int32) (D : Int32 → UInt64) (P : Int32 → Int32) (o x : Int32) (t : UInt64) (S : Int32 → Prop) (h0 : Heap) (n0 : Nat) (v : Option Value) (h : Heap) (L : List Loc) : Prop := ∃ (I1 : Int32 → Int32) (D1 : Int32 → UInt64) (P1 : Int32 → Int32) (o1 : Int32), v = none ∧ Fr n0 L ∧ Keep h0 h [a, aI, aT, aP] ∧ HR Z h a aI aT aP kI kT kP I1 D1 P1 (1 : Int32) o1 ∧ Inv (1 : Int32) (fun i => S i ∨ i = x) I1 P1
set_option maxRecDepth 65536 in
set_option maxHeartbeats 40000000 in
theorem rmQ0 (l : Launch) (Z : State) (a0 : Array Value) (hw : ∀ d ∈ tables_1, d.before a0 Z = true) (ws : List Jvm.Cond) (a aI aT aP : Addr) (kI kT kP : ClassId) (I : Int32 → Int32) (D : Int32 → UInt64) (P : Int32 → Int32) (o x : Int32) (t : UInt64) (S : Int32 → Prop) (h0 : Heap) (n0 : Nat) (Z0 : n0 ≤ h0.size) (hB : HB n0 a aI aT aP) (hR : HR Z h0 a aI aT aP kI kT kP I D P (0 : Int32) o) (hx4 : In4 x) (hI : Inv (0 : Int32) S I P) (hS : ¬ S x) (ht : NoNaN64 t) :
    MetFree l mN10 (head1 (Jvm.Cond.code mN10 prog_23_method_12_code 4 none :: ws) ({ frames := 3, cells := 0, slots := 0, locals := 41 } : Room)) (fun aa U => aa = #[(.ref a), (.int x), (.double t)] ∧ Z.Warmed39 U.vm ∧ U.heap = h0) (fun _ _ _ _ _ => True) (fun _ u1_ o_ u2_ => ∃ v_ l_, o_ = .returned v_ ∧ QQ0 Z a aI aT aP kI kT kP I D P o x t S h0 n0 v_ u2_.heap l_ ∧ FrameEnd u1_ o_ u2_ l_ ({ frames := 3, cells := 0, slots := 0, locals := 41 } : Room).cells ({ frames := 3, cells := 0, slots := 0, locals := 41 } : Room).slots) := by
  refine MetFree.of_bodySF (plainFor_of_name pn_com_example_redoubt_redoubt_engine_IndexHeap) hisR ?_
  intro p e s m args below meth c s₁ Bd hml0 hP hK
  obtain ⟨rfl, hZ, hh⟩ := hP
  have hx := Bd.exec
  have hby := Bd.bytes
  have hlk := BodyLoose.notSynchronized Bd
  have hret := Bd.returns
  have hml : c.maxLocals = 4 := hml0
  have hown : s.vm.findClass "com/example/redoubt/redoubt/engine/IndexHeap" = some m.cls := findClass_of_methodNamed Bd.named
  have hnm := (name_of_methodNamed Bd.named Bd.method).1
  have X0 : Stand p l e ({ frames := 3, cells := 0, slots := 0, locals := 41 } : Room) s m #[(.ref a), (.int x), (.double t)] below meth c s₁ [] 0 0 := Stand.of_body Bd
  have e0 : s₁.heap = h0 := by rw [← hh, Bd.state]; rfl
  have N0 := Fr.nil n0
  refine Goes.st (s := s) (Q := QQ0 Z a aI aT aP kI kT kP I D P o x t S h0 n0) (cs := ({ frames := 3, cells := 0, slots := 0, locals := 41 } : Room).cells) (ss := ({ frames := 3, cells := 0, slots := 0, locals := 41 } : Room).slots) (fun tg kg => castTop (ef_Q0 m a x t) kg) ?_
  obtain ⟨la, lI, lT, lP, naI, naT, naP, nIT, nIP, nTP⟩ := id hB
  obtain ⟨E1, FI1, FT1, FP1, FS1, FO1, VI1, VT1, VP1⟩ := id hR
  have K0 : Keep h0 h0 [a, aI, aT, aP] := Keep.refl _ _
  have hol0 : Hol (1 : Int32) (0 : Int32) x (fun i => S i ∨ i = x) I P := (hol_new (n := (0 : Int32)) (n' := (1 : Int32)) hI (fun j hj h => by rcases hj with rfl | rfl | rfl | rfl <;> revert h <;> decide) (fun j hj h h2 => by rcases hj with rfl | rfl | rfl | rfl <;> revert h h2 <;> decide) (fun j h e => by subst e; revert h; decide))
  show Gs p e below s _ _ _ s₁ m 0 #[rv a, iv x, .val (.double t), .second] []
  refine galoadN X0 hx (hb hby dp23_12_0) rfl rfl ?_
  refine giloadN X0 hx (hb hby dp23_12_1) rfl ?_
  refine gdloadN X0 hx (hb hby dp23_12_2) rfl ?_
  obtain ⟨cc2, qa2, qb2⟩ := Exa.cell E1
  obtain ⟨_, _, ⟨T2, L2, k2, n2⟩, -, X2, ⟨Lc2, hQ2, l2, y2, z2⟩, st2⟩ := X0.privateBack hx (y := mN4) hown (mvT hZ (hwk hw 50 rfl)) (mvT hZ (hwk hw 51 rfl)) (selP (y := mN4) (as := #[]) (mvT hZ (hwk hw 1 rfl)) (mvP hZ (hwk hw 52 rfl)) (mvT hZ (hwk hw 51 rfl)) (by decide)) (Cond.privateMethod_at (mvP hZ (hwk hw 52 rfl) (args := #[]))) (mvT hZ (hwk hw 53 rfl)) (by decide) (backOf (W := 0) (rmRn l Z a0 hw [] a x t aP kP P h0 n0 Z0 FP1 VP1 hx4 (inv_fresh hI hx4 hS) ht) hZ (hwk hw 53 rfl) (hwk hw 2 rfl) (by decide) (by decide)) (g := (mkF m 3 #[rv a, iv x, .val (.double t), .second] [(.double t), (.int x), (.ref a)])) rfl (by rw [hml]; rfl) (Steps.refl _) (a := a) (by rw [e0]; exact qa2) qb2 (argsL := [(.int x), (.double t)]) (rest := []) (lenOf pd__ID_V_b10 rfl) rfl (by show 2 * 0 + _ ≤ _; exact Nat.le_of_eq rfl) (hb hby dp23_12_3) (fun _ _ => ⟨rfl, e0, (by decide : 0 + 0 ≤ 0), (by decide : 0 + 0 ≤ 0)⟩)
  dsimp only [Pt.U, Pt.locs, Pt.cells, Pt.slots] at X2 l2 y2 z2 st2 hQ2
  subst l2 y2 z2
  obtain ⟨rfl, N2q, eh2⟩ := hQ2
  have N2 := Fr.app N0 N2q
  refine Goes.sts st2 ?_
  show Gs p e below s _ _ _ T2 m 6 #[rv a, iv x, .val (.double t), .second] []
  refine galoadN X2 hx (hb hby dp23_12_6) rfl rfl ?_
  refine galoadN X2 hx (hb hby dp23_12_7) rfl rfl ?_
  refine gdup X2 hx (hb hby dp23_12_8) trivial rfl ?_
  obtain ⟨T3, X3, e3, st3⟩ := getF X2 hx hZ hown (host := "") (Or.inl (hwk hw 29 rfl)) Via.refl eh2 FS1 (g := (mkF m 9 #[rv a, iv x, .val (.double t), .second] [(.ref a), (.ref a), (.ref a)])) rfl rfl (hb hby dp23_12_9)
  refine Goes.st st3 ?_
  show Gs p e below s _ _ _ T3 m 12 #[rv a, iv x, .val (.double t), .second] [(.int (0 : Int32)), (.ref a), (.ref a)]
  refine Goes.st (fun tg kg => XT.dupX1 X3.here hx rfl (hb hby dp23_12_12) rfl rfl rfl kg) ?_
  show Gs p e below s _ _ _ T3 m 13 #[rv a, iv x, .val (.double t), .second] [(.int (0 : Int32)), (.ref a), (.int (0 : Int32)), (.ref a)]
  refine giconst X3 hx (hb hby dp23_12_13) ?_
  refine giadd X3 hx (hb hby dp23_12_14) trivial ?_
  show Gs p e below s _ _ _ T3 m 15 #[rv a, iv x, .val (.double t), .second] [(.int ((0 : Int32) + (1 : Int32))), (.ref a), (.int (0 : Int32)), (.ref a)]
  rw [show ((0 : Int32) + (1 : Int32)) = (1 : Int32) from by decide]
  show Gs p e below s _ _ _ T3 m 15 #[rv a, iv x, .val (.double t), .second] [(.int (1 : Int32)), (.ref a), (.int (0 : Int32)), (.ref a)]
  obtain ⟨T4, h4, X4, e4, W4, st4⟩ := putF X3 hx hZ hown (host := "") (Or.inl (hwk hw 29 rfl)) Via.refl e3 FS1 E1 (Or.inl (hwk hw 30 rfl)) (hwk hw 1 rfl) (ty := .int) (by decide) rfl rfl (g := (mkF m 15 #[rv a, iv x, .val (.double t), .second] [(.int (1 : Int32)), (.ref a), (.int (0 : Int32)), (.ref a)])) rfl rfl (hb hby dp23_12_15)
  have N4 := Fr.snoc X4 N2 la
  have G4 := FS1.same W4
  refine Goes.st st4 ?_
  have KK5 := K0.wr W4 (Or.inl (List.mem_of_getElem? (i := 0) rfl))
  have Z4 : n0 ≤ h4.size := by have := W4.size; have := Z0; omega
  show Gs p e below s _ _ _ T4 m 18 #[rv a, iv x, .val (.double t), .second] [(.int (0 : Int32)), (.ref a)]
  refine giloadN X4 hx (hb hby dp23_12_18) rfl ?_
  refine gdloadN X4 hx (hb hby dp23_12_19) rfl ?_
  have f6 := (E1.wr W4)
  have f7 := (FI1.other W4 (Or.inr (slot_ne (Or.inr (hwk hw 13 rfl)) (Or.inl (hwk hw 30 rfl)) (by decide) (t := (.array .int)) (t' := .int) (by decide) (by decide))))
  have f8 := (FT1.other W4 (Or.inr (slot_ne (Or.inr (hwk hw 16 rfl)) (Or.inl (hwk hw 30 rfl)) (by decide) (t := (.array .double)) (t' := .int) (by decide) (by decide))))
  have f9 := (FP1.other W4 (Or.inr (slot_ne (Or.inr (hwk hw 18 rfl)) (Or.inl (hwk hw 30 rfl)) (by decide) (t := (.array .int)) (t' := .int) (by decide) (by decide))))
  have f10 := (FO1.other W4 (Or.inr (slot_ne (Or.inl (hwk hw 10 rfl)) (Or.inl (hwk hw 30 rfl)) (by decide) (t := .boolean) (t' := .int) (by decide) (by decide))))
  have f11 := (VI1.other W4 (Ne.symm naI))
  have f12 := (VT1.other W4 (Ne.symm naT))
  have f13 := (VP1.other W4 (Ne.symm naP))
  have HR14 : HR Z h4 a aI aT aP kI kT kP I D P (1 : Int32) o := ⟨f6, f7, f8, f9, G4, f10, f11, f12, f13⟩
  obtain ⟨cc15, qa15, qb15⟩ := Exa.cell f6
  obtain ⟨_, _, ⟨T15, L15, k15, n15⟩, -, X15, ⟨Lc15, hQ15, l15, y15, z15⟩, st15⟩ := X4.privateBack hx (y := mN5) hown (mvT hZ (hwk hw 65 rfl)) (mvT hZ (hwk hw 66 rfl)) (selP (y := mN5) (as := #[]) (mvT hZ (hwk hw 1 rfl)) (mvP hZ (hwk hw 67 rfl)) (mvT hZ (hwk hw 66 rfl)) (by decide)) (Cond.privateMethod_at (mvP hZ (hwk hw 67 rfl) (args := #[]))) (mvT hZ (hwk hw 68 rfl)) (by decide) (backOf (W := 0) (rmPu l Z a0 hw [] a aI aT aP kI kT kP I D P (1 : Int32) o (0 : Int32) x t h4 n0 Z4 hB HR14 i4_0 hx4) hZ (hwk hw 68 rfl) (hwk hw 2 rfl) (by decide) (by decide)) (g := (mkF m 20 #[rv a, iv x, .val (.double t), .second] [(.double t), (.int x), (.int (0 : Int32)), (.ref a)])) rfl (by rw [hml]; rfl) (Steps.refl _) (a := a) (by rw [e4]; exact qa15) qb15 (argsL := [(.int (0 : Int32)), (.int x), (.double t)]) (rest := []) (lenOf pd__IID_V_e64 rfl) rfl (by show 2 * 0 + _ ≤ _; exact Nat.le_of_eq rfl) (hb hby dp23_12_20) (fun _ _ => ⟨rfl, e4, (by decide : 0 + 0 ≤ 0), (by decide : 0 + 0 ≤ 0)⟩)
  dsimp only [Pt.U, Pt.locs, Pt.cells, Pt.slots] at X15 l15 y15 z15 st15 hQ15
  subst l15 y15 z15
  obtain ⟨rfl, N15q, K15, HQ15⟩ := hQ15
  have KK16 := KK5.trans K15 (allS (Or.inl (List.mem_of_getElem? (i := 0) rfl)) (allS (Or.inl (List.mem_of_getElem? (i := 1) rfl)) (allS (Or.inl (List.mem_of_getElem? (i := 2) rfl)) (allS (Or.inl (List.mem_of_getElem? (i := 3) rfl)) all0))))
  have Z15 : n0 ≤ T15.heap.size := Nat.le_trans Z4 K15.1
  obtain ⟨E17, FI17, FT17, FP17, FS17, FO17, VI17, VT17, VP17⟩ := id HQ15
  have inv18 := hol_end hol0 i4_0 (by decide) hx4 (Or.inr rfl)
  have N15 := Fr.app N4 N15q
  refine Goes.sts st15 ?_
  show Gs p e below s _ _ _ T15 m 23 #[rv a, iv x, .val (.double t), .second] []
  refine galoadN X15 hx (hb hby dp23_12_23) rfl rfl ?_
  refine giconst X15 hx (hb hby dp23_12_24) ?_
  obtain ⟨T19, h19, X19, e19, W19, st19⟩ := putFN X15 hx hZ hown (hwk hw 9 rfl) Via.refl rfl FO17 E17 (Or.inl (hwk hw 10 rfl)) (hwk hw 1 rfl) (ty := .boolean) (v' := (.int (0 : Int32))) (by decide) rfl (by decide) (g := (mkF m 25 #[rv a, iv x, .val (.double t), .second] [(.int (0 : Int32)), (.ref a)])) rfl rfl (hb hby dp23_12_25)
  have N19 := Fr.snoc X19 N15 la
  have G19 := FO17.same W19
  refine Goes.st st19 ?_
  have KK20 := KK16.wr W19 (Or.inl (List.mem_of_getElem? (i := 0) rfl))
  have Z19 : n0 ≤ h19.size := by have := W19.size; have := Z15; omega
  show Gs p e below s _ _ _ T19 m 28 #[rv a, iv x, .val (.double t), .second] []
  have f21 := (E17.wr W19)
  have f22 := (FI17.other W19 (Or.inr (slot_ne (Or.inr (hwk hw 13 rfl)) (Or.inl (hwk hw 10 rfl)) (by decide) (t := (.array .int)) (t' := .boolean) (by decide) (by decide))))
  have f23 := (FT17.other W19 (Or.inr (slot_ne (Or.inr (hwk hw 16 rfl)) (Or.inl (hwk hw 10 rfl)) (by decide) (t := (.array .double)) (t' := .boolean) (by decide) (by decide))))
  have f24 := (FP17.other W19 (Or.inr (slot_ne (Or.inr (hwk hw 18 rfl)) (Or.inl (hwk hw 10 rfl)) (by decide) (t := (.array .int)) (t' := .boolean) (by decide) (by decide))))
  have f25 := (FS17.other W19 (Or.inr (slot_ne (Or.inl (hwk hw 30 rfl)) (Or.inl (hwk hw 10 rfl)) (by decide) (t := .int) (t' := .boolean) (by decide) (by decide))))
  have f26 := (VI17.other W19 (Ne.symm naI))
  have f27 := (VT17.other W19 (Ne.symm naT))
  have f28 := (VP17.other W19 (Ne.symm naP))
  have HR29 : HR Z h19 a aI aT aP kI kT kP (upd I (0 : Int32) x) (upd D (0 : Int32) t) (upd P x (0 : Int32)) (1 : Int32) (0 : Int32) := ⟨f21, f22, f23, f24, f25, G19, f26, f27, f28⟩
  refine Goes.retV X19 hx hlk hret (hb hby dp23_12_28) ?_ (by decide) (by decide)
  rw [e19]
  exact ⟨(upd I (0 : Int32) x), (upd D (0 : Int32) t), (upd P x (0 : Int32)), (0 : Int32), rfl, N19, KK20, HR29, inv18⟩
theorem ef_A1 (m : MethodId) (x0 : Addr) (x1 : Int32) (x2 : UInt64) : entryFrame m #[(.ref x0), (.int x1), (.double x2)] 5 = mkF m 0 #[rv x0, iv x1, .val (.double x2), .second, .unset] [] := by first | (simp [entryFrame, mkF, argsToLocals, Value.category]; done) | rfl
def QA1 (Z : State) (a aI aT aP : Addr) (kI kT kP : ClassId) (I : Int32 → Int32) (D : Int32 → UInt64) (P : Int32 → Int32) (o x : Int32) (t : UInt64) (S : Int32 → Prop) (h0 : Heap) (n0 : Nat) (v : Option Value) (h : Heap) (L : List Loc) : Prop := ∃ (I1 : Int32 → Int32) (D1 : Int32 → UInt64) (P1 : Int32 → Int32) (o1 : Int32), v = none ∧ Fr n0 L ∧ Keep h0 h [a, aI, aT, aP] ∧ HR Z h a aI aT aP kI kT kP I1 D1 P1 (2 : Int32) o1 ∧ Inv (2 : Int32) (fun i => S i ∨ i = x) I1 P1
set_option maxRecDepth 65536 in
set_option maxHeartbeats 40000000 in
theorem rmA1 (l : Launch) (Z : State) (a0 : Array Value) (hw : ∀ d ∈ tables_1, d.before a0 Z = true) (ws : List Jvm.Cond) (a aI aT aP : Addr) (kI kT kP : ClassId) (I : Int32 → Int32) (D : Int32 → UInt64) (P : Int32 → Int32) (o x : Int32) (t : UInt64) (S : Int32 → Prop) (h0 : Heap) (n0 : Nat) (Z0 : n0 ≤ h0.size) (hB : HB n0 a aI aT aP) (hR : HR Z h0 a aI aT aP kI kT kP I D P (1 : Int32) o) (hx4 : In4 x) (hI : Inv (1 : Int32) S I P) (hS : ¬ S x) (ht : NoNaN64 t) :
    MetFree l mN9 (head1 (Jvm.Cond.code mN9 prog_23_method_11_code 5 none :: ws) ({ frames := 3, cells := 0, slots := 0, locals := 41 } : Room)) (fun aa U => aa = #[(.ref a), (.int x), (.double t)] ∧ Z.Warmed39 U.vm ∧ U.heap = h0) (fun _ _ _ _ _ => True) (fun _ u1_ o_ u2_ => ∃ v_ l_, o_ = .returned v_ ∧ QA1 Z a aI aT aP kI kT kP I D P o x t S h0 n0 v_ u2_.heap l_ ∧ FrameEnd u1_ o_ u2_ l_ ({ frames := 3, cells := 0, slots := 0, locals := 41 } : Room).cells ({ frames := 3, cells := 0, slots := 0, locals := 41 } : Room).slots) := by
  refine MetFree.of_bodySF (plainFor_of_name pn_com_example_redoubt_redoubt_engine_IndexHeap) hisR ?_
  intro p e s m args below meth c s₁ Bd hml0 hP hK
  obtain ⟨rfl, hZ, hh⟩ := hP
  have hx := Bd.exec
  have hby := Bd.bytes
  have hlk := BodyLoose.notSynchronized Bd
  have hret := Bd.returns
  have hml : c.maxLocals = 5 := hml0
  have hown : s.vm.findClass "com/example/redoubt/redoubt/engine/IndexHeap" = some m.cls := findClass_of_methodNamed Bd.named
  have hnm := (name_of_methodNamed Bd.named Bd.method).1
  have X0 : Stand p l e ({ frames := 3, cells := 0, slots := 0, locals := 41 } : Room) s m #[(.ref a), (.int x), (.double t)] below meth c s₁ [] 0 0 := Stand.of_body Bd
  have e0 : s₁.heap = h0 := by rw [← hh, Bd.state]; rfl
  have N0 := Fr.nil n0
  refine Goes.st (s := s) (Q := QA1 Z a aI aT aP kI kT kP I D P o x t S h0 n0) (cs := ({ frames := 3, cells := 0, slots := 0, locals := 41 } : Room).cells) (ss := ({ frames := 3, cells := 0, slots := 0, locals := 41 } : Room).slots) (fun tg kg => castTop (ef_A1 m a x t) kg) ?_
  obtain ⟨la, lI, lT, lP, naI, naT, naP, nIT, nIP, nTP⟩ := id hB
  obtain ⟨E1, FI1, FT1, FP1, FS1, FO1, VI1, VT1, VP1⟩ := id hR
  have K0 : Keep h0 h0 [a, aI, aT, aP] := Keep.refl _ _
  have hol0 : Hol (2 : Int32) (1 : Int32) x (fun i => S i ∨ i = x) I P := (hol_new (n := (1 : Int32)) (n' := (2 : Int32)) hI (fun j hj h => by rcases hj with rfl | rfl | rfl | rfl <;> revert h <;> decide) (fun j hj h h2 => by rcases hj with rfl | rfl | rfl | rfl <;> revert h h2 <;> decide) (fun j h e => by subst e; revert h; decide))
  show Gs p e below s _ _ _ s₁ m 0 #[rv a, iv x, .val (.double t), .second, .unset] []
  refine galoadN X0 hx (hb hby dp23_11_0) rfl rfl ?_
  refine giloadN X0 hx (hb hby dp23_11_1) rfl ?_
  refine gdloadN X0 hx (hb hby dp23_11_2) rfl ?_
  obtain ⟨cc2, qa2, qb2⟩ := Exa.cell E1
  obtain ⟨_, _, ⟨T2, L2, k2, n2⟩, -, X2, ⟨Lc2, hQ2, l2, y2, z2⟩, st2⟩ := X0.privateBack hx (y := mN4) hown (mvT hZ (hwk hw 50 rfl)) (mvT hZ (hwk hw 51 rfl)) (selP (y := mN4) (as := #[]) (mvT hZ (hwk hw 1 rfl)) (mvP hZ (hwk hw 52 rfl)) (mvT hZ (hwk hw 51 rfl)) (by decide)) (Cond.privateMethod_at (mvP hZ (hwk hw 52 rfl) (args := #[]))) (mvT hZ (hwk hw 53 rfl)) (by decide) (backOf (W := 0) (rmRn l Z a0 hw [] a x t aP kP P h0 n0 Z0 FP1 VP1 hx4 (inv_fresh hI hx4 hS) ht) hZ (hwk hw 53 rfl) (hwk hw 2 rfl) (by decide) (by decide)) (g := (mkF m 3 #[rv a, iv x, .val (.double t), .second, .unset] [(.double t), (.int x), (.ref a)])) rfl (by rw [hml]; rfl) (Steps.refl _) (a := a) (by rw [e0]; exact qa2) qb2 (argsL := [(.int x), (.double t)]) (rest := []) (lenOf pd__ID_V_b10 rfl) rfl (by show 2 * 0 + _ ≤ _; exact Nat.le_of_eq rfl) (hb hby dp23_11_3) (fun _ _ => ⟨rfl, e0, (by decide : 0 + 0 ≤ 0), (by decide : 0 + 0 ≤ 0)⟩)
  dsimp only [Pt.U, Pt.locs, Pt.cells, Pt.slots] at X2 l2 y2 z2 st2 hQ2
  subst l2 y2 z2
  obtain ⟨rfl, N2q, eh2⟩ := hQ2
  have N2 := Fr.app N0 N2q
  refine Goes.sts st2 ?_
  show Gs p e below s _ _ _ T2 m 6 #[rv a, iv x, .val (.double t), .second, .unset] []
  refine galoadN X2 hx (hb hby dp23_11_6) rfl rfl ?_
  refine gdup X2 hx (hb hby dp23_11_7) trivial rfl ?_
  obtain ⟨T3, X3, e3, st3⟩ := getF X2 hx hZ hown (host := "") (Or.inl (hwk hw 29 rfl)) Via.refl eh2 FS1 (g := (mkF m 8 #[rv a, iv x, .val (.double t), .second, .unset] [(.ref a), (.ref a)])) rfl rfl (hb hby dp23_11_8)
  refine Goes.st st3 ?_
  show Gs p e below s _ _ _ T3 m 11 #[rv a, iv x, .val (.double t), .second, .unset] [(.int (1 : Int32)), (.ref a)]
  refine Goes.st (fun tg kg => XT.dupX1 X3.here hx rfl (hb hby dp23_11_11) rfl rfl rfl kg) ?_
  show Gs p e below s _ _ _ T3 m 12 #[rv a, iv x, .val (.double t), .second, .unset] [(.int (1 : Int32)), (.ref a), (.int (1 : Int32))]
  refine giconst X3 hx (hb hby dp23_11_12) ?_
  refine giadd X3 hx (hb hby dp23_11_13) trivial ?_
  show Gs p e below s _ _ _ T3 m 14 #[rv a, iv x, .val (.double t), .second, .unset] [(.int ((1 : Int32) + (1 : Int32))), (.ref a), (.int (1 : Int32))]
  rw [show ((1 : Int32) + (1 : Int32)) = (2 : Int32) from by decide]
  show Gs p e below s _ _ _ T3 m 14 #[rv a, iv x, .val (.double t), .second, .unset] [(.int (2 : Int32)), (.ref a), (.int (1 : Int32))]
  obtain ⟨T4, h4, X4, e4, W4, st4⟩ := putF X3 hx hZ hown (host := "") (Or.inl (hwk hw 29 rfl)) Via.refl e3 FS1 E1 (Or.inl (hwk hw 30 rfl)) (hwk hw 1 rfl) (ty := .int) (by decide) rfl rfl (g := (mkF m 14 #[rv a, iv x, .val (.double t), .second, .unset] [(.int (2 : Int32)), (.ref a), (.int (1 : Int32))])) rfl rfl (hb hby dp23_11_14)
  have N4 := Fr.snoc X4 N2 la
  have G4 := FS1.same W4
  refine Goes.st st4 ?_
  have KK5 := K0.wr W4 (Or.inl (List.mem_of_getElem? (i := 0) rfl))
  have Z4 : n0 ≤ h4.size := by have := W4.size; have := Z0; omega
  show Gs p e below s _ _ _ T4 m 17 #[rv a, iv x, .val (.double t), .second, .unset] [(.int (1 : Int32))]
  refine gistore X4 hx (hb hby dp23_11_17) trivial (l' := #[rv a, iv x, .val (.double t), .second, iv (1 : Int32)]) rfl ?_
  refine galoadN X4 hx (hb hby dp23_11_19) rfl rfl ?_
  have f7 := (FO1.other W4 (Or.inr (slot_ne (Or.inl (hwk hw 10 rfl)) (Or.inl (hwk hw 30 rfl)) (by decide) (t := .boolean) (t' := .int) (by decide) (by decide))))
  obtain ⟨T6, X6, e6, st6⟩ := getF X4 hx hZ hown (host := "") (Or.inl (hwk hw 9 rfl)) Via.refl e4 f7 (g := (mkF m 20 #[rv a, iv x, .val (.double t), .second, iv (1 : Int32)] [(.ref a)])) rfl rfl (hb hby dp23_11_20)
  refine Goes.st st6 ?_
  show Gs p e below s _ _ _ T6 m 23 #[rv a, iv x, .val (.double t), .second, iv (1 : Int32)] [(.int o)]
  by_cases c8 : o = (0 : Int32)
  · refine gifYes X6 hx (pc' := 37) (hb hby dp23_11_23) ((if0 _ _).trans (teq c8).1) (by decide) (by decide) ?_
    show Gs p e below s _ _ _ T6 m 37 #[rv a, iv x, .val (.double t), .second, iv (1 : Int32)] []
    refine galoadN X6 hx (hb hby dp23_11_37) rfl rfl ?_
    refine giload X6 hx (hb hby dp23_11_38) rfl ?_
    refine giloadN X6 hx (hb hby dp23_11_40) rfl ?_
    refine gdloadN X6 hx (hb hby dp23_11_41) rfl ?_
    have f9 := (E1.wr W4)
    have f10 := (FI1.other W4 (Or.inr (slot_ne (Or.inr (hwk hw 13 rfl)) (Or.inl (hwk hw 30 rfl)) (by decide) (t := (.array .int)) (t' := .int) (by decide) (by decide))))
    have f11 := (FT1.other W4 (Or.inr (slot_ne (Or.inr (hwk hw 16 rfl)) (Or.inl (hwk hw 30 rfl)) (by decide) (t := (.array .double)) (t' := .int) (by decide) (by decide))))
    have f12 := (FP1.other W4 (Or.inr (slot_ne (Or.inr (hwk hw 18 rfl)) (Or.inl (hwk hw 30 rfl)) (by decide) (t := (.array .int)) (t' := .int) (by decide) (by decide))))
    have f13 := (VI1.other W4 (Ne.symm naI))
    have f14 := (VT1.other W4 (Ne.symm naT))
    have f15 := (VP1.other W4 (Ne.symm naP))
    have HR16 : HR Z h4 a aI aT aP kI kT kP I D P (2 : Int32) o := ⟨f9, f10, f11, f12, G4, f7, f13, f14, f15⟩
    obtain ⟨cc17, qa17, qb17⟩ := Exa.cell f9
    obtain ⟨_, _, ⟨T17, L17, k17, n17⟩, -, X17, ⟨Lc17, hQ17, l17, y17, z17⟩, st17⟩ := X6.privateBack hx (y := mN5) hown (mvT hZ (hwk hw 65 rfl)) (mvT hZ (hwk hw 66 rfl)) (selP (y := mN5) (as := #[]) (mvT hZ (hwk hw 1 rfl)) (mvP hZ (hwk hw 67 rfl)) (mvT hZ (hwk hw 66 rfl)) (by decide)) (Cond.privateMethod_at (mvP hZ (hwk hw 67 rfl) (args := #[]))) (mvT hZ (hwk hw 68 rfl)) (by decide) (backOf (W := 0) (rmPu l Z a0 hw [] a aI aT aP kI kT kP I D P (2 : Int32) o (1 : Int32) x t h4 n0 Z4 hB HR16 i4_1 hx4) hZ (hwk hw 68 rfl) (hwk hw 2 rfl) (by decide) (by decide)) (g := (mkF m 42 #[rv a, iv x, .val (.double t), .second, iv (1 : Int32)] [(.double t), (.int x), (.int (1 : Int32)), (.ref a)])) rfl (by rw [hml]; rfl) (Steps.refl _) (a := a) (by rw [e6]; exact qa17) qb17 (argsL := [(.int (1 : Int32)), (.int x), (.double t)]) (rest := []) (lenOf pd__IID_V_e64 rfl) rfl (by show 2 * 0 + _ ≤ _; exact Nat.le_of_eq rfl) (hb hby dp23_11_42) (fun _ _ => ⟨rfl, e6, (by decide : 0 + 0 ≤ 0), (by decide : 0 + 0 ≤ 0)⟩)
    dsimp only [Pt.U, Pt.locs, Pt.cells, Pt.slots] at X17 l17 y17 z17 st17 hQ17
    subst l17 y17 z17
    obtain ⟨rfl, N17q, K17, HQ17⟩ := hQ17
    have KK18 := KK5.trans K17 (allS (Or.inl (List.mem_of_getElem? (i := 0) rfl)) (allS (Or.inl (List.mem_of_getElem? (i := 1) rfl)) (allS (Or.inl (List.mem_of_getElem? (i := 2) rfl)) (allS (Or.inl (List.mem_of_getElem? (i := 3) rfl)) all0))))
    have Z17 : n0 ≤ T17.heap.size := Nat.le_trans Z4 K17.1
    obtain ⟨E19, FI19, FT19, FP19, FS19, FO19, VI19, VT19, VP19⟩ := id HQ17
    have inv20 := hol_end hol0 i4_1 (by decide) hx4 (Or.inr rfl)
    have N17 := Fr.app N4 N17q
    refine Goes.sts st17 ?_
    show Gs p e below s _ _ _ T17 m 45 #[rv a, iv x, .val (.double t), .second, iv (1 : Int32)] []
    have HR21 : HR Z T17.heap a aI aT aP kI kT kP (upd I (1 : Int32) x) (upd D (1 : Int32) t) (upd P x (1 : Int32)) (2 : Int32) o := ⟨E19, FI19, FT19, FP19, FS19, FO19, VI19, VT19, VP19⟩
    refine Goes.retV X17 hx hlk hret (hb hby dp23_11_45) ?_ (by decide) (by decide)
    exact ⟨(upd I (1 : Int32) x), (upd D (1 : Int32) t), (upd P x (1 : Int32)), o, rfl, N17, KK18, HR21, inv20⟩
  · refine gifNo X6 hx (hb hby dp23_11_23) ((if0 _ _).trans (feq c8).1) ?_
    show Gs p e below s _ _ _ T6 m 26 #[rv a, iv x, .val (.double t), .second, iv (1 : Int32)] []
    refine galoadN X6 hx (hb hby dp23_11_26) rfl rfl ?_
    refine giload X6 hx (hb hby dp23_11_27) rfl ?_
    refine giloadN X6 hx (hb hby dp23_11_29) rfl ?_
    refine gdloadN X6 hx (hb hby dp23_11_30) rfl ?_
    have f22 := (E1.wr W4)
    have f23 := (FI1.other W4 (Or.inr (slot_ne (Or.inr (hwk hw 13 rfl)) (Or.inl (hwk hw 30 rfl)) (by decide) (t := (.array .int)) (t' := .int) (by decide) (by decide))))
    have f24 := (FT1.other W4 (Or.inr (slot_ne (Or.inr (hwk hw 16 rfl)) (Or.inl (hwk hw 30 rfl)) (by decide) (t := (.array .double)) (t' := .int) (by decide) (by decide))))
    have f25 := (FP1.other W4 (Or.inr (slot_ne (Or.inr (hwk hw 18 rfl)) (Or.inl (hwk hw 30 rfl)) (by decide) (t := (.array .int)) (t' := .int) (by decide) (by decide))))
    have f26 := (VI1.other W4 (Ne.symm naI))
    have f27 := (VT1.other W4 (Ne.symm naT))
    have f28 := (VP1.other W4 (Ne.symm naP))
    have HR29 : HR Z h4 a aI aT aP kI kT kP I D P (2 : Int32) o := ⟨f22, f23, f24, f25, G4, f7, f26, f27, f28⟩
    obtain ⟨cc30, qa30, qb30⟩ := Exa.cell f22
    obtain ⟨_, _, ⟨T30, L30, k30, n30⟩, -, X30, ⟨Lc30, hQ30, l30, y30, z30⟩, st30⟩ := X6.privateBack hx (y := mN7) hown (mvT hZ (hwk hw 61 rfl)) (mvT hZ (hwk hw 62 rfl)) (selP (y := mN7) (as := #[]) (mvT hZ (hwk hw 1 rfl)) (mvP hZ (hwk hw 63 rfl)) (mvT hZ (hwk hw 62 rfl)) (by decide)) (Cond.privateMethod_at (mvP hZ (hwk hw 63 rfl) (args := #[]))) (mvT hZ (hwk hw 64 rfl)) (by decide) (backOf (W := 0) (rmU1 l Z a0 hw [] a aI aT aP kI kT kP I D P (2 : Int32) o x t (fun i => S i ∨ i = x) h4 n0 Z4 hB HR29 hx4 hol0 (Or.inr rfl) (by decide)) hZ (hwk hw 64 rfl) (hwk hw 2 rfl) (by decide) (by decide)) (g := (mkF m 31 #[rv a, iv x, .val (.double t), .second, iv (1 : Int32)] [(.double t), (.int x), (.int (1 : Int32)), (.ref a)])) rfl (by rw [hml]; rfl) (Steps.refl _) (a := a) (by rw [e6]; exact qa30) qb30 (argsL := [(.int (1 : Int32)), (.int x), (.double t)]) (rest := []) (lenOf pd__IID_V_e64 rfl) rfl (by show 2 * 0 + _ ≤ _; exact Nat.le_of_eq rfl) (hb hby dp23_11_31) (fun _ _ => ⟨rfl, e6, (by decide : 0 + 0 ≤ 0), (by decide : 0 + 0 ≤ 0)⟩)
    dsimp only [Pt.U, Pt.locs, Pt.cells, Pt.slots] at X30 l30 y30 z30 st30 hQ30
    subst l30 y30 z30
    obtain ⟨I30, D30, P30, rfl, N30q, K30, HQ30, inv30⟩ := hQ30
    have KK31 := KK5.trans K30 (allS (Or.inl (List.mem_of_getElem? (i := 0) rfl)) (allS (Or.inl (List.mem_of_getElem? (i := 1) rfl)) (allS (Or.inl (List.mem_of_getElem? (i := 2) rfl)) (allS (Or.inl (List.mem_of_getElem? (i := 3) rfl)) all0))))
    have Z30 : n0 ≤ T30.heap.size := Nat.le_trans Z4 K30.1
    obtain ⟨E32, FI32, FT32, FP32, FS32, FO32, VI32, VT32, VP32⟩ := id HQ30
    have N30 := Fr.app N4 N30q
    refine Goes.sts st30 ?_
    show Gs p e below s _ _ _ T30 m 34 #[rv a, iv x, .val (.double t), .second, iv (1 : Int32)] []
    refine ggoto X30 hx (pc' := 45) (hb hby dp23_11_34) (by decide) (by decide) ?_
    show Gs p e below s _ _ _ T30 m 45 #[rv a, iv x, .val (.double t), .second, iv (1 : Int32)] []
    have HR33 : HR Z T30.heap a aI aT aP kI kT kP I30 D30 P30 (2 : Int32) o := ⟨E32, FI32, FT32, FP32, FS32, FO32, VI32, VT32, VP32⟩
    refine Goes.retV X30 hx hlk hret (hb hby dp23_11_45) ?_ (by decide) (by decide)
    exact ⟨I30, D30, P30, o, rfl, N30, KK31, HR33, inv30⟩
theorem ef_Q1 (m : MethodId) (x0 : Addr) (x1 : Int32) (x2 : UInt64) : entryFrame m #[(.ref x0), (.int x1), (.double x2)] 4 = mkF m 0 #[rv x0, iv x1, .val (.double x2), .second] [] := by first | (simp [entryFrame, mkF, argsToLocals, Value.category]; done) | rfl
def QQ1 (Z : State) (a aI aT aP : Addr) (kI kT kP : ClassId) (I : Int32 → Int32) (D : Int32 → UInt64) (P : Int32 → Int32) (o x : Int32) (t : UInt64) (S : Int32 → Prop) (h0 : Heap) (n0 : Nat) (v : Option Value) (h : Heap) (L : List Loc) : Prop := ∃ (I1 : Int32 → Int32) (D1 : Int32 → UInt64) (P1 : Int32 → Int32) (o1 : Int32), v = none ∧ Fr n0 L ∧ Keep h0 h [a, aI, aT, aP] ∧ HR Z h a aI aT aP kI kT kP I1 D1 P1 (2 : Int32) o1 ∧ Inv (2 : Int32) (fun i => S i ∨ i = x) I1 P1
set_option maxRecDepth 65536 in
set_option maxHeartbeats 40000000 in
theorem rmQ1 (l : Launch) (Z : State) (a0 : Array Value) (hw : ∀ d ∈ tables_1, d.before a0 Z = true) (ws : List Jvm.Cond) (a aI aT aP : Addr) (kI kT kP : ClassId) (I : Int32 → Int32) (D : Int32 → UInt64) (P : Int32 → Int32) (o x : Int32) (t : UInt64) (S : Int32 → Prop) (h0 : Heap) (n0 : Nat) (Z0 : n0 ≤ h0.size) (hB : HB n0 a aI aT aP) (hR : HR Z h0 a aI aT aP kI kT kP I D P (1 : Int32) o) (hx4 : In4 x) (hI : Inv (1 : Int32) S I P) (hS : ¬ S x) (ht : NoNaN64 t) :
    MetFree l mN10 (head1 (Jvm.Cond.code mN10 prog_23_method_12_code 4 none :: ws) ({ frames := 3, cells := 0, slots := 0, locals := 41 } : Room)) (fun aa U => aa = #[(.ref a), (.int x), (.double t)] ∧ Z.Warmed39 U.vm ∧ U.heap = h0) (fun _ _ _ _ _ => True) (fun _ u1_ o_ u2_ => ∃ v_ l_, o_ = .returned v_ ∧ QQ1 Z a aI aT aP kI kT kP I D P o x t S h0 n0 v_ u2_.heap l_ ∧ FrameEnd u1_ o_ u2_ l_ ({ frames := 3, cells := 0, slots := 0, locals := 41 } : Room).cells ({ frames := 3, cells := 0, slots := 0, locals := 41 } : Room).slots) := by
  refine MetFree.of_bodySF (plainFor_of_name pn_com_example_redoubt_redoubt_engine_IndexHeap) hisR ?_
  intro p e s m args below meth c s₁ Bd hml0 hP hK
  obtain ⟨rfl, hZ, hh⟩ := hP
  have hx := Bd.exec
  have hby := Bd.bytes
  have hlk := BodyLoose.notSynchronized Bd
  have hret := Bd.returns
  have hml : c.maxLocals = 4 := hml0
  have hown : s.vm.findClass "com/example/redoubt/redoubt/engine/IndexHeap" = some m.cls := findClass_of_methodNamed Bd.named
  have hnm := (name_of_methodNamed Bd.named Bd.method).1
  have X0 : Stand p l e ({ frames := 3, cells := 0, slots := 0, locals := 41 } : Room) s m #[(.ref a), (.int x), (.double t)] below meth c s₁ [] 0 0 := Stand.of_body Bd
  have e0 : s₁.heap = h0 := by rw [← hh, Bd.state]; rfl
  have N0 := Fr.nil n0
  refine Goes.st (s := s) (Q := QQ1 Z a aI aT aP kI kT kP I D P o x t S h0 n0) (cs := ({ frames := 3, cells := 0, slots := 0, locals := 41 } : Room).cells) (ss := ({ frames := 3, cells := 0, slots := 0, locals := 41 } : Room).slots) (fun tg kg => castTop (ef_Q1 m a x t) kg) ?_
  obtain ⟨la, lI, lT, lP, naI, naT, naP, nIT, nIP, nTP⟩ := id hB
  obtain ⟨E1, FI1, FT1, FP1, FS1, FO1, VI1, VT1, VP1⟩ := id hR
  have K0 : Keep h0 h0 [a, aI, aT, aP] := Keep.refl _ _
  have hol0 : Hol (2 : Int32) (1 : Int32) x (fun i => S i ∨ i = x) I P := (hol_new (n := (1 : Int32)) (n' := (2 : Int32)) hI (fun j hj h => by rcases hj with rfl | rfl | rfl | rfl <;> revert h <;> decide) (fun j hj h h2 => by rcases hj with rfl | rfl | rfl | rfl <;> revert h h2 <;> decide) (fun j h e => by subst e; revert h; decide))
  show Gs p e below s _ _ _ s₁ m 0 #[rv a, iv x, .val (.double t), .second] []
  refine galoadN X0 hx (hb hby dp23_12_0) rfl rfl ?_
  refine giloadN X0 hx (hb hby dp23_12_1) rfl ?_
  refine gdloadN X0 hx (hb hby dp23_12_2) rfl ?_
  obtain ⟨cc2, qa2, qb2⟩ := Exa.cell E1
  obtain ⟨_, _, ⟨T2, L2, k2, n2⟩, -, X2, ⟨Lc2, hQ2, l2, y2, z2⟩, st2⟩ := X0.privateBack hx (y := mN4) hown (mvT hZ (hwk hw 50 rfl)) (mvT hZ (hwk hw 51 rfl)) (selP (y := mN4) (as := #[]) (mvT hZ (hwk hw 1 rfl)) (mvP hZ (hwk hw 52 rfl)) (mvT hZ (hwk hw 51 rfl)) (by decide)) (Cond.privateMethod_at (mvP hZ (hwk hw 52 rfl) (args := #[]))) (mvT hZ (hwk hw 53 rfl)) (by decide) (backOf (W := 0) (rmRn l Z a0 hw [] a x t aP kP P h0 n0 Z0 FP1 VP1 hx4 (inv_fresh hI hx4 hS) ht) hZ (hwk hw 53 rfl) (hwk hw 2 rfl) (by decide) (by decide)) (g := (mkF m 3 #[rv a, iv x, .val (.double t), .second] [(.double t), (.int x), (.ref a)])) rfl (by rw [hml]; rfl) (Steps.refl _) (a := a) (by rw [e0]; exact qa2) qb2 (argsL := [(.int x), (.double t)]) (rest := []) (lenOf pd__ID_V_b10 rfl) rfl (by show 2 * 0 + _ ≤ _; exact Nat.le_of_eq rfl) (hb hby dp23_12_3) (fun _ _ => ⟨rfl, e0, (by decide : 0 + 0 ≤ 0), (by decide : 0 + 0 ≤ 0)⟩)
  dsimp only [Pt.U, Pt.locs, Pt.cells, Pt.slots] at X2 l2 y2 z2 st2 hQ2
  subst l2 y2 z2
  obtain ⟨rfl, N2q, eh2⟩ := hQ2
  have N2 := Fr.app N0 N2q
  refine Goes.sts st2 ?_
  show Gs p e below s _ _ _ T2 m 6 #[rv a, iv x, .val (.double t), .second] []
  refine galoadN X2 hx (hb hby dp23_12_6) rfl rfl ?_
  refine galoadN X2 hx (hb hby dp23_12_7) rfl rfl ?_
  refine gdup X2 hx (hb hby dp23_12_8) trivial rfl ?_
  obtain ⟨T3, X3, e3, st3⟩ := getF X2 hx hZ hown (host := "") (Or.inl (hwk hw 29 rfl)) Via.refl eh2 FS1 (g := (mkF m 9 #[rv a, iv x, .val (.double t), .second] [(.ref a), (.ref a), (.ref a)])) rfl rfl (hb hby dp23_12_9)
  refine Goes.st st3 ?_
  show Gs p e below s _ _ _ T3 m 12 #[rv a, iv x, .val (.double t), .second] [(.int (1 : Int32)), (.ref a), (.ref a)]
  refine Goes.st (fun tg kg => XT.dupX1 X3.here hx rfl (hb hby dp23_12_12) rfl rfl rfl kg) ?_
  show Gs p e below s _ _ _ T3 m 13 #[rv a, iv x, .val (.double t), .second] [(.int (1 : Int32)), (.ref a), (.int (1 : Int32)), (.ref a)]
  refine giconst X3 hx (hb hby dp23_12_13) ?_
  refine giadd X3 hx (hb hby dp23_12_14) trivial ?_
  show Gs p e below s _ _ _ T3 m 15 #[rv a, iv x, .val (.double t), .second] [(.int ((1 : Int32) + (1 : Int32))), (.ref a), (.int (1 : Int32)), (.ref a)]
  rw [show ((1 : Int32) + (1 : Int32)) = (2 : Int32) from by decide]
  show Gs p e below s _ _ _ T3 m 15 #[rv a, iv x, .val (.double t), .second] [(.int (2 : Int32)), (.ref a), (.int (1 : Int32)), (.ref a)]
  obtain ⟨T4, h4, X4, e4, W4, st4⟩ := putF X3 hx hZ hown (host := "") (Or.inl (hwk hw 29 rfl)) Via.refl e3 FS1 E1 (Or.inl (hwk hw 30 rfl)) (hwk hw 1 rfl) (ty := .int) (by decide) rfl rfl (g := (mkF m 15 #[rv a, iv x, .val (.double t), .second] [(.int (2 : Int32)), (.ref a), (.int (1 : Int32)), (.ref a)])) rfl rfl (hb hby dp23_12_15)
  have N4 := Fr.snoc X4 N2 la
  have G4 := FS1.same W4
  refine Goes.st st4 ?_
  have KK5 := K0.wr W4 (Or.inl (List.mem_of_getElem? (i := 0) rfl))
  have Z4 : n0 ≤ h4.size := by have := W4.size; have := Z0; omega
  show Gs p e below s _ _ _ T4 m 18 #[rv a, iv x, .val (.double t), .second] [(.int (1 : Int32)), (.ref a)]
  refine giloadN X4 hx (hb hby dp23_12_18) rfl ?_
  refine gdloadN X4 hx (hb hby dp23_12_19) rfl ?_
  have f6 := (E1.wr W4)
  have f7 := (FI1.other W4 (Or.inr (slot_ne (Or.inr (hwk hw 13 rfl)) (Or.inl (hwk hw 30 rfl)) (by decide) (t := (.array .int)) (t' := .int) (by decide) (by decide))))
  have f8 := (FT1.other W4 (Or.inr (slot_ne (Or.inr (hwk hw 16 rfl)) (Or.inl (hwk hw 30 rfl)) (by decide) (t := (.array .double)) (t' := .int) (by decide) (by decide))))
  have f9 := (FP1.other W4 (Or.inr (slot_ne (Or.inr (hwk hw 18 rfl)) (Or.inl (hwk hw 30 rfl)) (by decide) (t := (.array .int)) (t' := .int) (by decide) (by decide))))
  have f10 := (FO1.other W4 (Or.inr (slot_ne (Or.inl (hwk hw 10 rfl)) (Or.inl (hwk hw 30 rfl)) (by decide) (t := .boolean) (t' := .int) (by decide) (by decide))))
  have f11 := (VI1.other W4 (Ne.symm naI))
  have f12 := (VT1.other W4 (Ne.symm naT))
  have f13 := (VP1.other W4 (Ne.symm naP))
  have HR14 : HR Z h4 a aI aT aP kI kT kP I D P (2 : Int32) o := ⟨f6, f7, f8, f9, G4, f10, f11, f12, f13⟩
  obtain ⟨cc15, qa15, qb15⟩ := Exa.cell f6
  obtain ⟨_, _, ⟨T15, L15, k15, n15⟩, -, X15, ⟨Lc15, hQ15, l15, y15, z15⟩, st15⟩ := X4.privateBack hx (y := mN5) hown (mvT hZ (hwk hw 65 rfl)) (mvT hZ (hwk hw 66 rfl)) (selP (y := mN5) (as := #[]) (mvT hZ (hwk hw 1 rfl)) (mvP hZ (hwk hw 67 rfl)) (mvT hZ (hwk hw 66 rfl)) (by decide)) (Cond.privateMethod_at (mvP hZ (hwk hw 67 rfl) (args := #[]))) (mvT hZ (hwk hw 68 rfl)) (by decide) (backOf (W := 0) (rmPu l Z a0 hw [] a aI aT aP kI kT kP I D P (2 : Int32) o (1 : Int32) x t h4 n0 Z4 hB HR14 i4_1 hx4) hZ (hwk hw 68 rfl) (hwk hw 2 rfl) (by decide) (by decide)) (g := (mkF m 20 #[rv a, iv x, .val (.double t), .second] [(.double t), (.int x), (.int (1 : Int32)), (.ref a)])) rfl (by rw [hml]; rfl) (Steps.refl _) (a := a) (by rw [e4]; exact qa15) qb15 (argsL := [(.int (1 : Int32)), (.int x), (.double t)]) (rest := []) (lenOf pd__IID_V_e64 rfl) rfl (by show 2 * 0 + _ ≤ _; exact Nat.le_of_eq rfl) (hb hby dp23_12_20) (fun _ _ => ⟨rfl, e4, (by decide : 0 + 0 ≤ 0), (by decide : 0 + 0 ≤ 0)⟩)
  dsimp only [Pt.U, Pt.locs, Pt.cells, Pt.slots] at X15 l15 y15 z15 st15 hQ15
  subst l15 y15 z15
  obtain ⟨rfl, N15q, K15, HQ15⟩ := hQ15
  have KK16 := KK5.trans K15 (allS (Or.inl (List.mem_of_getElem? (i := 0) rfl)) (allS (Or.inl (List.mem_of_getElem? (i := 1) rfl)) (allS (Or.inl (List.mem_of_getElem? (i := 2) rfl)) (allS (Or.inl (List.mem_of_getElem? (i := 3) rfl)) all0))))
  have Z15 : n0 ≤ T15.heap.size := Nat.le_trans Z4 K15.1
  obtain ⟨E17, FI17, FT17, FP17, FS17, FO17, VI17, VT17, VP17⟩ := id HQ15
  have inv18 := hol_end hol0 i4_1 (by decide) hx4 (Or.inr rfl)
  have N15 := Fr.app N4 N15q
  refine Goes.sts st15 ?_
  show Gs p e below s _ _ _ T15 m 23 #[rv a, iv x, .val (.double t), .second] []
  refine galoadN X15 hx (hb hby dp23_12_23) rfl rfl ?_
  refine giconst X15 hx (hb hby dp23_12_24) ?_
  obtain ⟨T19, h19, X19, e19, W19, st19⟩ := putFN X15 hx hZ hown (hwk hw 9 rfl) Via.refl rfl FO17 E17 (Or.inl (hwk hw 10 rfl)) (hwk hw 1 rfl) (ty := .boolean) (v' := (.int (0 : Int32))) (by decide) rfl (by decide) (g := (mkF m 25 #[rv a, iv x, .val (.double t), .second] [(.int (0 : Int32)), (.ref a)])) rfl rfl (hb hby dp23_12_25)
  have N19 := Fr.snoc X19 N15 la
  have G19 := FO17.same W19
  refine Goes.st st19 ?_
  have KK20 := KK16.wr W19 (Or.inl (List.mem_of_getElem? (i := 0) rfl))
  have Z19 : n0 ≤ h19.size := by have := W19.size; have := Z15; omega
  show Gs p e below s _ _ _ T19 m 28 #[rv a, iv x, .val (.double t), .second] []
  have f21 := (E17.wr W19)
  have f22 := (FI17.other W19 (Or.inr (slot_ne (Or.inr (hwk hw 13 rfl)) (Or.inl (hwk hw 10 rfl)) (by decide) (t := (.array .int)) (t' := .boolean) (by decide) (by decide))))
  have f23 := (FT17.other W19 (Or.inr (slot_ne (Or.inr (hwk hw 16 rfl)) (Or.inl (hwk hw 10 rfl)) (by decide) (t := (.array .double)) (t' := .boolean) (by decide) (by decide))))
  have f24 := (FP17.other W19 (Or.inr (slot_ne (Or.inr (hwk hw 18 rfl)) (Or.inl (hwk hw 10 rfl)) (by decide) (t := (.array .int)) (t' := .boolean) (by decide) (by decide))))
  have f25 := (FS17.other W19 (Or.inr (slot_ne (Or.inl (hwk hw 30 rfl)) (Or.inl (hwk hw 10 rfl)) (by decide) (t := .int) (t' := .boolean) (by decide) (by decide))))
  have f26 := (VI17.other W19 (Ne.symm naI))
  have f27 := (VT17.other W19 (Ne.symm naT))
  have f28 := (VP17.other W19 (Ne.symm naP))
  have HR29 : HR Z h19 a aI aT aP kI kT kP (upd I (1 : Int32) x) (upd D (1 : Int32) t) (upd P x (1 : Int32)) (2 : Int32) (0 : Int32) := ⟨f21, f22, f23, f24, f25, G19, f26, f27, f28⟩
  refine Goes.retV X19 hx hlk hret (hb hby dp23_12_28) ?_ (by decide) (by decide)
  rw [e19]
  exact ⟨(upd I (1 : Int32) x), (upd D (1 : Int32) t), (upd P x (1 : Int32)), (0 : Int32), rfl, N19, KK20, HR29, inv18⟩
theorem ef_A2 (m : MethodId) (x0 : Addr) (x1 : Int32) (x2 : UInt64) : entryFrame m #[(.ref x0), (.int x1), (.double x2)] 5 = mkF m 0 #[rv x0, iv x1, .val (.double x2), .second, .unset] [] := by first | (simp [entryFrame, mkF, argsToLocals, Value.category]; done) | rfl
def QA2 (Z : State) (a aI aT aP : Addr) (kI kT kP : ClassId) (I : Int32 → Int32) (D : Int32 → UInt64) (P : Int32 → Int32) (o x : Int32) (t : UInt64) (S : Int32 → Prop) (h0 : Heap) (n0 : Nat) (v : Option Value) (h : Heap) (L : List Loc) : Prop := ∃ (I1 : Int32 → Int32) (D1 : Int32 → UInt64) (P1 : Int32 → Int32) (o1 : Int32), v = none ∧ Fr n0 L ∧ Keep h0 h [a, aI, aT, aP] ∧ HR Z h a aI aT aP kI kT kP I1 D1 P1 (3 : Int32) o1 ∧ Inv (3 : Int32) (fun i => S i ∨ i = x) I1 P1
set_option maxRecDepth 65536 in
set_option maxHeartbeats 40000000 in
theorem rmA2 (l : Launch) (Z : State) (a0 : Array Value) (hw : ∀ d ∈ tables_1, d.before a0 Z = true) (ws : List Jvm.Cond) (a aI aT aP : Addr) (kI kT kP : ClassId) (I : Int32 → Int32) (D : Int32 → UInt64) (P : Int32 → Int32) (o x : Int32) (t : UInt64) (S : Int32 → Prop) (h0 : Heap) (n0 : Nat) (Z0 : n0 ≤ h0.size) (hB : HB n0 a aI aT aP) (hR : HR Z h0 a aI aT aP kI kT kP I D P (2 : Int32) o) (hx4 : In4 x) (hI : Inv (2 : Int32) S I P) (hS : ¬ S x) (ht : NoNaN64 t) :
    MetFree l mN9 (head1 (Jvm.Cond.code mN9 prog_23_method_11_code 5 none :: ws) ({ frames := 3, cells := 0, slots := 0, locals := 41 } : Room)) (fun aa U => aa = #[(.ref a), (.int x), (.double t)] ∧ Z.Warmed39 U.vm ∧ U.heap = h0) (fun _ _ _ _ _ => True) (fun _ u1_ o_ u2_ => ∃ v_ l_, o_ = .returned v_ ∧ QA2 Z a aI aT aP kI kT kP I D P o x t S h0 n0 v_ u2_.heap l_ ∧ FrameEnd u1_ o_ u2_ l_ ({ frames := 3, cells := 0, slots := 0, locals := 41 } : Room).cells ({ frames := 3, cells := 0, slots := 0, locals := 41 } : Room).slots) := by
  refine MetFree.of_bodySF (plainFor_of_name pn_com_example_redoubt_redoubt_engine_IndexHeap) hisR ?_
  intro p e s m args below meth c s₁ Bd hml0 hP hK
  obtain ⟨rfl, hZ, hh⟩ := hP
  have hx := Bd.exec
  have hby := Bd.bytes
  have hlk := BodyLoose.notSynchronized Bd
  have hret := Bd.returns
  have hml : c.maxLocals = 5 := hml0
  have hown : s.vm.findClass "com/example/redoubt/redoubt/engine/IndexHeap" = some m.cls := findClass_of_methodNamed Bd.named
  have hnm := (name_of_methodNamed Bd.named Bd.method).1
  have X0 : Stand p l e ({ frames := 3, cells := 0, slots := 0, locals := 41 } : Room) s m #[(.ref a), (.int x), (.double t)] below meth c s₁ [] 0 0 := Stand.of_body Bd
  have e0 : s₁.heap = h0 := by rw [← hh, Bd.state]; rfl
  have N0 := Fr.nil n0
  refine Goes.st (s := s) (Q := QA2 Z a aI aT aP kI kT kP I D P o x t S h0 n0) (cs := ({ frames := 3, cells := 0, slots := 0, locals := 41 } : Room).cells) (ss := ({ frames := 3, cells := 0, slots := 0, locals := 41 } : Room).slots) (fun tg kg => castTop (ef_A2 m a x t) kg) ?_
  obtain ⟨la, lI, lT, lP, naI, naT, naP, nIT, nIP, nTP⟩ := id hB
  obtain ⟨E1, FI1, FT1, FP1, FS1, FO1, VI1, VT1, VP1⟩ := id hR
  have K0 : Keep h0 h0 [a, aI, aT, aP] := Keep.refl _ _
  have hol0 : Hol (3 : Int32) (2 : Int32) x (fun i => S i ∨ i = x) I P := (hol_new (n := (2 : Int32)) (n' := (3 : Int32)) hI (fun j hj h => by rcases hj with rfl | rfl | rfl | rfl <;> revert h <;> decide) (fun j hj h h2 => by rcases hj with rfl | rfl | rfl | rfl <;> revert h h2 <;> decide) (fun j h e => by subst e; revert h; decide))
  show Gs p e below s _ _ _ s₁ m 0 #[rv a, iv x, .val (.double t), .second, .unset] []
  refine galoadN X0 hx (hb hby dp23_11_0) rfl rfl ?_
  refine giloadN X0 hx (hb hby dp23_11_1) rfl ?_
  refine gdloadN X0 hx (hb hby dp23_11_2) rfl ?_
  obtain ⟨cc2, qa2, qb2⟩ := Exa.cell E1
  obtain ⟨_, _, ⟨T2, L2, k2, n2⟩, -, X2, ⟨Lc2, hQ2, l2, y2, z2⟩, st2⟩ := X0.privateBack hx (y := mN4) hown (mvT hZ (hwk hw 50 rfl)) (mvT hZ (hwk hw 51 rfl)) (selP (y := mN4) (as := #[]) (mvT hZ (hwk hw 1 rfl)) (mvP hZ (hwk hw 52 rfl)) (mvT hZ (hwk hw 51 rfl)) (by decide)) (Cond.privateMethod_at (mvP hZ (hwk hw 52 rfl) (args := #[]))) (mvT hZ (hwk hw 53 rfl)) (by decide) (backOf (W := 0) (rmRn l Z a0 hw [] a x t aP kP P h0 n0 Z0 FP1 VP1 hx4 (inv_fresh hI hx4 hS) ht) hZ (hwk hw 53 rfl) (hwk hw 2 rfl) (by decide) (by decide)) (g := (mkF m 3 #[rv a, iv x, .val (.double t), .second, .unset] [(.double t), (.int x), (.ref a)])) rfl (by rw [hml]; rfl) (Steps.refl _) (a := a) (by rw [e0]; exact qa2) qb2 (argsL := [(.int x), (.double t)]) (rest := []) (lenOf pd__ID_V_b10 rfl) rfl (by show 2 * 0 + _ ≤ _; exact Nat.le_of_eq rfl) (hb hby dp23_11_3) (fun _ _ => ⟨rfl, e0, (by decide : 0 + 0 ≤ 0), (by decide : 0 + 0 ≤ 0)⟩)
  dsimp only [Pt.U, Pt.locs, Pt.cells, Pt.slots] at X2 l2 y2 z2 st2 hQ2
  subst l2 y2 z2
  obtain ⟨rfl, N2q, eh2⟩ := hQ2
  have N2 := Fr.app N0 N2q
  refine Goes.sts st2 ?_
  show Gs p e below s _ _ _ T2 m 6 #[rv a, iv x, .val (.double t), .second, .unset] []
  refine galoadN X2 hx (hb hby dp23_11_6) rfl rfl ?_
  refine gdup X2 hx (hb hby dp23_11_7) trivial rfl ?_
  obtain ⟨T3, X3, e3, st3⟩ := getF X2 hx hZ hown (host := "") (Or.inl (hwk hw 29 rfl)) Via.refl eh2 FS1 (g := (mkF m 8 #[rv a, iv x, .val (.double t), .second, .unset] [(.ref a), (.ref a)])) rfl rfl (hb hby dp23_11_8)
  refine Goes.st st3 ?_
  show Gs p e below s _ _ _ T3 m 11 #[rv a, iv x, .val (.double t), .second, .unset] [(.int (2 : Int32)), (.ref a)]
  refine Goes.st (fun tg kg => XT.dupX1 X3.here hx rfl (hb hby dp23_11_11) rfl rfl rfl kg) ?_
  show Gs p e below s _ _ _ T3 m 12 #[rv a, iv x, .val (.double t), .second, .unset] [(.int (2 : Int32)), (.ref a), (.int (2 : Int32))]
  refine giconst X3 hx (hb hby dp23_11_12) ?_
  refine giadd X3 hx (hb hby dp23_11_13) trivial ?_
  show Gs p e below s _ _ _ T3 m 14 #[rv a, iv x, .val (.double t), .second, .unset] [(.int ((2 : Int32) + (1 : Int32))), (.ref a), (.int (2 : Int32))]
  rw [show ((2 : Int32) + (1 : Int32)) = (3 : Int32) from by decide]
  show Gs p e below s _ _ _ T3 m 14 #[rv a, iv x, .val (.double t), .second, .unset] [(.int (3 : Int32)), (.ref a), (.int (2 : Int32))]
  obtain ⟨T4, h4, X4, e4, W4, st4⟩ := putF X3 hx hZ hown (host := "") (Or.inl (hwk hw 29 rfl)) Via.refl e3 FS1 E1 (Or.inl (hwk hw 30 rfl)) (hwk hw 1 rfl) (ty := .int) (by decide) rfl rfl (g := (mkF m 14 #[rv a, iv x, .val (.double t), .second, .unset] [(.int (3 : Int32)), (.ref a), (.int (2 : Int32))])) rfl rfl (hb hby dp23_11_14)
  have N4 := Fr.snoc X4 N2 la
  have G4 := FS1.same W4
  refine Goes.st st4 ?_
  have KK5 := K0.wr W4 (Or.inl (List.mem_of_getElem? (i := 0) rfl))
  have Z4 : n0 ≤ h4.size := by have := W4.size; have := Z0; omega
  show Gs p e below s _ _ _ T4 m 17 #[rv a, iv x, .val (.double t), .second, .unset] [(.int (2 : Int32))]
  refine gistore X4 hx (hb hby dp23_11_17) trivial (l' := #[rv a, iv x, .val (.double t), .second, iv (2 : Int32)]) rfl ?_
  refine galoadN X4 hx (hb hby dp23_11_19) rfl rfl ?_
  have f7 := (FO1.other W4 (Or.inr (slot_ne (Or.inl (hwk hw 10 rfl)) (Or.inl (hwk hw 30 rfl)) (by decide) (t := .boolean) (t' := .int) (by decide) (by decide))))
  obtain ⟨T6, X6, e6, st6⟩ := getF X4 hx hZ hown (host := "") (Or.inl (hwk hw 9 rfl)) Via.refl e4 f7 (g := (mkF m 20 #[rv a, iv x, .val (.double t), .second, iv (2 : Int32)] [(.ref a)])) rfl rfl (hb hby dp23_11_20)
  refine Goes.st st6 ?_
  show Gs p e below s _ _ _ T6 m 23 #[rv a, iv x, .val (.double t), .second, iv (2 : Int32)] [(.int o)]
  by_cases c8 : o = (0 : Int32)
  · refine gifYes X6 hx (pc' := 37) (hb hby dp23_11_23) ((if0 _ _).trans (teq c8).1) (by decide) (by decide) ?_
    show Gs p e below s _ _ _ T6 m 37 #[rv a, iv x, .val (.double t), .second, iv (2 : Int32)] []
    refine galoadN X6 hx (hb hby dp23_11_37) rfl rfl ?_
    refine giload X6 hx (hb hby dp23_11_38) rfl ?_
    refine giloadN X6 hx (hb hby dp23_11_40) rfl ?_
    refine gdloadN X6 hx (hb hby dp23_11_41) rfl ?_
    have f9 := (E1.wr W4)
    have f10 := (FI1.other W4 (Or.inr (slot_ne (Or.inr (hwk hw 13 rfl)) (Or.inl (hwk hw 30 rfl)) (by decide) (t := (.array .int)) (t' := .int) (by decide) (by decide))))
    have f11 := (FT1.other W4 (Or.inr (slot_ne (Or.inr (hwk hw 16 rfl)) (Or.inl (hwk hw 30 rfl)) (by decide) (t := (.array .double)) (t' := .int) (by decide) (by decide))))
    have f12 := (FP1.other W4 (Or.inr (slot_ne (Or.inr (hwk hw 18 rfl)) (Or.inl (hwk hw 30 rfl)) (by decide) (t := (.array .int)) (t' := .int) (by decide) (by decide))))
    have f13 := (VI1.other W4 (Ne.symm naI))
    have f14 := (VT1.other W4 (Ne.symm naT))
    have f15 := (VP1.other W4 (Ne.symm naP))
    have HR16 : HR Z h4 a aI aT aP kI kT kP I D P (3 : Int32) o := ⟨f9, f10, f11, f12, G4, f7, f13, f14, f15⟩
    obtain ⟨cc17, qa17, qb17⟩ := Exa.cell f9
    obtain ⟨_, _, ⟨T17, L17, k17, n17⟩, -, X17, ⟨Lc17, hQ17, l17, y17, z17⟩, st17⟩ := X6.privateBack hx (y := mN5) hown (mvT hZ (hwk hw 65 rfl)) (mvT hZ (hwk hw 66 rfl)) (selP (y := mN5) (as := #[]) (mvT hZ (hwk hw 1 rfl)) (mvP hZ (hwk hw 67 rfl)) (mvT hZ (hwk hw 66 rfl)) (by decide)) (Cond.privateMethod_at (mvP hZ (hwk hw 67 rfl) (args := #[]))) (mvT hZ (hwk hw 68 rfl)) (by decide) (backOf (W := 0) (rmPu l Z a0 hw [] a aI aT aP kI kT kP I D P (3 : Int32) o (2 : Int32) x t h4 n0 Z4 hB HR16 i4_2 hx4) hZ (hwk hw 68 rfl) (hwk hw 2 rfl) (by decide) (by decide)) (g := (mkF m 42 #[rv a, iv x, .val (.double t), .second, iv (2 : Int32)] [(.double t), (.int x), (.int (2 : Int32)), (.ref a)])) rfl (by rw [hml]; rfl) (Steps.refl _) (a := a) (by rw [e6]; exact qa17) qb17 (argsL := [(.int (2 : Int32)), (.int x), (.double t)]) (rest := []) (lenOf pd__IID_V_e64 rfl) rfl (by show 2 * 0 + _ ≤ _; exact Nat.le_of_eq rfl) (hb hby dp23_11_42) (fun _ _ => ⟨rfl, e6, (by decide : 0 + 0 ≤ 0), (by decide : 0 + 0 ≤ 0)⟩)
    dsimp only [Pt.U, Pt.locs, Pt.cells, Pt.slots] at X17 l17 y17 z17 st17 hQ17
    subst l17 y17 z17
    obtain ⟨rfl, N17q, K17, HQ17⟩ := hQ17
    have KK18 := KK5.trans K17 (allS (Or.inl (List.mem_of_getElem? (i := 0) rfl)) (allS (Or.inl (List.mem_of_getElem? (i := 1) rfl)) (allS (Or.inl (List.mem_of_getElem? (i := 2) rfl)) (allS (Or.inl (List.mem_of_getElem? (i := 3) rfl)) all0))))
    have Z17 : n0 ≤ T17.heap.size := Nat.le_trans Z4 K17.1
    obtain ⟨E19, FI19, FT19, FP19, FS19, FO19, VI19, VT19, VP19⟩ := id HQ17
    have inv20 := hol_end hol0 i4_2 (by decide) hx4 (Or.inr rfl)
    have N17 := Fr.app N4 N17q
    refine Goes.sts st17 ?_
    show Gs p e below s _ _ _ T17 m 45 #[rv a, iv x, .val (.double t), .second, iv (2 : Int32)] []
    have HR21 : HR Z T17.heap a aI aT aP kI kT kP (upd I (2 : Int32) x) (upd D (2 : Int32) t) (upd P x (2 : Int32)) (3 : Int32) o := ⟨E19, FI19, FT19, FP19, FS19, FO19, VI19, VT19, VP19⟩
    refine Goes.retV X17 hx hlk hret (hb hby dp23_11_45) ?_ (by decide) (by decide)
    exact ⟨(upd I (2 : Int32) x), (upd D (2 : Int32) t), (upd P x (2 : Int32)), o, rfl, N17, KK18, HR21, inv20⟩
  · refine gifNo X6 hx (hb hby dp23_11_23) ((if0 _ _).trans (feq c8).1) ?_
    show Gs p e below s _ _ _ T6 m 26 #[rv a, iv x, .val (.double t), .second, iv (2 : Int32)] []
    refine galoadN X6 hx (hb hby dp23_11_26) rfl rfl ?_
    refine giload X6 hx (hb hby dp23_11_27) rfl ?_
    refine giloadN X6 hx (hb hby dp23_11_29) rfl ?_
    refine gdloadN X6 hx (hb hby dp23_11_30) rfl ?_
    have f22 := (E1.wr W4)
    have f23 := (FI1.other W4 (Or.inr (slot_ne (Or.inr (hwk hw 13 rfl)) (Or.inl (hwk hw 30 rfl)) (by decide) (t := (.array .int)) (t' := .int) (by decide) (by decide))))
    have f24 := (FT1.other W4 (Or.inr (slot_ne (Or.inr (hwk hw 16 rfl)) (Or.inl (hwk hw 30 rfl)) (by decide) (t := (.array .double)) (t' := .int) (by decide) (by decide))))
    have f25 := (FP1.other W4 (Or.inr (slot_ne (Or.inr (hwk hw 18 rfl)) (Or.inl (hwk hw 30 rfl)) (by decide) (t := (.array .int)) (t' := .int) (by decide) (by decide))))
    have f26 := (VI1.other W4 (Ne.symm naI))
    have f27 := (VT1.other W4 (Ne.symm naT))
    have f28 := (VP1.other W4 (Ne.symm naP))
    have HR29 : HR Z h4 a aI aT aP kI kT kP I D P (3 : Int32) o := ⟨f22, f23, f24, f25, G4, f7, f26, f27, f28⟩
    obtain ⟨cc30, qa30, qb30⟩ := Exa.cell f22
    obtain ⟨_, _, ⟨T30, L30, k30, n30⟩, -, X30, ⟨Lc30, hQ30, l30, y30, z30⟩, st30⟩ := X6.privateBack hx (y := mN7) hown (mvT hZ (hwk hw 61 rfl)) (mvT hZ (hwk hw 62 rfl)) (selP (y := mN7) (as := #[]) (mvT hZ (hwk hw 1 rfl)) (mvP hZ (hwk hw 63 rfl)) (mvT hZ (hwk hw 62 rfl)) (by decide)) (Cond.privateMethod_at (mvP hZ (hwk hw 63 rfl) (args := #[]))) (mvT hZ (hwk hw 64 rfl)) (by decide) (backOf (W := 0) (rmU2 l Z a0 hw [] a aI aT aP kI kT kP I D P (3 : Int32) o x t (fun i => S i ∨ i = x) h4 n0 Z4 hB HR29 hx4 hol0 (Or.inr rfl) (by decide)) hZ (hwk hw 64 rfl) (hwk hw 2 rfl) (by decide) (by decide)) (g := (mkF m 31 #[rv a, iv x, .val (.double t), .second, iv (2 : Int32)] [(.double t), (.int x), (.int (2 : Int32)), (.ref a)])) rfl (by rw [hml]; rfl) (Steps.refl _) (a := a) (by rw [e6]; exact qa30) qb30 (argsL := [(.int (2 : Int32)), (.int x), (.double t)]) (rest := []) (lenOf pd__IID_V_e64 rfl) rfl (by show 2 * 0 + _ ≤ _; exact Nat.le_of_eq rfl) (hb hby dp23_11_31) (fun _ _ => ⟨rfl, e6, (by decide : 0 + 0 ≤ 0), (by decide : 0 + 0 ≤ 0)⟩)
    dsimp only [Pt.U, Pt.locs, Pt.cells, Pt.slots] at X30 l30 y30 z30 st30 hQ30
    subst l30 y30 z30
    obtain ⟨I30, D30, P30, rfl, N30q, K30, HQ30, inv30⟩ := hQ30
    have KK31 := KK5.trans K30 (allS (Or.inl (List.mem_of_getElem? (i := 0) rfl)) (allS (Or.inl (List.mem_of_getElem? (i := 1) rfl)) (allS (Or.inl (List.mem_of_getElem? (i := 2) rfl)) (allS (Or.inl (List.mem_of_getElem? (i := 3) rfl)) all0))))
    have Z30 : n0 ≤ T30.heap.size := Nat.le_trans Z4 K30.1
    obtain ⟨E32, FI32, FT32, FP32, FS32, FO32, VI32, VT32, VP32⟩ := id HQ30
    have N30 := Fr.app N4 N30q
    refine Goes.sts st30 ?_
    show Gs p e below s _ _ _ T30 m 34 #[rv a, iv x, .val (.double t), .second, iv (2 : Int32)] []
    refine ggoto X30 hx (pc' := 45) (hb hby dp23_11_34) (by decide) (by decide) ?_
    show Gs p e below s _ _ _ T30 m 45 #[rv a, iv x, .val (.double t), .second, iv (2 : Int32)] []
    have HR33 : HR Z T30.heap a aI aT aP kI kT kP I30 D30 P30 (3 : Int32) o := ⟨E32, FI32, FT32, FP32, FS32, FO32, VI32, VT32, VP32⟩
    refine Goes.retV X30 hx hlk hret (hb hby dp23_11_45) ?_ (by decide) (by decide)
    exact ⟨I30, D30, P30, o, rfl, N30, KK31, HR33, inv30⟩
theorem ef_Q2 (m : MethodId) (x0 : Addr) (x1 : Int32) (x2 : UInt64) : entryFrame m #[(.ref x0), (.int x1), (.double x2)] 4 = mkF m 0 #[rv x0, iv x1, .val (.double x2), .second] [] := by first | (simp [entryFrame, mkF, argsToLocals, Value.category]; done) | rfl
def QQ2 (Z : State) (a aI aT aP : Addr) (kI kT kP : ClassId) (I : Int32 → Int32) (D : Int32 → UInt64) (P : Int32 → Int32) (o x : Int32) (t : UInt64) (S : Int32 → Prop) (h0 : Heap) (n0 : Nat) (v : Option Value) (h : Heap) (L : List Loc) : Prop := ∃ (I1 : Int32 → Int32) (D1 : Int32 → UInt64) (P1 : Int32 → Int32) (o1 : Int32), v = none ∧ Fr n0 L ∧ Keep h0 h [a, aI, aT, aP] ∧ HR Z h a aI aT aP kI kT kP I1 D1 P1 (3 : Int32) o1 ∧ Inv (3 : Int32) (fun i => S i ∨ i = x) I1 P1
set_option maxRecDepth 65536 in
set_option maxHeartbeats 40000000 in
theorem rmQ2 (l : Launch) (Z : State) (a0 : Array Value) (hw : ∀ d ∈ tables_1, d.before a0 Z = true) (ws : List Jvm.Cond) (a aI aT aP : Addr) (kI kT kP : ClassId) (I : Int32 → Int32) (D : Int32 → UInt64) (P : Int32 → Int32) (o x : Int32) (t : UInt64) (S : Int32 → Prop) (h0 : Heap) (n0 : Nat) (Z0 : n0 ≤ h0.size) (hB : HB n0 a aI aT aP) (hR : HR Z h0 a aI aT aP kI kT kP I D P (2 : Int32) o) (hx4 : In4 x) (hI : Inv (2 : Int32) S I P) (hS : ¬ S x) (ht : NoNaN64 t) :
    MetFree l mN10 (head1 (Jvm.Cond.code mN10 prog_23_method_12_code 4 none :: ws) ({ frames := 3, cells := 0, slots := 0, locals := 41 } : Room)) (fun aa U => aa = #[(.ref a), (.int x), (.double t)] ∧ Z.Warmed39 U.vm ∧ U.heap = h0) (fun _ _ _ _ _ => True) (fun _ u1_ o_ u2_ => ∃ v_ l_, o_ = .returned v_ ∧ QQ2 Z a aI aT aP kI kT kP I D P o x t S h0 n0 v_ u2_.heap l_ ∧ FrameEnd u1_ o_ u2_ l_ ({ frames := 3, cells := 0, slots := 0, locals := 41 } : Room).cells ({ frames := 3, cells := 0, slots := 0, locals := 41 } : Room).slots) := by
  refine MetFree.of_bodySF (plainFor_of_name pn_com_example_redoubt_redoubt_engine_IndexHeap) hisR ?_
  intro p e s m args below meth c s₁ Bd hml0 hP hK
  obtain ⟨rfl, hZ, hh⟩ := hP
  have hx := Bd.exec
  have hby := Bd.bytes
  have hlk := BodyLoose.notSynchronized Bd
  have hret := Bd.returns
  have hml : c.maxLocals = 4 := hml0
  have hown : s.vm.findClass "com/example/redoubt/redoubt/engine/IndexHeap" = some m.cls := findClass_of_methodNamed Bd.named
  have hnm := (name_of_methodNamed Bd.named Bd.method).1
  have X0 : Stand p l e ({ frames := 3, cells := 0, slots := 0, locals := 41 } : Room) s m #[(.ref a), (.int x), (.double t)] below meth c s₁ [] 0 0 := Stand.of_body Bd
  have e0 : s₁.heap = h0 := by rw [← hh, Bd.state]; rfl
  have N0 := Fr.nil n0
  refine Goes.st (s := s) (Q := QQ2 Z a aI aT aP kI kT kP I D P o x t S h0 n0) (cs := ({ frames := 3, cells := 0, slots := 0, locals := 41 } : Room).cells) (ss := ({ frames := 3, cells := 0, slots := 0, locals := 41 } : Room).slots) (fun tg kg => castTop (ef_Q2 m a x t) kg) ?_
  obtain ⟨la, lI, lT, lP, naI, naT, naP, nIT, nIP, nTP⟩ := id hB
  obtain ⟨E1, FI1, FT1, FP1, FS1, FO1, VI1, VT1, VP1⟩ := id hR
  have K0 : Keep h0 h0 [a, aI, aT, aP] := Keep.refl _ _
  have hol0 : Hol (3 : Int32) (2 : Int32) x (fun i => S i ∨ i = x) I P := (hol_new (n := (2 : Int32)) (n' := (3 : Int32)) hI (fun j hj h => by rcases hj with rfl | rfl | rfl | rfl <;> revert h <;> decide) (fun j hj h h2 => by rcases hj with rfl | rfl | rfl | rfl <;> revert h h2 <;> decide) (fun j h e => by subst e; revert h; decide))
  show Gs p e below s _ _ _ s₁ m 0 #[rv a, iv x, .val (.double t), .second] []
  refine galoadN X0 hx (hb hby dp23_12_0) rfl rfl ?_
  refine giloadN X0 hx (hb hby dp23_12_1) rfl ?_
  refine gdloadN X0 hx (hb hby dp23_12_2) rfl ?_
  obtain ⟨cc2, qa2, qb2⟩ := Exa.cell E1
  obtain ⟨_, _, ⟨T2, L2, k2, n2⟩, -, X2, ⟨Lc2, hQ2, l2, y2, z2⟩, st2⟩ := X0.privateBack hx (y := mN4) hown (mvT hZ (hwk hw 50 rfl)) (mvT hZ (hwk hw 51 rfl)) (selP (y := mN4) (as := #[]) (mvT hZ (hwk hw 1 rfl)) (mvP hZ (hwk hw 52 rfl)) (mvT hZ (hwk hw 51 rfl)) (by decide)) (Cond.privateMethod_at (mvP hZ (hwk hw 52 rfl) (args := #[]))) (mvT hZ (hwk hw 53 rfl)) (by decide) (backOf (W := 0) (rmRn l Z a0 hw [] a x t aP kP P h0 n0 Z0 FP1 VP1 hx4 (inv_fresh hI hx4 hS) ht) hZ (hwk hw 53 rfl) (hwk hw 2 rfl) (by decide) (by decide)) (g := (mkF m 3 #[rv a, iv x, .val (.double t), .second] [(.double t), (.int x), (.ref a)])) rfl (by rw [hml]; rfl) (Steps.refl _) (a := a) (by rw [e0]; exact qa2) qb2 (argsL := [(.int x), (.double t)]) (rest := []) (lenOf pd__ID_V_b10 rfl) rfl (by show 2 * 0 + _ ≤ _; exact Nat.le_of_eq rfl) (hb hby dp23_12_3) (fun _ _ => ⟨rfl, e0, (by decide : 0 + 0 ≤ 0), (by decide : 0 + 0 ≤ 0)⟩)
  dsimp only [Pt.U, Pt.locs, Pt.cells, Pt.slots] at X2 l2 y2 z2 st2 hQ2
  subst l2 y2 z2
  obtain ⟨rfl, N2q, eh2⟩ := hQ2
  have N2 := Fr.app N0 N2q
  refine Goes.sts st2 ?_
  show Gs p e below s _ _ _ T2 m 6 #[rv a, iv x, .val (.double t), .second] []
  refine galoadN X2 hx (hb hby dp23_12_6) rfl rfl ?_
  refine galoadN X2 hx (hb hby dp23_12_7) rfl rfl ?_
  refine gdup X2 hx (hb hby dp23_12_8) trivial rfl ?_
  obtain ⟨T3, X3, e3, st3⟩ := getF X2 hx hZ hown (host := "") (Or.inl (hwk hw 29 rfl)) Via.refl eh2 FS1 (g := (mkF m 9 #[rv a, iv x, .val (.double t), .second] [(.ref a), (.ref a), (.ref a)])) rfl rfl (hb hby dp23_12_9)
  refine Goes.st st3 ?_
  show Gs p e below s _ _ _ T3 m 12 #[rv a, iv x, .val (.double t), .second] [(.int (2 : Int32)), (.ref a), (.ref a)]
  refine Goes.st (fun tg kg => XT.dupX1 X3.here hx rfl (hb hby dp23_12_12) rfl rfl rfl kg) ?_
  show Gs p e below s _ _ _ T3 m 13 #[rv a, iv x, .val (.double t), .second] [(.int (2 : Int32)), (.ref a), (.int (2 : Int32)), (.ref a)]
  refine giconst X3 hx (hb hby dp23_12_13) ?_
  refine giadd X3 hx (hb hby dp23_12_14) trivial ?_
  show Gs p e below s _ _ _ T3 m 15 #[rv a, iv x, .val (.double t), .second] [(.int ((2 : Int32) + (1 : Int32))), (.ref a), (.int (2 : Int32)), (.ref a)]
  rw [show ((2 : Int32) + (1 : Int32)) = (3 : Int32) from by decide]
  show Gs p e below s _ _ _ T3 m 15 #[rv a, iv x, .val (.double t), .second] [(.int (3 : Int32)), (.ref a), (.int (2 : Int32)), (.ref a)]
  obtain ⟨T4, h4, X4, e4, W4, st4⟩ := putF X3 hx hZ hown (host := "") (Or.inl (hwk hw 29 rfl)) Via.refl e3 FS1 E1 (Or.inl (hwk hw 30 rfl)) (hwk hw 1 rfl) (ty := .int) (by decide) rfl rfl (g := (mkF m 15 #[rv a, iv x, .val (.double t), .second] [(.int (3 : Int32)), (.ref a), (.int (2 : Int32)), (.ref a)])) rfl rfl (hb hby dp23_12_15)
  have N4 := Fr.snoc X4 N2 la
  have G4 := FS1.same W4
  refine Goes.st st4 ?_
  have KK5 := K0.wr W4 (Or.inl (List.mem_of_getElem? (i := 0) rfl))
  have Z4 : n0 ≤ h4.size := by have := W4.size; have := Z0; omega
  show Gs p e below s _ _ _ T4 m 18 #[rv a, iv x, .val (.double t), .second] [(.int (2 : Int32)), (.ref a)]
  refine giloadN X4 hx (hb hby dp23_12_18) rfl ?_
  refine gdloadN X4 hx (hb hby dp23_12_19) rfl ?_
  have f6 := (E1.wr W4)
  have f7 := (FI1.other W4 (Or.inr (slot_ne (Or.inr (hwk hw 13 rfl)) (Or.inl (hwk hw 30 rfl)) (by decide) (t := (.array .int)) (t' := .int) (by decide) (by decide))))
  have f8 := (FT1.other W4 (Or.inr (slot_ne (Or.inr (hwk hw 16 rfl)) (Or.inl (hwk hw 30 rfl)) (by decide) (t := (.array .double)) (t' := .int) (by decide) (by decide))))
  have f9 := (FP1.other W4 (Or.inr (slot_ne (Or.inr (hwk hw 18 rfl)) (Or.inl (hwk hw 30 rfl)) (by decide) (t := (.array .int)) (t' := .int) (by decide) (by decide))))
  have f10 := (FO1.other W4 (Or.inr (slot_ne (Or.inl (hwk hw 10 rfl)) (Or.inl (hwk hw 30 rfl)) (by decide) (t := .boolean) (t' := .int) (by decide) (by decide))))
  have f11 := (VI1.other W4 (Ne.symm naI))
  have f12 := (VT1.other W4 (Ne.symm naT))
  have f13 := (VP1.other W4 (Ne.symm naP))
  have HR14 : HR Z h4 a aI aT aP kI kT kP I D P (3 : Int32) o := ⟨f6, f7, f8, f9, G4, f10, f11, f12, f13⟩
  obtain ⟨cc15, qa15, qb15⟩ := Exa.cell f6
  obtain ⟨_, _, ⟨T15, L15, k15, n15⟩, -, X15, ⟨Lc15, hQ15, l15, y15, z15⟩, st15⟩ := X4.privateBack hx (y := mN5) hown (mvT hZ (hwk hw 65 rfl)) (mvT hZ (hwk hw 66 rfl)) (selP (y := mN5) (as := #[]) (mvT hZ (hwk hw 1 rfl)) (mvP hZ (hwk hw 67 rfl)) (mvT hZ (hwk hw 66 rfl)) (by decide)) (Cond.privateMethod_at (mvP hZ (hwk hw 67 rfl) (args := #[]))) (mvT hZ (hwk hw 68 rfl)) (by decide) (backOf (W := 0) (rmPu l Z a0 hw [] a aI aT aP kI kT kP I D P (3 : Int32) o (2 : Int32) x t h4 n0 Z4 hB HR14 i4_2 hx4) hZ (hwk hw 68 rfl) (hwk hw 2 rfl) (by decide) (by decide)) (g := (mkF m 20 #[rv a, iv x, .val (.double t), .second] [(.double t), (.int x), (.int (2 : Int32)), (.ref a)])) rfl (by rw [hml]; rfl) (Steps.refl _) (a := a) (by rw [e4]; exact qa15) qb15 (argsL := [(.int (2 : Int32)), (.int x), (.double t)]) (rest := []) (lenOf pd__IID_V_e64 rfl) rfl (by show 2 * 0 + _ ≤ _; exact Nat.le_of_eq rfl) (hb hby dp23_12_20) (fun _ _ => ⟨rfl, e4, (by decide : 0 + 0 ≤ 0), (by decide : 0 + 0 ≤ 0)⟩)
  dsimp only [Pt.U, Pt.locs, Pt.cells, Pt.slots] at X15 l15 y15 z15 st15 hQ15
  subst l15 y15 z15
  obtain ⟨rfl, N15q, K15, HQ15⟩ := hQ15
  have KK16 := KK5.trans K15 (allS (Or.inl (List.mem_of_getElem? (i := 0) rfl)) (allS (Or.inl (List.mem_of_getElem? (i := 1) rfl)) (allS (Or.inl (List.mem_of_getElem? (i := 2) rfl)) (allS (Or.inl (List.mem_of_getElem? (i := 3) rfl)) all0))))
  have Z15 : n0 ≤ T15.heap.size := Nat.le_trans Z4 K15.1
  obtain ⟨E17, FI17, FT17, FP17, FS17, FO17, VI17, VT17, VP17⟩ := id HQ15
  have inv18 := hol_end hol0 i4_2 (by decide) hx4 (Or.inr rfl)
  have N15 := Fr.app N4 N15q
  refine Goes.sts st15 ?_
  show Gs p e below s _ _ _ T15 m 23 #[rv a, iv x, .val (.double t), .second] []
  refine galoadN X15 hx (hb hby dp23_12_23) rfl rfl ?_
  refine giconst X15 hx (hb hby dp23_12_24) ?_
  obtain ⟨T19, h19, X19, e19, W19, st19⟩ := putFN X15 hx hZ hown (hwk hw 9 rfl) Via.refl rfl FO17 E17 (Or.inl (hwk hw 10 rfl)) (hwk hw 1 rfl) (ty := .boolean) (v' := (.int (0 : Int32))) (by decide) rfl (by decide) (g := (mkF m 25 #[rv a, iv x, .val (.double t), .second] [(.int (0 : Int32)), (.ref a)])) rfl rfl (hb hby dp23_12_25)
  have N19 := Fr.snoc X19 N15 la
  have G19 := FO17.same W19
  refine Goes.st st19 ?_
  have KK20 := KK16.wr W19 (Or.inl (List.mem_of_getElem? (i := 0) rfl))
  have Z19 : n0 ≤ h19.size := by have := W19.size; have := Z15; omega
  show Gs p e below s _ _ _ T19 m 28 #[rv a, iv x, .val (.double t), .second] []
  have f21 := (E17.wr W19)
  have f22 := (FI17.other W19 (Or.inr (slot_ne (Or.inr (hwk hw 13 rfl)) (Or.inl (hwk hw 10 rfl)) (by decide) (t := (.array .int)) (t' := .boolean) (by decide) (by decide))))
  have f23 := (FT17.other W19 (Or.inr (slot_ne (Or.inr (hwk hw 16 rfl)) (Or.inl (hwk hw 10 rfl)) (by decide) (t := (.array .double)) (t' := .boolean) (by decide) (by decide))))
  have f24 := (FP17.other W19 (Or.inr (slot_ne (Or.inr (hwk hw 18 rfl)) (Or.inl (hwk hw 10 rfl)) (by decide) (t := (.array .int)) (t' := .boolean) (by decide) (by decide))))
  have f25 := (FS17.other W19 (Or.inr (slot_ne (Or.inl (hwk hw 30 rfl)) (Or.inl (hwk hw 10 rfl)) (by decide) (t := .int) (t' := .boolean) (by decide) (by decide))))
  have f26 := (VI17.other W19 (Ne.symm naI))
  have f27 := (VT17.other W19 (Ne.symm naT))
  have f28 := (VP17.other W19 (Ne.symm naP))
  have HR29 : HR Z h19 a aI aT aP kI kT kP (upd I (2 : Int32) x) (upd D (2 : Int32) t) (upd P x (2 : Int32)) (3 : Int32) (0 : Int32) := ⟨f21, f22, f23, f24, f25, G19, f26, f27, f28⟩
  refine Goes.retV X19 hx hlk hret (hb hby dp23_12_28) ?_ (by decide) (by decide)
  rw [e19]
  exact ⟨(upd I (2 : Int32) x), (upd D (2 : Int32) t), (upd P x (2 : Int32)), (0 : Int32), rfl, N19, KK20, HR29, inv18⟩
theorem ef_A3 (m : MethodId) (x0 : Addr) (x1 : Int32) (x2 : UInt64) : entryFrame m #[(.ref x0), (.int x1), (.double x2)] 5 = mkF m 0 #[rv x0, iv x1, .val (.double x2), .second, .unset] [] := by first | (simp [entryFrame, mkF, argsToLocals, Value.category]; done) | rfl
def QA3 (Z : State) (a aI aT aP : Addr) (kI kT kP : ClassId) (I : Int32 → Int32) (D : Int32 → UInt64) (P : Int32 → Int32) (o x : Int32) (t : UInt64) (S : Int32 → Prop) (h0 : Heap) (n0 : Nat) (v : Option Value) (h : Heap) (L : List Loc) : Prop := ∃ (I1 : Int32 → Int32) (D1 : Int32 → UInt64) (P1 : Int32 → Int32) (o1 : Int32), v = none ∧ Fr n0 L ∧ Keep h0 h [a, aI, aT, aP] ∧ HR Z h a aI aT aP kI kT kP I1 D1 P1 (4 : Int32) o1 ∧ Inv (4 : Int32) (fun i => S i ∨ i = x) I1 P1
set_option maxRecDepth 65536 in
set_option maxHeartbeats 40000000 in
theorem rmA3 (l : Launch) (Z : State) (a0 : Array Value) (hw : ∀ d ∈ tables_1, d.before a0 Z = true) (ws : List Jvm.Cond) (a aI aT aP : Addr) (kI kT kP : ClassId) (I : Int32 → Int32) (D : Int32 → UInt64) (P : Int32 → Int32) (o x : Int32) (t : UInt64) (S : Int32 → Prop) (h0 : Heap) (n0 : Nat) (Z0 : n0 ≤ h0.size) (hB : HB n0 a aI aT aP) (hR : HR Z h0 a aI aT aP kI kT kP I D P (3 : Int32) o) (hx4 : In4 x) (hI : Inv (3 : Int32) S I P) (hS : ¬ S x) (ht : NoNaN64 t) :
    MetFree l mN9 (head1 (Jvm.Cond.code mN9 prog_23_method_11_code 5 none :: ws) ({ frames := 3, cells := 0, slots := 0, locals := 41 } : Room)) (fun aa U => aa = #[(.ref a), (.int x), (.double t)] ∧ Z.Warmed39 U.vm ∧ U.heap = h0) (fun _ _ _ _ _ => True) (fun _ u1_ o_ u2_ => ∃ v_ l_, o_ = .returned v_ ∧ QA3 Z a aI aT aP kI kT kP I D P o x t S h0 n0 v_ u2_.heap l_ ∧ FrameEnd u1_ o_ u2_ l_ ({ frames := 3, cells := 0, slots := 0, locals := 41 } : Room).cells ({ frames := 3, cells := 0, slots := 0, locals := 41 } : Room).slots) := by
  refine MetFree.of_bodySF (plainFor_of_name pn_com_example_redoubt_redoubt_engine_IndexHeap) hisR ?_
  intro p e s m args below meth c s₁ Bd hml0 hP hK
  obtain ⟨rfl, hZ, hh⟩ := hP
  have hx := Bd.exec
  have hby := Bd.bytes
  have hlk := BodyLoose.notSynchronized Bd
  have hret := Bd.returns
  have hml : c.maxLocals = 5 := hml0
  have hown : s.vm.findClass "com/example/redoubt/redoubt/engine/IndexHeap" = some m.cls := findClass_of_methodNamed Bd.named
  have hnm := (name_of_methodNamed Bd.named Bd.method).1
  have X0 : Stand p l e ({ frames := 3, cells := 0, slots := 0, locals := 41 } : Room) s m #[(.ref a), (.int x), (.double t)] below meth c s₁ [] 0 0 := Stand.of_body Bd
  have e0 : s₁.heap = h0 := by rw [← hh, Bd.state]; rfl
  have N0 := Fr.nil n0
  refine Goes.st (s := s) (Q := QA3 Z a aI aT aP kI kT kP I D P o x t S h0 n0) (cs := ({ frames := 3, cells := 0, slots := 0, locals := 41 } : Room).cells) (ss := ({ frames := 3, cells := 0, slots := 0, locals := 41 } : Room).slots) (fun tg kg => castTop (ef_A3 m a x t) kg) ?_
  obtain ⟨la, lI, lT, lP, naI, naT, naP, nIT, nIP, nTP⟩ := id hB
  obtain ⟨E1, FI1, FT1, FP1, FS1, FO1, VI1, VT1, VP1⟩ := id hR
  have K0 : Keep h0 h0 [a, aI, aT, aP] := Keep.refl _ _
  have hol0 : Hol (4 : Int32) (3 : Int32) x (fun i => S i ∨ i = x) I P := (hol_new (n := (3 : Int32)) (n' := (4 : Int32)) hI (fun j hj h => by rcases hj with rfl | rfl | rfl | rfl <;> revert h <;> decide) (fun j hj h h2 => by rcases hj with rfl | rfl | rfl | rfl <;> revert h h2 <;> decide) (fun j h e => by subst e; revert h; decide))
  show Gs p e below s _ _ _ s₁ m 0 #[rv a, iv x, .val (.double t), .second, .unset] []
  refine galoadN X0 hx (hb hby dp23_11_0) rfl rfl ?_
  refine giloadN X0 hx (hb hby dp23_11_1) rfl ?_
  refine gdloadN X0 hx (hb hby dp23_11_2) rfl ?_
  obtain ⟨cc2, qa2, qb2⟩ := Exa.cell E1
  obtain ⟨_, _, ⟨T2, L2, k2, n2⟩, -, X2, ⟨Lc2, hQ2, l2, y2, z2⟩, st2⟩ := X0.privateBack hx (y := mN4) hown (mvT hZ (hwk hw 50 rfl)) (mvT hZ (hwk hw 51 rfl)) (selP (y := mN4) (as := #[]) (mvT hZ (hwk hw 1 rfl)) (mvP hZ (hwk hw 52 rfl)) (mvT hZ (hwk hw 51 rfl)) (by decide)) (Cond.privateMethod_at (mvP hZ (hwk hw 52 rfl) (args := #[]))) (mvT hZ (hwk hw 53 rfl)) (by decide) (backOf (W := 0) (rmRn l Z a0 hw [] a x t aP kP P h0 n0 Z0 FP1 VP1 hx4 (inv_fresh hI hx4 hS) ht) hZ (hwk hw 53 rfl) (hwk hw 2 rfl) (by decide) (by decide)) (g := (mkF m 3 #[rv a, iv x, .val (.double t), .second, .unset] [(.double t), (.int x), (.ref a)])) rfl (by rw [hml]; rfl) (Steps.refl _) (a := a) (by rw [e0]; exact qa2) qb2 (argsL := [(.int x), (.double t)]) (rest := []) (lenOf pd__ID_V_b10 rfl) rfl (by show 2 * 0 + _ ≤ _; exact Nat.le_of_eq rfl) (hb hby dp23_11_3) (fun _ _ => ⟨rfl, e0, (by decide : 0 + 0 ≤ 0), (by decide : 0 + 0 ≤ 0)⟩)
  dsimp only [Pt.U, Pt.locs, Pt.cells, Pt.slots] at X2 l2 y2 z2 st2 hQ2
  subst l2 y2 z2
  obtain ⟨rfl, N2q, eh2⟩ := hQ2
  have N2 := Fr.app N0 N2q
  refine Goes.sts st2 ?_
  show Gs p e below s _ _ _ T2 m 6 #[rv a, iv x, .val (.double t), .second, .unset] []
  refine galoadN X2 hx (hb hby dp23_11_6) rfl rfl ?_
  refine gdup X2 hx (hb hby dp23_11_7) trivial rfl ?_
  obtain ⟨T3, X3, e3, st3⟩ := getF X2 hx hZ hown (host := "") (Or.inl (hwk hw 29 rfl)) Via.refl eh2 FS1 (g := (mkF m 8 #[rv a, iv x, .val (.double t), .second, .unset] [(.ref a), (.ref a)])) rfl rfl (hb hby dp23_11_8)
  refine Goes.st st3 ?_
  show Gs p e below s _ _ _ T3 m 11 #[rv a, iv x, .val (.double t), .second, .unset] [(.int (3 : Int32)), (.ref a)]
  refine Goes.st (fun tg kg => XT.dupX1 X3.here hx rfl (hb hby dp23_11_11) rfl rfl rfl kg) ?_
  show Gs p e below s _ _ _ T3 m 12 #[rv a, iv x, .val (.double t), .second, .unset] [(.int (3 : Int32)), (.ref a), (.int (3 : Int32))]
  refine giconst X3 hx (hb hby dp23_11_12) ?_
  refine giadd X3 hx (hb hby dp23_11_13) trivial ?_
  show Gs p e below s _ _ _ T3 m 14 #[rv a, iv x, .val (.double t), .second, .unset] [(.int ((3 : Int32) + (1 : Int32))), (.ref a), (.int (3 : Int32))]
  rw [show ((3 : Int32) + (1 : Int32)) = (4 : Int32) from by decide]
  show Gs p e below s _ _ _ T3 m 14 #[rv a, iv x, .val (.double t), .second, .unset] [(.int (4 : Int32)), (.ref a), (.int (3 : Int32))]
  obtain ⟨T4, h4, X4, e4, W4, st4⟩ := putF X3 hx hZ hown (host := "") (Or.inl (hwk hw 29 rfl)) Via.refl e3 FS1 E1 (Or.inl (hwk hw 30 rfl)) (hwk hw 1 rfl) (ty := .int) (by decide) rfl rfl (g := (mkF m 14 #[rv a, iv x, .val (.double t), .second, .unset] [(.int (4 : Int32)), (.ref a), (.int (3 : Int32))])) rfl rfl (hb hby dp23_11_14)
  have N4 := Fr.snoc X4 N2 la
  have G4 := FS1.same W4
  refine Goes.st st4 ?_
  have KK5 := K0.wr W4 (Or.inl (List.mem_of_getElem? (i := 0) rfl))
  have Z4 : n0 ≤ h4.size := by have := W4.size; have := Z0; omega
  show Gs p e below s _ _ _ T4 m 17 #[rv a, iv x, .val (.double t), .second, .unset] [(.int (3 : Int32))]
  refine gistore X4 hx (hb hby dp23_11_17) trivial (l' := #[rv a, iv x, .val (.double t), .second, iv (3 : Int32)]) rfl ?_
  refine galoadN X4 hx (hb hby dp23_11_19) rfl rfl ?_
  have f7 := (FO1.other W4 (Or.inr (slot_ne (Or.inl (hwk hw 10 rfl)) (Or.inl (hwk hw 30 rfl)) (by decide) (t := .boolean) (t' := .int) (by decide) (by decide))))
  obtain ⟨T6, X6, e6, st6⟩ := getF X4 hx hZ hown (host := "") (Or.inl (hwk hw 9 rfl)) Via.refl e4 f7 (g := (mkF m 20 #[rv a, iv x, .val (.double t), .second, iv (3 : Int32)] [(.ref a)])) rfl rfl (hb hby dp23_11_20)
  refine Goes.st st6 ?_
  show Gs p e below s _ _ _ T6 m 23 #[rv a, iv x, .val (.double t), .second, iv (3 : Int32)] [(.int o)]
  by_cases c8 : o = (0 : Int32)
  · refine gifYes X6 hx (pc' := 37) (hb hby dp23_11_23) ((if0 _ _).trans (teq c8).1) (by decide) (by decide) ?_
    show Gs p e below s _ _ _ T6 m 37 #[rv a, iv x, .val (.double t), .second, iv (3 : Int32)] []
    refine galoadN X6 hx (hb hby dp23_11_37) rfl rfl ?_
    refine giload X6 hx (hb hby dp23_11_38) rfl ?_
    refine giloadN X6 hx (hb hby dp23_11_40) rfl ?_
    refine gdloadN X6 hx (hb hby dp23_11_41) rfl ?_
    have f9 := (E1.wr W4)
    have f10 := (FI1.other W4 (Or.inr (slot_ne (Or.inr (hwk hw 13 rfl)) (Or.inl (hwk hw 30 rfl)) (by decide) (t := (.array .int)) (t' := .int) (by decide) (by decide))))
    have f11 := (FT1.other W4 (Or.inr (slot_ne (Or.inr (hwk hw 16 rfl)) (Or.inl (hwk hw 30 rfl)) (by decide) (t := (.array .double)) (t' := .int) (by decide) (by decide))))
    have f12 := (FP1.other W4 (Or.inr (slot_ne (Or.inr (hwk hw 18 rfl)) (Or.inl (hwk hw 30 rfl)) (by decide) (t := (.array .int)) (t' := .int) (by decide) (by decide))))
    have f13 := (VI1.other W4 (Ne.symm naI))
    have f14 := (VT1.other W4 (Ne.symm naT))
    have f15 := (VP1.other W4 (Ne.symm naP))
    have HR16 : HR Z h4 a aI aT aP kI kT kP I D P (4 : Int32) o := ⟨f9, f10, f11, f12, G4, f7, f13, f14, f15⟩
    obtain ⟨cc17, qa17, qb17⟩ := Exa.cell f9
    obtain ⟨_, _, ⟨T17, L17, k17, n17⟩, -, X17, ⟨Lc17, hQ17, l17, y17, z17⟩, st17⟩ := X6.privateBack hx (y := mN5) hown (mvT hZ (hwk hw 65 rfl)) (mvT hZ (hwk hw 66 rfl)) (selP (y := mN5) (as := #[]) (mvT hZ (hwk hw 1 rfl)) (mvP hZ (hwk hw 67 rfl)) (mvT hZ (hwk hw 66 rfl)) (by decide)) (Cond.privateMethod_at (mvP hZ (hwk hw 67 rfl) (args := #[]))) (mvT hZ (hwk hw 68 rfl)) (by decide) (backOf (W := 0) (rmPu l Z a0 hw [] a aI aT aP kI kT kP I D P (4 : Int32) o (3 : Int32) x t h4 n0 Z4 hB HR16 i4_3 hx4) hZ (hwk hw 68 rfl) (hwk hw 2 rfl) (by decide) (by decide)) (g := (mkF m 42 #[rv a, iv x, .val (.double t), .second, iv (3 : Int32)] [(.double t), (.int x), (.int (3 : Int32)), (.ref a)])) rfl (by rw [hml]; rfl) (Steps.refl _) (a := a) (by rw [e6]; exact qa17) qb17 (argsL := [(.int (3 : Int32)), (.int x), (.double t)]) (rest := []) (lenOf pd__IID_V_e64 rfl) rfl (by show 2 * 0 + _ ≤ _; exact Nat.le_of_eq rfl) (hb hby dp23_11_42) (fun _ _ => ⟨rfl, e6, (by decide : 0 + 0 ≤ 0), (by decide : 0 + 0 ≤ 0)⟩)
    dsimp only [Pt.U, Pt.locs, Pt.cells, Pt.slots] at X17 l17 y17 z17 st17 hQ17
    subst l17 y17 z17
    obtain ⟨rfl, N17q, K17, HQ17⟩ := hQ17
    have KK18 := KK5.trans K17 (allS (Or.inl (List.mem_of_getElem? (i := 0) rfl)) (allS (Or.inl (List.mem_of_getElem? (i := 1) rfl)) (allS (Or.inl (List.mem_of_getElem? (i := 2) rfl)) (allS (Or.inl (List.mem_of_getElem? (i := 3) rfl)) all0))))
    have Z17 : n0 ≤ T17.heap.size := Nat.le_trans Z4 K17.1
    obtain ⟨E19, FI19, FT19, FP19, FS19, FO19, VI19, VT19, VP19⟩ := id HQ17
    have inv20 := hol_end hol0 i4_3 (by decide) hx4 (Or.inr rfl)
    have N17 := Fr.app N4 N17q
    refine Goes.sts st17 ?_
    show Gs p e below s _ _ _ T17 m 45 #[rv a, iv x, .val (.double t), .second, iv (3 : Int32)] []
    have HR21 : HR Z T17.heap a aI aT aP kI kT kP (upd I (3 : Int32) x) (upd D (3 : Int32) t) (upd P x (3 : Int32)) (4 : Int32) o := ⟨E19, FI19, FT19, FP19, FS19, FO19, VI19, VT19, VP19⟩
    refine Goes.retV X17 hx hlk hret (hb hby dp23_11_45) ?_ (by decide) (by decide)
    exact ⟨(upd I (3 : Int32) x), (upd D (3 : Int32) t), (upd P x (3 : Int32)), o, rfl, N17, KK18, HR21, inv20⟩
  · refine gifNo X6 hx (hb hby dp23_11_23) ((if0 _ _).trans (feq c8).1) ?_
    show Gs p e below s _ _ _ T6 m 26 #[rv a, iv x, .val (.double t), .second, iv (3 : Int32)] []
    refine galoadN X6 hx (hb hby dp23_11_26) rfl rfl ?_
    refine giload X6 hx (hb hby dp23_11_27) rfl ?_
    refine giloadN X6 hx (hb hby dp23_11_29) rfl ?_
    refine gdloadN X6 hx (hb hby dp23_11_30) rfl ?_
    have f22 := (E1.wr W4)
    have f23 := (FI1.other W4 (Or.inr (slot_ne (Or.inr (hwk hw 13 rfl)) (Or.inl (hwk hw 30 rfl)) (by decide) (t := (.array .int)) (t' := .int) (by decide) (by decide))))
    have f24 := (FT1.other W4 (Or.inr (slot_ne (Or.inr (hwk hw 16 rfl)) (Or.inl (hwk hw 30 rfl)) (by decide) (t := (.array .double)) (t' := .int) (by decide) (by decide))))
    have f25 := (FP1.other W4 (Or.inr (slot_ne (Or.inr (hwk hw 18 rfl)) (Or.inl (hwk hw 30 rfl)) (by decide) (t := (.array .int)) (t' := .int) (by decide) (by decide))))
    have f26 := (VI1.other W4 (Ne.symm naI))
    have f27 := (VT1.other W4 (Ne.symm naT))
    have f28 := (VP1.other W4 (Ne.symm naP))
    have HR29 : HR Z h4 a aI aT aP kI kT kP I D P (4 : Int32) o := ⟨f22, f23, f24, f25, G4, f7, f26, f27, f28⟩
    obtain ⟨cc30, qa30, qb30⟩ := Exa.cell f22
    obtain ⟨_, _, ⟨T30, L30, k30, n30⟩, -, X30, ⟨Lc30, hQ30, l30, y30, z30⟩, st30⟩ := X6.privateBack hx (y := mN7) hown (mvT hZ (hwk hw 61 rfl)) (mvT hZ (hwk hw 62 rfl)) (selP (y := mN7) (as := #[]) (mvT hZ (hwk hw 1 rfl)) (mvP hZ (hwk hw 63 rfl)) (mvT hZ (hwk hw 62 rfl)) (by decide)) (Cond.privateMethod_at (mvP hZ (hwk hw 63 rfl) (args := #[]))) (mvT hZ (hwk hw 64 rfl)) (by decide) (backOf (W := 0) (rmU3 l Z a0 hw [] a aI aT aP kI kT kP I D P (4 : Int32) o x t (fun i => S i ∨ i = x) h4 n0 Z4 hB HR29 hx4 hol0 (Or.inr rfl) (by decide)) hZ (hwk hw 64 rfl) (hwk hw 2 rfl) (by decide) (by decide)) (g := (mkF m 31 #[rv a, iv x, .val (.double t), .second, iv (3 : Int32)] [(.double t), (.int x), (.int (3 : Int32)), (.ref a)])) rfl (by rw [hml]; rfl) (Steps.refl _) (a := a) (by rw [e6]; exact qa30) qb30 (argsL := [(.int (3 : Int32)), (.int x), (.double t)]) (rest := []) (lenOf pd__IID_V_e64 rfl) rfl (by show 2 * 0 + _ ≤ _; exact Nat.le_of_eq rfl) (hb hby dp23_11_31) (fun _ _ => ⟨rfl, e6, (by decide : 0 + 0 ≤ 0), (by decide : 0 + 0 ≤ 0)⟩)
    dsimp only [Pt.U, Pt.locs, Pt.cells, Pt.slots] at X30 l30 y30 z30 st30 hQ30
    subst l30 y30 z30
    obtain ⟨I30, D30, P30, rfl, N30q, K30, HQ30, inv30⟩ := hQ30
    have KK31 := KK5.trans K30 (allS (Or.inl (List.mem_of_getElem? (i := 0) rfl)) (allS (Or.inl (List.mem_of_getElem? (i := 1) rfl)) (allS (Or.inl (List.mem_of_getElem? (i := 2) rfl)) (allS (Or.inl (List.mem_of_getElem? (i := 3) rfl)) all0))))
    have Z30 : n0 ≤ T30.heap.size := Nat.le_trans Z4 K30.1
    obtain ⟨E32, FI32, FT32, FP32, FS32, FO32, VI32, VT32, VP32⟩ := id HQ30
    have N30 := Fr.app N4 N30q
    refine Goes.sts st30 ?_
    show Gs p e below s _ _ _ T30 m 34 #[rv a, iv x, .val (.double t), .second, iv (3 : Int32)] []
    refine ggoto X30 hx (pc' := 45) (hb hby dp23_11_34) (by decide) (by decide) ?_
    show Gs p e below s _ _ _ T30 m 45 #[rv a, iv x, .val (.double t), .second, iv (3 : Int32)] []
    have HR33 : HR Z T30.heap a aI aT aP kI kT kP I30 D30 P30 (4 : Int32) o := ⟨E32, FI32, FT32, FP32, FS32, FO32, VI32, VT32, VP32⟩
    refine Goes.retV X30 hx hlk hret (hb hby dp23_11_45) ?_ (by decide) (by decide)
    exact ⟨I30, D30, P30, o, rfl, N30, KK31, HR33, inv30⟩
theorem ef_Q3 (m : MethodId) (x0 : Addr) (x1 : Int32) (x2 : UInt64) : entryFrame m #[(.ref x0), (.int x1), (.double x2)] 4 = mkF m 0 #[rv x0, iv x1, .val (.double x2), .second] [] := by first | (simp [entryFrame, mkF, argsToLocals, Value.category]; done) | rfl
def QQ3 (Z : State) (a aI aT aP : Addr) (kI kT kP : ClassId) (I : Int32 → Int32) (D : Int32 → UInt64) (P : Int32 → Int32) (o x : Int32) (t : UInt64) (S : Int32 → Prop) (h0 : Heap) (n0 : Nat) (v : Option Value) (h : Heap) (L : List Loc) : Prop := ∃ (I1 : Int32 → Int32) (D1 : Int32 → UInt64) (P1 : Int32 → Int32) (o1 : Int32), v = none ∧ Fr n0 L ∧ Keep h0 h [a, aI, aT, aP] ∧ HR Z h a aI aT aP kI kT kP I1 D1 P1 (4 : Int32) o1 ∧ Inv (4 : Int32) (fun i => S i ∨ i = x) I1 P1
set_option maxRecDepth 65536 in
set_option maxHeartbeats 40000000 in
theorem rmQ3 (l : Launch) (Z : State) (a0 : Array Value) (hw : ∀ d ∈ tables_1, d.before a0 Z = true) (ws : List Jvm.Cond) (a aI aT aP : Addr) (kI kT kP : ClassId) (I : Int32 → Int32) (D : Int32 → UInt64) (P : Int32 → Int32) (o x : Int32) (t : UInt64) (S : Int32 → Prop) (h0 : Heap) (n0 : Nat) (Z0 : n0 ≤ h0.size) (hB : HB n0 a aI aT aP) (hR : HR Z h0 a aI aT aP kI kT kP I D P (3 : Int32) o) (hx4 : In4 x) (hI : Inv (3 : Int32) S I P) (hS : ¬ S x) (ht : NoNaN64 t) :
    MetFree l mN10 (head1 (Jvm.Cond.code mN10 prog_23_method_12_code 4 none :: ws) ({ frames := 3, cells := 0, slots := 0, locals := 41 } : Room)) (fun aa U => aa = #[(.ref a), (.int x), (.double t)] ∧ Z.Warmed39 U.vm ∧ U.heap = h0) (fun _ _ _ _ _ => True) (fun _ u1_ o_ u2_ => ∃ v_ l_, o_ = .returned v_ ∧ QQ3 Z a aI aT aP kI kT kP I D P o x t S h0 n0 v_ u2_.heap l_ ∧ FrameEnd u1_ o_ u2_ l_ ({ frames := 3, cells := 0, slots := 0, locals := 41 } : Room).cells ({ frames := 3, cells := 0, slots := 0, locals := 41 } : Room).slots) := by
  refine MetFree.of_bodySF (plainFor_of_name pn_com_example_redoubt_redoubt_engine_IndexHeap) hisR ?_
  intro p e s m args below meth c s₁ Bd hml0 hP hK
  obtain ⟨rfl, hZ, hh⟩ := hP
  have hx := Bd.exec
  have hby := Bd.bytes
  have hlk := BodyLoose.notSynchronized Bd
  have hret := Bd.returns
  have hml : c.maxLocals = 4 := hml0
  have hown : s.vm.findClass "com/example/redoubt/redoubt/engine/IndexHeap" = some m.cls := findClass_of_methodNamed Bd.named
  have hnm := (name_of_methodNamed Bd.named Bd.method).1
  have X0 : Stand p l e ({ frames := 3, cells := 0, slots := 0, locals := 41 } : Room) s m #[(.ref a), (.int x), (.double t)] below meth c s₁ [] 0 0 := Stand.of_body Bd
  have e0 : s₁.heap = h0 := by rw [← hh, Bd.state]; rfl
  have N0 := Fr.nil n0
  refine Goes.st (s := s) (Q := QQ3 Z a aI aT aP kI kT kP I D P o x t S h0 n0) (cs := ({ frames := 3, cells := 0, slots := 0, locals := 41 } : Room).cells) (ss := ({ frames := 3, cells := 0, slots := 0, locals := 41 } : Room).slots) (fun tg kg => castTop (ef_Q3 m a x t) kg) ?_
  obtain ⟨la, lI, lT, lP, naI, naT, naP, nIT, nIP, nTP⟩ := id hB
  obtain ⟨E1, FI1, FT1, FP1, FS1, FO1, VI1, VT1, VP1⟩ := id hR
  have K0 : Keep h0 h0 [a, aI, aT, aP] := Keep.refl _ _
  have hol0 : Hol (4 : Int32) (3 : Int32) x (fun i => S i ∨ i = x) I P := (hol_new (n := (3 : Int32)) (n' := (4 : Int32)) hI (fun j hj h => by rcases hj with rfl | rfl | rfl | rfl <;> revert h <;> decide) (fun j hj h h2 => by rcases hj with rfl | rfl | rfl | rfl <;> revert h h2 <;> decide) (fun j h e => by subst e; revert h; decide))
  show Gs p e below s _ _ _ s₁ m 0 #[rv a, iv x, .val (.double t), .second] []
  refine galoadN X0 hx (hb hby dp23_12_0) rfl rfl ?_
  refine giloadN X0 hx (hb hby dp23_12_1) rfl ?_
  refine gdloadN X0 hx (hb hby dp23_12_2) rfl ?_
  obtain ⟨cc2, qa2, qb2⟩ := Exa.cell E1
  obtain ⟨_, _, ⟨T2, L2, k2, n2⟩, -, X2, ⟨Lc2, hQ2, l2, y2, z2⟩, st2⟩ := X0.privateBack hx (y := mN4) hown (mvT hZ (hwk hw 50 rfl)) (mvT hZ (hwk hw 51 rfl)) (selP (y := mN4) (as := #[]) (mvT hZ (hwk hw 1 rfl)) (mvP hZ (hwk hw 52 rfl)) (mvT hZ (hwk hw 51 rfl)) (by decide)) (Cond.privateMethod_at (mvP hZ (hwk hw 52 rfl) (args := #[]))) (mvT hZ (hwk hw 53 rfl)) (by decide) (backOf (W := 0) (rmRn l Z a0 hw [] a x t aP kP P h0 n0 Z0 FP1 VP1 hx4 (inv_fresh hI hx4 hS) ht) hZ (hwk hw 53 rfl) (hwk hw 2 rfl) (by decide) (by decide)) (g := (mkF m 3 #[rv a, iv x, .val (.double t), .second] [(.double t), (.int x), (.ref a)])) rfl (by rw [hml]; rfl) (Steps.refl _) (a := a) (by rw [e0]; exact qa2) qb2 (argsL := [(.int x), (.double t)]) (rest := []) (lenOf pd__ID_V_b10 rfl) rfl (by show 2 * 0 + _ ≤ _; exact Nat.le_of_eq rfl) (hb hby dp23_12_3) (fun _ _ => ⟨rfl, e0, (by decide : 0 + 0 ≤ 0), (by decide : 0 + 0 ≤ 0)⟩)
  dsimp only [Pt.U, Pt.locs, Pt.cells, Pt.slots] at X2 l2 y2 z2 st2 hQ2
  subst l2 y2 z2
  obtain ⟨rfl, N2q, eh2⟩ := hQ2
  have N2 := Fr.app N0 N2q
  refine Goes.sts st2 ?_
  show Gs p e below s _ _ _ T2 m 6 #[rv a, iv x, .val (.double t), .second] []
  refine galoadN X2 hx (hb hby dp23_12_6) rfl rfl ?_
  refine galoadN X2 hx (hb hby dp23_12_7) rfl rfl ?_
  refine gdup X2 hx (hb hby dp23_12_8) trivial rfl ?_
  obtain ⟨T3, X3, e3, st3⟩ := getF X2 hx hZ hown (host := "") (Or.inl (hwk hw 29 rfl)) Via.refl eh2 FS1 (g := (mkF m 9 #[rv a, iv x, .val (.double t), .second] [(.ref a), (.ref a), (.ref a)])) rfl rfl (hb hby dp23_12_9)
  refine Goes.st st3 ?_
  show Gs p e below s _ _ _ T3 m 12 #[rv a, iv x, .val (.double t), .second] [(.int (3 : Int32)), (.ref a), (.ref a)]
  refine Goes.st (fun tg kg => XT.dupX1 X3.here hx rfl (hb hby dp23_12_12) rfl rfl rfl kg) ?_
  show Gs p e below s _ _ _ T3 m 13 #[rv a, iv x, .val (.double t), .second] [(.int (3 : Int32)), (.ref a), (.int (3 : Int32)), (.ref a)]
  refine giconst X3 hx (hb hby dp23_12_13) ?_
  refine giadd X3 hx (hb hby dp23_12_14) trivial ?_
  show Gs p e below s _ _ _ T3 m 15 #[rv a, iv x, .val (.double t), .second] [(.int ((3 : Int32) + (1 : Int32))), (.ref a), (.int (3 : Int32)), (.ref a)]
  rw [show ((3 : Int32) + (1 : Int32)) = (4 : Int32) from by decide]
  show Gs p e below s _ _ _ T3 m 15 #[rv a, iv x, .val (.double t), .second] [(.int (4 : Int32)), (.ref a), (.int (3 : Int32)), (.ref a)]
  obtain ⟨T4, h4, X4, e4, W4, st4⟩ := putF X3 hx hZ hown (host := "") (Or.inl (hwk hw 29 rfl)) Via.refl e3 FS1 E1 (Or.inl (hwk hw 30 rfl)) (hwk hw 1 rfl) (ty := .int) (by decide) rfl rfl (g := (mkF m 15 #[rv a, iv x, .val (.double t), .second] [(.int (4 : Int32)), (.ref a), (.int (3 : Int32)), (.ref a)])) rfl rfl (hb hby dp23_12_15)
  have N4 := Fr.snoc X4 N2 la
  have G4 := FS1.same W4
  refine Goes.st st4 ?_
  have KK5 := K0.wr W4 (Or.inl (List.mem_of_getElem? (i := 0) rfl))
  have Z4 : n0 ≤ h4.size := by have := W4.size; have := Z0; omega
  show Gs p e below s _ _ _ T4 m 18 #[rv a, iv x, .val (.double t), .second] [(.int (3 : Int32)), (.ref a)]
  refine giloadN X4 hx (hb hby dp23_12_18) rfl ?_
  refine gdloadN X4 hx (hb hby dp23_12_19) rfl ?_
  have f6 := (E1.wr W4)
  have f7 := (FI1.other W4 (Or.inr (slot_ne (Or.inr (hwk hw 13 rfl)) (Or.inl (hwk hw 30 rfl)) (by decide) (t := (.array .int)) (t' := .int) (by decide) (by decide))))
  have f8 := (FT1.other W4 (Or.inr (slot_ne (Or.inr (hwk hw 16 rfl)) (Or.inl (hwk hw 30 rfl)) (by decide) (t := (.array .double)) (t' := .int) (by decide) (by decide))))
  have f9 := (FP1.other W4 (Or.inr (slot_ne (Or.inr (hwk hw 18 rfl)) (Or.inl (hwk hw 30 rfl)) (by decide) (t := (.array .int)) (t' := .int) (by decide) (by decide))))
  have f10 := (FO1.other W4 (Or.inr (slot_ne (Or.inl (hwk hw 10 rfl)) (Or.inl (hwk hw 30 rfl)) (by decide) (t := .boolean) (t' := .int) (by decide) (by decide))))
  have f11 := (VI1.other W4 (Ne.symm naI))
  have f12 := (VT1.other W4 (Ne.symm naT))
  have f13 := (VP1.other W4 (Ne.symm naP))
  have HR14 : HR Z h4 a aI aT aP kI kT kP I D P (4 : Int32) o := ⟨f6, f7, f8, f9, G4, f10, f11, f12, f13⟩
  obtain ⟨cc15, qa15, qb15⟩ := Exa.cell f6
  obtain ⟨_, _, ⟨T15, L15, k15, n15⟩, -, X15, ⟨Lc15, hQ15, l15, y15, z15⟩, st15⟩ := X4.privateBack hx (y := mN5) hown (mvT hZ (hwk hw 65 rfl)) (mvT hZ (hwk hw 66 rfl)) (selP (y := mN5) (as := #[]) (mvT hZ (hwk hw 1 rfl)) (mvP hZ (hwk hw 67 rfl)) (mvT hZ (hwk hw 66 rfl)) (by decide)) (Cond.privateMethod_at (mvP hZ (hwk hw 67 rfl) (args := #[]))) (mvT hZ (hwk hw 68 rfl)) (by decide) (backOf (W := 0) (rmPu l Z a0 hw [] a aI aT aP kI kT kP I D P (4 : Int32) o (3 : Int32) x t h4 n0 Z4 hB HR14 i4_3 hx4) hZ (hwk hw 68 rfl) (hwk hw 2 rfl) (by decide) (by decide)) (g := (mkF m 20 #[rv a, iv x, .val (.double t), .second] [(.double t), (.int x), (.int (3 : Int32)), (.ref a)])) rfl (by rw [hml]; rfl) (Steps.refl _) (a := a) (by rw [e4]; exact qa15) qb15 (argsL := [(.int (3 : Int32)), (.int x), (.double t)]) (rest := []) (lenOf pd__IID_V_e64 rfl) rfl (by show 2 * 0 + _ ≤ _; exact Nat.le_of_eq rfl) (hb hby dp23_12_20) (fun _ _ => ⟨rfl, e4, (by decide : 0 + 0 ≤ 0), (by decide : 0 + 0 ≤ 0)⟩)
  dsimp only [Pt.U, Pt.locs, Pt.cells, Pt.slots] at X15 l15 y15 z15 st15 hQ15
  subst l15 y15 z15
  obtain ⟨rfl, N15q, K15, HQ15⟩ := hQ15
  have KK16 := KK5.trans K15 (allS (Or.inl (List.mem_of_getElem? (i := 0) rfl)) (allS (Or.inl (List.mem_of_getElem? (i := 1) rfl)) (allS (Or.inl (List.mem_of_getElem? (i := 2) rfl)) (allS (Or.inl (List.mem_of_getElem? (i := 3) rfl)) all0))))
  have Z15 : n0 ≤ T15.heap.size := Nat.le_trans Z4 K15.1
  obtain ⟨E17, FI17, FT17, FP17, FS17, FO17, VI17, VT17, VP17⟩ := id HQ15
  have inv18 := hol_end hol0 i4_3 (by decide) hx4 (Or.inr rfl)
  have N15 := Fr.app N4 N15q
  refine Goes.sts st15 ?_
  show Gs p e below s _ _ _ T15 m 23 #[rv a, iv x, .val (.double t), .second] []
  refine galoadN X15 hx (hb hby dp23_12_23) rfl rfl ?_
  refine giconst X15 hx (hb hby dp23_12_24) ?_
  obtain ⟨T19, h19, X19, e19, W19, st19⟩ := putFN X15 hx hZ hown (hwk hw 9 rfl) Via.refl rfl FO17 E17 (Or.inl (hwk hw 10 rfl)) (hwk hw 1 rfl) (ty := .boolean) (v' := (.int (0 : Int32))) (by decide) rfl (by decide) (g := (mkF m 25 #[rv a, iv x, .val (.double t), .second] [(.int (0 : Int32)), (.ref a)])) rfl rfl (hb hby dp23_12_25)
  have N19 := Fr.snoc X19 N15 la
  have G19 := FO17.same W19
  refine Goes.st st19 ?_
  have KK20 := KK16.wr W19 (Or.inl (List.mem_of_getElem? (i := 0) rfl))
  have Z19 : n0 ≤ h19.size := by have := W19.size; have := Z15; omega
  show Gs p e below s _ _ _ T19 m 28 #[rv a, iv x, .val (.double t), .second] []
  have f21 := (E17.wr W19)
  have f22 := (FI17.other W19 (Or.inr (slot_ne (Or.inr (hwk hw 13 rfl)) (Or.inl (hwk hw 10 rfl)) (by decide) (t := (.array .int)) (t' := .boolean) (by decide) (by decide))))
  have f23 := (FT17.other W19 (Or.inr (slot_ne (Or.inr (hwk hw 16 rfl)) (Or.inl (hwk hw 10 rfl)) (by decide) (t := (.array .double)) (t' := .boolean) (by decide) (by decide))))
  have f24 := (FP17.other W19 (Or.inr (slot_ne (Or.inr (hwk hw 18 rfl)) (Or.inl (hwk hw 10 rfl)) (by decide) (t := (.array .int)) (t' := .boolean) (by decide) (by decide))))
  have f25 := (FS17.other W19 (Or.inr (slot_ne (Or.inl (hwk hw 30 rfl)) (Or.inl (hwk hw 10 rfl)) (by decide) (t := .int) (t' := .boolean) (by decide) (by decide))))
  have f26 := (VI17.other W19 (Ne.symm naI))
  have f27 := (VT17.other W19 (Ne.symm naT))
  have f28 := (VP17.other W19 (Ne.symm naP))
  have HR29 : HR Z h19 a aI aT aP kI kT kP (upd I (3 : Int32) x) (upd D (3 : Int32) t) (upd P x (3 : Int32)) (4 : Int32) (0 : Int32) := ⟨f21, f22, f23, f24, f25, G19, f26, f27, f28⟩
  refine Goes.retV X19 hx hlk hret (hb hby dp23_12_28) ?_ (by decide) (by decide)
  rw [e19]
  exact ⟨(upd I (3 : Int32) x), (upd D (3 : Int32) t), (upd P x (3 : Int32)), (0 : Int32), rfl, N19, KK20, HR29, inv18⟩
theorem dmethod_2_0 : decode method_2_code 0 = .ok (.iload_n 1, 1) := by decide +kernel
theorem dmethod_2_1 : decode method_2_code 1 = .ok (.ifCond .eq 12, 3) := by decide +kernel
theorem dmethod_2_4 : decode method_2_code 4 = .ok (.aload_n 0, 1) := by decide +kernel
theorem dmethod_2_5 : decode method_2_code 5 = .ok (.iload_n 2, 1) := by decide +kernel
theorem dmethod_2_6 : decode method_2_code 6 = .ok (.dload_n 3, 1) := by decide +kernel
theorem dmethod_2_7 : decode method_2_code 7 = .ok (.invokevirtual 7, 3) := by decide +kernel
theorem dmethod_2_10 : decode method_2_code 10 = .ok (.goto 9, 3) := by decide +kernel
theorem dmethod_2_13 : decode method_2_code 13 = .ok (.aload_n 0, 1) := by decide +kernel
theorem dmethod_2_14 : decode method_2_code 14 = .ok (.iload_n 2, 1) := by decide +kernel
theorem dmethod_2_15 : decode method_2_code 15 = .ok (.dload_n 3, 1) := by decide +kernel
theorem dmethod_2_16 : decode method_2_code 16 = .ok (.invokevirtual 13, 3) := by decide +kernel
theorem dmethod_2_19 : decode method_2_code 19 = .ok (.return_, 1) := by decide +kernel
theorem pn_com_example_redoubt_redoubt_engine_IndexHeapClearPinLaw : plainName "com/example/redoubt/redoubt/engine/IndexHeapClearPinLaw" = true := by first | (simp [plainName, overriddenIn]; done) | decide +kernel
theorem ef_W0 (m : MethodId) (x0 : Addr) (x1 : Int32) (x2 : Int32) (x3 : UInt64) : entryFrame m #[(.ref x0), (.int x1), (.int x2), (.double x3)] 5 = mkF m 0 #[rv x0, iv x1, iv x2, .val (.double x3), .second] [] := by first | (simp [entryFrame, mkF, argsToLocals, Value.category]; done) | rfl
def QW0 (Z : State) (a aI aT aP : Addr) (kI kT kP : ClassId) (I : Int32 → Int32) (D : Int32 → UInt64) (P : Int32 → Int32) (o ap x : Int32) (t : UInt64) (S : Int32 → Prop) (h0 : Heap) (n0 : Nat) (v : Option Value) (h : Heap) (L : List Loc) : Prop := ∃ (I1 : Int32 → Int32) (D1 : Int32 → UInt64) (P1 : Int32 → Int32) (o1 : Int32), v = none ∧ Fr n0 L ∧ Keep h0 h [a, aI, aT, aP] ∧ HR Z h a aI aT aP kI kT kP I1 D1 P1 (1 : Int32) o1 ∧ Inv (1 : Int32) (fun i => S i ∨ i = x) I1 P1
set_option maxRecDepth 65536 in
set_option maxHeartbeats 40000000 in
theorem rmW0 (l : Launch) (Z : State) (a0 : Array Value) (hw : ∀ d ∈ tables_1, d.before a0 Z = true) (ws : List Jvm.Cond) (a aI aT aP : Addr) (kI kT kP : ClassId) (I : Int32 → Int32) (D : Int32 → UInt64) (P : Int32 → Int32) (o ap x : Int32) (t : UInt64) (S : Int32 → Prop) (h0 : Heap) (n0 : Nat) (Z0 : n0 ≤ h0.size) (hB : HB n0 a aI aT aP) (hR : HR Z h0 a aI aT aP kI kT kP I D P (0 : Int32) o) (hx4 : In4 x) (hI : Inv (0 : Int32) S I P) (hS : ¬ S x) (ht : NoNaN64 t) :
    MetFree l mN11 (head1 (Jvm.Cond.code mN11 method_2_code 5 none :: ws) ({ frames := 4, cells := 0, slots := 0, locals := 57 } : Room)) (fun aa U => aa = #[(.ref a), (.int ap), (.int x), (.double t)] ∧ Z.Warmed39 U.vm ∧ U.heap = h0) (fun _ _ _ _ _ => True) (fun _ u1_ o_ u2_ => ∃ v_ l_, o_ = .returned v_ ∧ QW0 Z a aI aT aP kI kT kP I D P o ap x t S h0 n0 v_ u2_.heap l_ ∧ FrameEnd u1_ o_ u2_ l_ ({ frames := 4, cells := 0, slots := 0, locals := 57 } : Room).cells ({ frames := 4, cells := 0, slots := 0, locals := 57 } : Room).slots) := by
  refine MetFree.of_bodySF (plainFor_of_name pn_com_example_redoubt_redoubt_engine_IndexHeapClearPinLaw) hisR ?_
  intro p e s m args below meth c s₁ Bd hml0 hP hK
  obtain ⟨rfl, hZ, hh⟩ := hP
  have hx := Bd.exec
  have hby := Bd.bytes
  have hlk := BodyLoose.notSynchronized Bd
  have hret := Bd.returns
  have hml : c.maxLocals = 5 := hml0
  have hown : s.vm.findClass "com/example/redoubt/redoubt/engine/IndexHeapClearPinLaw" = some m.cls := findClass_of_methodNamed Bd.named
  have hnm := (name_of_methodNamed Bd.named Bd.method).1
  have X0 : Stand p l e ({ frames := 4, cells := 0, slots := 0, locals := 57 } : Room) s m #[(.ref a), (.int ap), (.int x), (.double t)] below meth c s₁ [] 0 0 := Stand.of_body Bd
  have e0 : s₁.heap = h0 := by rw [← hh, Bd.state]; rfl
  have N0 := Fr.nil n0
  refine Goes.st (s := s) (Q := QW0 Z a aI aT aP kI kT kP I D P o ap x t S h0 n0) (cs := ({ frames := 4, cells := 0, slots := 0, locals := 57 } : Room).cells) (ss := ({ frames := 4, cells := 0, slots := 0, locals := 57 } : Room).slots) (fun tg kg => castTop (ef_W0 m a ap x t) kg) ?_
  obtain ⟨la, lI, lT, lP, naI, naT, naP, nIT, nIP, nTP⟩ := id hB
  obtain ⟨E1, FI1, FT1, FP1, FS1, FO1, VI1, VT1, VP1⟩ := id hR
  have K0 : Keep h0 h0 [a, aI, aT, aP] := Keep.refl _ _
  show Gs p e below s _ _ _ s₁ m 0 #[rv a, iv ap, iv x, .val (.double t), .second] []
  refine giloadN X0 hx (hb hby dmethod_2_0) rfl ?_
  show Gs p e below s _ _ _ s₁ m 1 #[rv a, iv ap, iv x, .val (.double t), .second] [(.int ap)]
  by_cases c2 : ap = (0 : Int32)
  · refine gifYes X0 hx (pc' := 13) (hb hby dmethod_2_1) ((if0 _ _).trans (teq c2).1) (by decide) (by decide) ?_
    show Gs p e below s _ _ _ s₁ m 13 #[rv a, iv ap, iv x, .val (.double t), .second] []
    refine galoadN X0 hx (hb hby dmethod_2_13) rfl rfl ?_
    refine giloadN X0 hx (hb hby dmethod_2_14) rfl ?_
    refine gdloadN X0 hx (hb hby dmethod_2_15) rfl ?_
    have HR3 : HR Z h0 a aI aT aP kI kT kP I D P (0 : Int32) o := ⟨E1, FI1, FT1, FP1, FS1, FO1, VI1, VT1, VP1⟩
    obtain ⟨cq4, kq4, qa4, qb4, qc4⟩ := isOf hZ e0 E1
    obtain ⟨_, _, ⟨T4, L4, k4, n4⟩, -, X4, ⟨Lc4, hQ4, l4, y4, z4⟩, st4⟩ := X0.virtualBack hx (y := mN9) (z := mN9) hown (mvT hZ (hwk hw 45 rfl)) (mvT hZ (hwk hw 46 rfl)) (notFace_of_selects (args := #[]) (mvT hZ (hwk hw 48 rfl))) (mvT hZ (hwk hw 48 rfl)) (mvT hZ (hwk hw 47 rfl)) (by decide) (backOf (W := 0) (rmA0 l Z a0 hw [] a aI aT aP kI kT kP I D P o x t S h0 n0 Z0 hB HR3 hx4 hI hS ht) hZ (hwk hw 49 rfl) (hwk hw 2 rfl) (by decide) (by decide)) qa4 qc4 (g := (mkF m 16 #[rv a, iv ap, iv x, .val (.double t), .second] [(.double t), (.int x), (.ref a)])) rfl (by rw [hml]; rfl) (Steps.refl _) (argsL := [(.int x), (.double t)]) (rest := []) (lenOf pd__ID_V_b10 rfl) rfl (by show 2 * 0 + _ ≤ _; exact Nat.le_of_eq rfl) (hb hby dmethod_2_16) (fun _ _ => ⟨rfl, e0, (by decide : 0 + 0 ≤ 0), (by decide : 0 + 0 ≤ 0)⟩)
    dsimp only [Pt.U, Pt.locs, Pt.cells, Pt.slots] at X4 l4 y4 z4 st4 hQ4
    subst l4 y4 z4
    obtain ⟨I4, D4, P4, o4, rfl, N4q, K4, HQ4, inv4⟩ := hQ4
    have KK5 := K0.trans K4 (allS (Or.inl (List.mem_of_getElem? (i := 0) rfl)) (allS (Or.inl (List.mem_of_getElem? (i := 1) rfl)) (allS (Or.inl (List.mem_of_getElem? (i := 2) rfl)) (allS (Or.inl (List.mem_of_getElem? (i := 3) rfl)) all0))))
    have Z4 : n0 ≤ T4.heap.size := Nat.le_trans Z0 K4.1
    obtain ⟨E6, FI6, FT6, FP6, FS6, FO6, VI6, VT6, VP6⟩ := id HQ4
    have N4 := Fr.app N0 N4q
    refine Goes.sts st4 ?_
    show Gs p e below s _ _ _ T4 m 19 #[rv a, iv ap, iv x, .val (.double t), .second] []
    have HR7 : HR Z T4.heap a aI aT aP kI kT kP I4 D4 P4 (1 : Int32) o4 := ⟨E6, FI6, FT6, FP6, FS6, FO6, VI6, VT6, VP6⟩
    refine Goes.retV X4 hx hlk hret (hb hby dmethod_2_19) ?_ (by decide) (by decide)
    exact ⟨I4, D4, P4, o4, rfl, N4, KK5, HR7, inv4⟩
  · refine gifNo X0 hx (hb hby dmethod_2_1) ((if0 _ _).trans (feq c2).1) ?_
    show Gs p e below s _ _ _ s₁ m 4 #[rv a, iv ap, iv x, .val (.double t), .second] []
    refine galoadN X0 hx (hb hby dmethod_2_4) rfl rfl ?_
    refine giloadN X0 hx (hb hby dmethod_2_5) rfl ?_
    refine gdloadN X0 hx (hb hby dmethod_2_6) rfl ?_
    have HR8 : HR Z h0 a aI aT aP kI kT kP I D P (0 : Int32) o := ⟨E1, FI1, FT1, FP1, FS1, FO1, VI1, VT1, VP1⟩
    obtain ⟨cq9, kq9, qa9, qb9, qc9⟩ := isOf hZ e0 E1
    obtain ⟨_, _, ⟨T9, L9, k9, n9⟩, -, X9, ⟨Lc9, hQ9, l9, y9, z9⟩, st9⟩ := X0.virtualBack hx (y := mN10) (z := mN10) hown (mvT hZ (hwk hw 77 rfl)) (mvT hZ (hwk hw 78 rfl)) (notFace_of_selects (args := #[]) (mvT hZ (hwk hw 80 rfl))) (mvT hZ (hwk hw 80 rfl)) (mvT hZ (hwk hw 79 rfl)) (by decide) (backOf (W := 0) (rmQ0 l Z a0 hw [] a aI aT aP kI kT kP I D P o x t S h0 n0 Z0 hB HR8 hx4 hI hS ht) hZ (hwk hw 81 rfl) (hwk hw 2 rfl) (by decide) (by decide)) qa9 qc9 (g := (mkF m 7 #[rv a, iv ap, iv x, .val (.double t), .second] [(.double t), (.int x), (.ref a)])) rfl (by rw [hml]; rfl) (Steps.refl _) (argsL := [(.int x), (.double t)]) (rest := []) (lenOf pd__ID_V_b10 rfl) rfl (by show 2 * 0 + _ ≤ _; exact Nat.le_of_eq rfl) (hb hby dmethod_2_7) (fun _ _ => ⟨rfl, e0, (by decide : 0 + 0 ≤ 0), (by decide : 0 + 0 ≤ 0)⟩)
    dsimp only [Pt.U, Pt.locs, Pt.cells, Pt.slots] at X9 l9 y9 z9 st9 hQ9
    subst l9 y9 z9
    obtain ⟨I9, D9, P9, o9, rfl, N9q, K9, HQ9, inv9⟩ := hQ9
    have KK10 := K0.trans K9 (allS (Or.inl (List.mem_of_getElem? (i := 0) rfl)) (allS (Or.inl (List.mem_of_getElem? (i := 1) rfl)) (allS (Or.inl (List.mem_of_getElem? (i := 2) rfl)) (allS (Or.inl (List.mem_of_getElem? (i := 3) rfl)) all0))))
    have Z9 : n0 ≤ T9.heap.size := Nat.le_trans Z0 K9.1
    obtain ⟨E11, FI11, FT11, FP11, FS11, FO11, VI11, VT11, VP11⟩ := id HQ9
    have N9 := Fr.app N0 N9q
    refine Goes.sts st9 ?_
    show Gs p e below s _ _ _ T9 m 10 #[rv a, iv ap, iv x, .val (.double t), .second] []
    refine ggoto X9 hx (pc' := 19) (hb hby dmethod_2_10) (by decide) (by decide) ?_
    show Gs p e below s _ _ _ T9 m 19 #[rv a, iv ap, iv x, .val (.double t), .second] []
    have HR12 : HR Z T9.heap a aI aT aP kI kT kP I9 D9 P9 (1 : Int32) o9 := ⟨E11, FI11, FT11, FP11, FS11, FO11, VI11, VT11, VP11⟩
    refine Goes.retV X9 hx hlk hret (hb hby dmethod_2_19) ?_ (by decide) (by decide)
    exact ⟨I9, D9, P9, o9, rfl, N9, KK10, HR12, inv9⟩
theorem ef_W1 (m : MethodId) (x0 : Addr) (x1 : Int32) (x2 : Int32) (x3 : UInt64) : entryFrame m #[(.ref x0), (.int x1), (.int x2), (.double x3)] 5 = mkF m 0 #[rv x0, iv x1, iv x2, .val (.double x3), .second] [] := by first | (simp [entryFrame, mkF, argsToLocals, Value.category]; done) | rfl
def QW1 (Z : State) (a aI aT aP : Addr) (kI kT kP : ClassId) (I : Int32 → Int32) (D : Int32 → UInt64) (P : Int32 → Int32) (o ap x : Int32) (t : UInt64) (S : Int32 → Prop) (h0 : Heap) (n0 : Nat) (v : Option Value) (h : Heap) (L : List Loc) : Prop := ∃ (I1 : Int32 → Int32) (D1 : Int32 → UInt64) (P1 : Int32 → Int32) (o1 : Int32), v = none ∧ Fr n0 L ∧ Keep h0 h [a, aI, aT, aP] ∧ HR Z h a aI aT aP kI kT kP I1 D1 P1 (2 : Int32) o1 ∧ Inv (2 : Int32) (fun i => S i ∨ i = x) I1 P1
set_option maxRecDepth 65536 in
set_option maxHeartbeats 40000000 in
theorem rmW1 (l : Launch) (Z : State) (a0 : Array Value) (hw : ∀ d ∈ tables_1, d.before a0 Z = true) (ws : List Jvm.Cond) (a aI aT aP : Addr) (kI kT kP : ClassId) (I : Int32 → Int32) (D : Int32 → UInt64) (P : Int32 → Int32) (o ap x : Int32) (t : UInt64) (S : Int32 → Prop) (h0 : Heap) (n0 : Nat) (Z0 : n0 ≤ h0.size) (hB : HB n0 a aI aT aP) (hR : HR Z h0 a aI aT aP kI kT kP I D P (1 : Int32) o) (hx4 : In4 x) (hI : Inv (1 : Int32) S I P) (hS : ¬ S x) (ht : NoNaN64 t) :
    MetFree l mN11 (head1 (Jvm.Cond.code mN11 method_2_code 5 none :: ws) ({ frames := 4, cells := 0, slots := 0, locals := 57 } : Room)) (fun aa U => aa = #[(.ref a), (.int ap), (.int x), (.double t)] ∧ Z.Warmed39 U.vm ∧ U.heap = h0) (fun _ _ _ _ _ => True) (fun _ u1_ o_ u2_ => ∃ v_ l_, o_ = .returned v_ ∧ QW1 Z a aI aT aP kI kT kP I D P o ap x t S h0 n0 v_ u2_.heap l_ ∧ FrameEnd u1_ o_ u2_ l_ ({ frames := 4, cells := 0, slots := 0, locals := 57 } : Room).cells ({ frames := 4, cells := 0, slots := 0, locals := 57 } : Room).slots) := by
  refine MetFree.of_bodySF (plainFor_of_name pn_com_example_redoubt_redoubt_engine_IndexHeapClearPinLaw) hisR ?_
  intro p e s m args below meth c s₁ Bd hml0 hP hK
  obtain ⟨rfl, hZ, hh⟩ := hP
  have hx := Bd.exec
  have hby := Bd.bytes
  have hlk := BodyLoose.notSynchronized Bd
  have hret := Bd.returns
  have hml : c.maxLocals = 5 := hml0
  have hown : s.vm.findClass "com/example/redoubt/redoubt/engine/IndexHeapClearPinLaw" = some m.cls := findClass_of_methodNamed Bd.named
  have hnm := (name_of_methodNamed Bd.named Bd.method).1
  have X0 : Stand p l e ({ frames := 4, cells := 0, slots := 0, locals := 57 } : Room) s m #[(.ref a), (.int ap), (.int x), (.double t)] below meth c s₁ [] 0 0 := Stand.of_body Bd
  have e0 : s₁.heap = h0 := by rw [← hh, Bd.state]; rfl
  have N0 := Fr.nil n0
  refine Goes.st (s := s) (Q := QW1 Z a aI aT aP kI kT kP I D P o ap x t S h0 n0) (cs := ({ frames := 4, cells := 0, slots := 0, locals := 57 } : Room).cells) (ss := ({ frames := 4, cells := 0, slots := 0, locals := 57 } : Room).slots) (fun tg kg => castTop (ef_W1 m a ap x t) kg) ?_
  obtain ⟨la, lI, lT, lP, naI, naT, naP, nIT, nIP, nTP⟩ := id hB
  obtain ⟨E1, FI1, FT1, FP1, FS1, FO1, VI1, VT1, VP1⟩ := id hR
  have K0 : Keep h0 h0 [a, aI, aT, aP] := Keep.refl _ _
  show Gs p e below s _ _ _ s₁ m 0 #[rv a, iv ap, iv x, .val (.double t), .second] []
  refine giloadN X0 hx (hb hby dmethod_2_0) rfl ?_
  show Gs p e below s _ _ _ s₁ m 1 #[rv a, iv ap, iv x, .val (.double t), .second] [(.int ap)]
  by_cases c2 : ap = (0 : Int32)
  · refine gifYes X0 hx (pc' := 13) (hb hby dmethod_2_1) ((if0 _ _).trans (teq c2).1) (by decide) (by decide) ?_
    show Gs p e below s _ _ _ s₁ m 13 #[rv a, iv ap, iv x, .val (.double t), .second] []
    refine galoadN X0 hx (hb hby dmethod_2_13) rfl rfl ?_
    refine giloadN X0 hx (hb hby dmethod_2_14) rfl ?_
    refine gdloadN X0 hx (hb hby dmethod_2_15) rfl ?_
    have HR3 : HR Z h0 a aI aT aP kI kT kP I D P (1 : Int32) o := ⟨E1, FI1, FT1, FP1, FS1, FO1, VI1, VT1, VP1⟩
    obtain ⟨cq4, kq4, qa4, qb4, qc4⟩ := isOf hZ e0 E1
    obtain ⟨_, _, ⟨T4, L4, k4, n4⟩, -, X4, ⟨Lc4, hQ4, l4, y4, z4⟩, st4⟩ := X0.virtualBack hx (y := mN9) (z := mN9) hown (mvT hZ (hwk hw 45 rfl)) (mvT hZ (hwk hw 46 rfl)) (notFace_of_selects (args := #[]) (mvT hZ (hwk hw 48 rfl))) (mvT hZ (hwk hw 48 rfl)) (mvT hZ (hwk hw 47 rfl)) (by decide) (backOf (W := 0) (rmA1 l Z a0 hw [] a aI aT aP kI kT kP I D P o x t S h0 n0 Z0 hB HR3 hx4 hI hS ht) hZ (hwk hw 49 rfl) (hwk hw 2 rfl) (by decide) (by decide)) qa4 qc4 (g := (mkF m 16 #[rv a, iv ap, iv x, .val (.double t), .second] [(.double t), (.int x), (.ref a)])) rfl (by rw [hml]; rfl) (Steps.refl _) (argsL := [(.int x), (.double t)]) (rest := []) (lenOf pd__ID_V_b10 rfl) rfl (by show 2 * 0 + _ ≤ _; exact Nat.le_of_eq rfl) (hb hby dmethod_2_16) (fun _ _ => ⟨rfl, e0, (by decide : 0 + 0 ≤ 0), (by decide : 0 + 0 ≤ 0)⟩)
    dsimp only [Pt.U, Pt.locs, Pt.cells, Pt.slots] at X4 l4 y4 z4 st4 hQ4
    subst l4 y4 z4
    obtain ⟨I4, D4, P4, o4, rfl, N4q, K4, HQ4, inv4⟩ := hQ4
    have KK5 := K0.trans K4 (allS (Or.inl (List.mem_of_getElem? (i := 0) rfl)) (allS (Or.inl (List.mem_of_getElem? (i := 1) rfl)) (allS (Or.inl (List.mem_of_getElem? (i := 2) rfl)) (allS (Or.inl (List.mem_of_getElem? (i := 3) rfl)) all0))))
    have Z4 : n0 ≤ T4.heap.size := Nat.le_trans Z0 K4.1
    obtain ⟨E6, FI6, FT6, FP6, FS6, FO6, VI6, VT6, VP6⟩ := id HQ4
    have N4 := Fr.app N0 N4q
    refine Goes.sts st4 ?_
    show Gs p e below s _ _ _ T4 m 19 #[rv a, iv ap, iv x, .val (.double t), .second] []
    have HR7 : HR Z T4.heap a aI aT aP kI kT kP I4 D4 P4 (2 : Int32) o4 := ⟨E6, FI6, FT6, FP6, FS6, FO6, VI6, VT6, VP6⟩
    refine Goes.retV X4 hx hlk hret (hb hby dmethod_2_19) ?_ (by decide) (by decide)
    exact ⟨I4, D4, P4, o4, rfl, N4, KK5, HR7, inv4⟩
  · refine gifNo X0 hx (hb hby dmethod_2_1) ((if0 _ _).trans (feq c2).1) ?_
    show Gs p e below s _ _ _ s₁ m 4 #[rv a, iv ap, iv x, .val (.double t), .second] []
    refine galoadN X0 hx (hb hby dmethod_2_4) rfl rfl ?_
    refine giloadN X0 hx (hb hby dmethod_2_5) rfl ?_
    refine gdloadN X0 hx (hb hby dmethod_2_6) rfl ?_
    have HR8 : HR Z h0 a aI aT aP kI kT kP I D P (1 : Int32) o := ⟨E1, FI1, FT1, FP1, FS1, FO1, VI1, VT1, VP1⟩
    obtain ⟨cq9, kq9, qa9, qb9, qc9⟩ := isOf hZ e0 E1
    obtain ⟨_, _, ⟨T9, L9, k9, n9⟩, -, X9, ⟨Lc9, hQ9, l9, y9, z9⟩, st9⟩ := X0.virtualBack hx (y := mN10) (z := mN10) hown (mvT hZ (hwk hw 77 rfl)) (mvT hZ (hwk hw 78 rfl)) (notFace_of_selects (args := #[]) (mvT hZ (hwk hw 80 rfl))) (mvT hZ (hwk hw 80 rfl)) (mvT hZ (hwk hw 79 rfl)) (by decide) (backOf (W := 0) (rmQ1 l Z a0 hw [] a aI aT aP kI kT kP I D P o x t S h0 n0 Z0 hB HR8 hx4 hI hS ht) hZ (hwk hw 81 rfl) (hwk hw 2 rfl) (by decide) (by decide)) qa9 qc9 (g := (mkF m 7 #[rv a, iv ap, iv x, .val (.double t), .second] [(.double t), (.int x), (.ref a)])) rfl (by rw [hml]; rfl) (Steps.refl _) (argsL := [(.int x), (.double t)]) (rest := []) (lenOf pd__ID_V_b10 rfl) rfl (by show 2 * 0 + _ ≤ _; exact Nat.le_of_eq rfl) (hb hby dmethod_2_7) (fun _ _ => ⟨rfl, e0, (by decide : 0 + 0 ≤ 0), (by decide : 0 + 0 ≤ 0)⟩)
    dsimp only [Pt.U, Pt.locs, Pt.cells, Pt.slots] at X9 l9 y9 z9 st9 hQ9
    subst l9 y9 z9
    obtain ⟨I9, D9, P9, o9, rfl, N9q, K9, HQ9, inv9⟩ := hQ9
    have KK10 := K0.trans K9 (allS (Or.inl (List.mem_of_getElem? (i := 0) rfl)) (allS (Or.inl (List.mem_of_getElem? (i := 1) rfl)) (allS (Or.inl (List.mem_of_getElem? (i := 2) rfl)) (allS (Or.inl (List.mem_of_getElem? (i := 3) rfl)) all0))))
    have Z9 : n0 ≤ T9.heap.size := Nat.le_trans Z0 K9.1
    obtain ⟨E11, FI11, FT11, FP11, FS11, FO11, VI11, VT11, VP11⟩ := id HQ9
    have N9 := Fr.app N0 N9q
    refine Goes.sts st9 ?_
    show Gs p e below s _ _ _ T9 m 10 #[rv a, iv ap, iv x, .val (.double t), .second] []
    refine ggoto X9 hx (pc' := 19) (hb hby dmethod_2_10) (by decide) (by decide) ?_
    show Gs p e below s _ _ _ T9 m 19 #[rv a, iv ap, iv x, .val (.double t), .second] []
    have HR12 : HR Z T9.heap a aI aT aP kI kT kP I9 D9 P9 (2 : Int32) o9 := ⟨E11, FI11, FT11, FP11, FS11, FO11, VI11, VT11, VP11⟩
    refine Goes.retV X9 hx hlk hret (hb hby dmethod_2_19) ?_ (by decide) (by decide)
    exact ⟨I9, D9, P9, o9, rfl, N9, KK10, HR12, inv9⟩
theorem ef_W2 (m : MethodId) (x0 : Addr) (x1 : Int32) (x2 : Int32) (x3 : UInt64) : entryFrame m #[(.ref x0), (.int x1), (.int x2), (.double x3)] 5 = mkF m 0 #[rv x0, iv x1, iv x2, .val (.double x3), .second] [] := by first | (simp [entryFrame, mkF, argsToLocals, Value.category]; done) | rfl
def QW2 (Z : State) (a aI aT aP : Addr) (kI kT kP : ClassId) (I : Int32 → Int32) (D : Int32 → UInt64) (P : Int32 → Int32) (o ap x : Int32) (t : UInt64) (S : Int32 → Prop) (h0 : Heap) (n0 : Nat) (v : Option Value) (h : Heap) (L : List Loc) : Prop := ∃ (I1 : Int32 → Int32) (D1 : Int32 → UInt64) (P1 : Int32 → Int32) (o1 : Int32), v = none ∧ Fr n0 L ∧ Keep h0 h [a, aI, aT, aP] ∧ HR Z h a aI aT aP kI kT kP I1 D1 P1 (3 : Int32) o1 ∧ Inv (3 : Int32) (fun i => S i ∨ i = x) I1 P1
set_option maxRecDepth 65536 in
set_option maxHeartbeats 40000000 in
theorem rmW2 (l : Launch) (Z : State) (a0 : Array Value) (hw : ∀ d ∈ tables_1, d.before a0 Z = true) (ws : List Jvm.Cond) (a aI aT aP : Addr) (kI kT kP : ClassId) (I : Int32 → Int32) (D : Int32 → UInt64) (P : Int32 → Int32) (o ap x : Int32) (t : UInt64) (S : Int32 → Prop) (h0 : Heap) (n0 : Nat) (Z0 : n0 ≤ h0.size) (hB : HB n0 a aI aT aP) (hR : HR Z h0 a aI aT aP kI kT kP I D P (2 : Int32) o) (hx4 : In4 x) (hI : Inv (2 : Int32) S I P) (hS : ¬ S x) (ht : NoNaN64 t) :
    MetFree l mN11 (head1 (Jvm.Cond.code mN11 method_2_code 5 none :: ws) ({ frames := 4, cells := 0, slots := 0, locals := 57 } : Room)) (fun aa U => aa = #[(.ref a), (.int ap), (.int x), (.double t)] ∧ Z.Warmed39 U.vm ∧ U.heap = h0) (fun _ _ _ _ _ => True) (fun _ u1_ o_ u2_ => ∃ v_ l_, o_ = .returned v_ ∧ QW2 Z a aI aT aP kI kT kP I D P o ap x t S h0 n0 v_ u2_.heap l_ ∧ FrameEnd u1_ o_ u2_ l_ ({ frames := 4, cells := 0, slots := 0, locals := 57 } : Room).cells ({ frames := 4, cells := 0, slots := 0, locals := 57 } : Room).slots) := by
  refine MetFree.of_bodySF (plainFor_of_name pn_com_example_redoubt_redoubt_engine_IndexHeapClearPinLaw) hisR ?_
  intro p e s m args below meth c s₁ Bd hml0 hP hK
  obtain ⟨rfl, hZ, hh⟩ := hP
  have hx := Bd.exec
  have hby := Bd.bytes
  have hlk := BodyLoose.notSynchronized Bd
  have hret := Bd.returns
  have hml : c.maxLocals = 5 := hml0
  have hown : s.vm.findClass "com/example/redoubt/redoubt/engine/IndexHeapClearPinLaw" = some m.cls := findClass_of_methodNamed Bd.named
  have hnm := (name_of_methodNamed Bd.named Bd.method).1
  have X0 : Stand p l e ({ frames := 4, cells := 0, slots := 0, locals := 57 } : Room) s m #[(.ref a), (.int ap), (.int x), (.double t)] below meth c s₁ [] 0 0 := Stand.of_body Bd
  have e0 : s₁.heap = h0 := by rw [← hh, Bd.state]; rfl
  have N0 := Fr.nil n0
  refine Goes.st (s := s) (Q := QW2 Z a aI aT aP kI kT kP I D P o ap x t S h0 n0) (cs := ({ frames := 4, cells := 0, slots := 0, locals := 57 } : Room).cells) (ss := ({ frames := 4, cells := 0, slots := 0, locals := 57 } : Room).slots) (fun tg kg => castTop (ef_W2 m a ap x t) kg) ?_
  obtain ⟨la, lI, lT, lP, naI, naT, naP, nIT, nIP, nTP⟩ := id hB
  obtain ⟨E1, FI1, FT1, FP1, FS1, FO1, VI1, VT1, VP1⟩ := id hR
  have K0 : Keep h0 h0 [a, aI, aT, aP] := Keep.refl _ _
  show Gs p e below s _ _ _ s₁ m 0 #[rv a, iv ap, iv x, .val (.double t), .second] []
  refine giloadN X0 hx (hb hby dmethod_2_0) rfl ?_
  show Gs p e below s _ _ _ s₁ m 1 #[rv a, iv ap, iv x, .val (.double t), .second] [(.int ap)]
  by_cases c2 : ap = (0 : Int32)
  · refine gifYes X0 hx (pc' := 13) (hb hby dmethod_2_1) ((if0 _ _).trans (teq c2).1) (by decide) (by decide) ?_
    show Gs p e below s _ _ _ s₁ m 13 #[rv a, iv ap, iv x, .val (.double t), .second] []
    refine galoadN X0 hx (hb hby dmethod_2_13) rfl rfl ?_
    refine giloadN X0 hx (hb hby dmethod_2_14) rfl ?_
    refine gdloadN X0 hx (hb hby dmethod_2_15) rfl ?_
    have HR3 : HR Z h0 a aI aT aP kI kT kP I D P (2 : Int32) o := ⟨E1, FI1, FT1, FP1, FS1, FO1, VI1, VT1, VP1⟩
    obtain ⟨cq4, kq4, qa4, qb4, qc4⟩ := isOf hZ e0 E1
    obtain ⟨_, _, ⟨T4, L4, k4, n4⟩, -, X4, ⟨Lc4, hQ4, l4, y4, z4⟩, st4⟩ := X0.virtualBack hx (y := mN9) (z := mN9) hown (mvT hZ (hwk hw 45 rfl)) (mvT hZ (hwk hw 46 rfl)) (notFace_of_selects (args := #[]) (mvT hZ (hwk hw 48 rfl))) (mvT hZ (hwk hw 48 rfl)) (mvT hZ (hwk hw 47 rfl)) (by decide) (backOf (W := 0) (rmA2 l Z a0 hw [] a aI aT aP kI kT kP I D P o x t S h0 n0 Z0 hB HR3 hx4 hI hS ht) hZ (hwk hw 49 rfl) (hwk hw 2 rfl) (by decide) (by decide)) qa4 qc4 (g := (mkF m 16 #[rv a, iv ap, iv x, .val (.double t), .second] [(.double t), (.int x), (.ref a)])) rfl (by rw [hml]; rfl) (Steps.refl _) (argsL := [(.int x), (.double t)]) (rest := []) (lenOf pd__ID_V_b10 rfl) rfl (by show 2 * 0 + _ ≤ _; exact Nat.le_of_eq rfl) (hb hby dmethod_2_16) (fun _ _ => ⟨rfl, e0, (by decide : 0 + 0 ≤ 0), (by decide : 0 + 0 ≤ 0)⟩)
    dsimp only [Pt.U, Pt.locs, Pt.cells, Pt.slots] at X4 l4 y4 z4 st4 hQ4
    subst l4 y4 z4
    obtain ⟨I4, D4, P4, o4, rfl, N4q, K4, HQ4, inv4⟩ := hQ4
    have KK5 := K0.trans K4 (allS (Or.inl (List.mem_of_getElem? (i := 0) rfl)) (allS (Or.inl (List.mem_of_getElem? (i := 1) rfl)) (allS (Or.inl (List.mem_of_getElem? (i := 2) rfl)) (allS (Or.inl (List.mem_of_getElem? (i := 3) rfl)) all0))))
    have Z4 : n0 ≤ T4.heap.size := Nat.le_trans Z0 K4.1
    obtain ⟨E6, FI6, FT6, FP6, FS6, FO6, VI6, VT6, VP6⟩ := id HQ4
    have N4 := Fr.app N0 N4q
    refine Goes.sts st4 ?_
    show Gs p e below s _ _ _ T4 m 19 #[rv a, iv ap, iv x, .val (.double t), .second] []
    have HR7 : HR Z T4.heap a aI aT aP kI kT kP I4 D4 P4 (3 : Int32) o4 := ⟨E6, FI6, FT6, FP6, FS6, FO6, VI6, VT6, VP6⟩
    refine Goes.retV X4 hx hlk hret (hb hby dmethod_2_19) ?_ (by decide) (by decide)
    exact ⟨I4, D4, P4, o4, rfl, N4, KK5, HR7, inv4⟩
  · refine gifNo X0 hx (hb hby dmethod_2_1) ((if0 _ _).trans (feq c2).1) ?_
    show Gs p e below s _ _ _ s₁ m 4 #[rv a, iv ap, iv x, .val (.double t), .second] []
    refine galoadN X0 hx (hb hby dmethod_2_4) rfl rfl ?_
    refine giloadN X0 hx (hb hby dmethod_2_5) rfl ?_
    refine gdloadN X0 hx (hb hby dmethod_2_6) rfl ?_
    have HR8 : HR Z h0 a aI aT aP kI kT kP I D P (2 : Int32) o := ⟨E1, FI1, FT1, FP1, FS1, FO1, VI1, VT1, VP1⟩
    obtain ⟨cq9, kq9, qa9, qb9, qc9⟩ := isOf hZ e0 E1
    obtain ⟨_, _, ⟨T9, L9, k9, n9⟩, -, X9, ⟨Lc9, hQ9, l9, y9, z9⟩, st9⟩ := X0.virtualBack hx (y := mN10) (z := mN10) hown (mvT hZ (hwk hw 77 rfl)) (mvT hZ (hwk hw 78 rfl)) (notFace_of_selects (args := #[]) (mvT hZ (hwk hw 80 rfl))) (mvT hZ (hwk hw 80 rfl)) (mvT hZ (hwk hw 79 rfl)) (by decide) (backOf (W := 0) (rmQ2 l Z a0 hw [] a aI aT aP kI kT kP I D P o x t S h0 n0 Z0 hB HR8 hx4 hI hS ht) hZ (hwk hw 81 rfl) (hwk hw 2 rfl) (by decide) (by decide)) qa9 qc9 (g := (mkF m 7 #[rv a, iv ap, iv x, .val (.double t), .second] [(.double t), (.int x), (.ref a)])) rfl (by rw [hml]; rfl) (Steps.refl _) (argsL := [(.int x), (.double t)]) (rest := []) (lenOf pd__ID_V_b10 rfl) rfl (by show 2 * 0 + _ ≤ _; exact Nat.le_of_eq rfl) (hb hby dmethod_2_7) (fun _ _ => ⟨rfl, e0, (by decide : 0 + 0 ≤ 0), (by decide : 0 + 0 ≤ 0)⟩)
    dsimp only [Pt.U, Pt.locs, Pt.cells, Pt.slots] at X9 l9 y9 z9 st9 hQ9
    subst l9 y9 z9
    obtain ⟨I9, D9, P9, o9, rfl, N9q, K9, HQ9, inv9⟩ := hQ9
    have KK10 := K0.trans K9 (allS (Or.inl (List.mem_of_getElem? (i := 0) rfl)) (allS (Or.inl (List.mem_of_getElem? (i := 1) rfl)) (allS (Or.inl (List.mem_of_getElem? (i := 2) rfl)) (allS (Or.inl (List.mem_of_getElem? (i := 3) rfl)) all0))))
    have Z9 : n0 ≤ T9.heap.size := Nat.le_trans Z0 K9.1
    obtain ⟨E11, FI11, FT11, FP11, FS11, FO11, VI11, VT11, VP11⟩ := id HQ9
    have N9 := Fr.app N0 N9q
    refine Goes.sts st9 ?_
    show Gs p e below s _ _ _ T9 m 10 #[rv a, iv ap, iv x, .val (.double t), .second] []
    refine ggoto X9 hx (pc' := 19) (hb hby dmethod_2_10) (by decide) (by decide) ?_
    show Gs p e below s _ _ _ T9 m 19 #[rv a, iv ap, iv x, .val (.double t), .second] []
    have HR12 : HR Z T9.heap a aI aT aP kI kT kP I9 D9 P9 (3 : Int32) o9 := ⟨E11, FI11, FT11, FP11, FS11, FO11, VI11, VT11, VP11⟩
    refine Goes.retV X9 hx hlk hret (hb hby dmethod_2_19) ?_ (by decide) (by decide)
    exact ⟨I9, D9, P9, o9, rfl, N9, KK10, HR12, inv9⟩
theorem ef_W3 (m : MethodId) (x0 : Addr) (x1 : Int32) (x2 : Int32) (x3 : UInt64) : entryFrame m #[(.ref x0), (.int x1), (.int x2), (.double x3)] 5 = mkF m 0 #[rv x0, iv x1, iv x2, .val (.double x3), .second] [] := by first | (simp [entryFrame, mkF, argsToLocals, Value.category]; done) | rfl
def QW3 (Z : State) (a aI aT aP : Addr) (kI kT kP : ClassId) (I : Int32 → Int32) (D : Int32 → UInt64) (P : Int32 → Int32) (o ap x : Int32) (t : UInt64) (S : Int32 → Prop) (h0 : Heap) (n0 : Nat) (v : Option Value) (h : Heap) (L : List Loc) : Prop := ∃ (I1 : Int32 → Int32) (D1 : Int32 → UInt64) (P1 : Int32 → Int32) (o1 : Int32), v = none ∧ Fr n0 L ∧ Keep h0 h [a, aI, aT, aP] ∧ HR Z h a aI aT aP kI kT kP I1 D1 P1 (4 : Int32) o1 ∧ Inv (4 : Int32) (fun i => S i ∨ i = x) I1 P1
set_option maxRecDepth 65536 in
set_option maxHeartbeats 40000000 in
theorem rmW3 (l : Launch) (Z : State) (a0 : Array Value) (hw : ∀ d ∈ tables_1, d.before a0 Z = true) (ws : List Jvm.Cond) (a aI aT aP : Addr) (kI kT kP : ClassId) (I : Int32 → Int32) (D : Int32 → UInt64) (P : Int32 → Int32) (o ap x : Int32) (t : UInt64) (S : Int32 → Prop) (h0 : Heap) (n0 : Nat) (Z0 : n0 ≤ h0.size) (hB : HB n0 a aI aT aP) (hR : HR Z h0 a aI aT aP kI kT kP I D P (3 : Int32) o) (hx4 : In4 x) (hI : Inv (3 : Int32) S I P) (hS : ¬ S x) (ht : NoNaN64 t) :
    MetFree l mN11 (head1 (Jvm.Cond.code mN11 method_2_code 5 none :: ws) ({ frames := 4, cells := 0, slots := 0, locals := 57 } : Room)) (fun aa U => aa = #[(.ref a), (.int ap), (.int x), (.double t)] ∧ Z.Warmed39 U.vm ∧ U.heap = h0) (fun _ _ _ _ _ => True) (fun _ u1_ o_ u2_ => ∃ v_ l_, o_ = .returned v_ ∧ QW3 Z a aI aT aP kI kT kP I D P o ap x t S h0 n0 v_ u2_.heap l_ ∧ FrameEnd u1_ o_ u2_ l_ ({ frames := 4, cells := 0, slots := 0, locals := 57 } : Room).cells ({ frames := 4, cells := 0, slots := 0, locals := 57 } : Room).slots) := by
  refine MetFree.of_bodySF (plainFor_of_name pn_com_example_redoubt_redoubt_engine_IndexHeapClearPinLaw) hisR ?_
  intro p e s m args below meth c s₁ Bd hml0 hP hK
  obtain ⟨rfl, hZ, hh⟩ := hP
  have hx := Bd.exec
  have hby := Bd.bytes
  have hlk := BodyLoose.notSynchronized Bd
  have hret := Bd.returns
  have hml : c.maxLocals = 5 := hml0
  have hown : s.vm.findClass "com/example/redoubt/redoubt/engine/IndexHeapClearPinLaw" = some m.cls := findClass_of_methodNamed Bd.named
  have hnm := (name_of_methodNamed Bd.named Bd.method).1
  have X0 : Stand p l e ({ frames := 4, cells := 0, slots := 0, locals := 57 } : Room) s m #[(.ref a), (.int ap), (.int x), (.double t)] below meth c s₁ [] 0 0 := Stand.of_body Bd
  have e0 : s₁.heap = h0 := by rw [← hh, Bd.state]; rfl
  have N0 := Fr.nil n0
  refine Goes.st (s := s) (Q := QW3 Z a aI aT aP kI kT kP I D P o ap x t S h0 n0) (cs := ({ frames := 4, cells := 0, slots := 0, locals := 57 } : Room).cells) (ss := ({ frames := 4, cells := 0, slots := 0, locals := 57 } : Room).slots) (fun tg kg => castTop (ef_W3 m a ap x t) kg) ?_
  obtain ⟨la, lI, lT, lP, naI, naT, naP, nIT, nIP, nTP⟩ := id hB
  obtain ⟨E1, FI1, FT1, FP1, FS1, FO1, VI1, VT1, VP1⟩ := id hR
  have K0 : Keep h0 h0 [a, aI, aT, aP] := Keep.refl _ _
  show Gs p e below s _ _ _ s₁ m 0 #[rv a, iv ap, iv x, .val (.double t), .second] []
  refine giloadN X0 hx (hb hby dmethod_2_0) rfl ?_
  show Gs p e below s _ _ _ s₁ m 1 #[rv a, iv ap, iv x, .val (.double t), .second] [(.int ap)]
  by_cases c2 : ap = (0 : Int32)
  · refine gifYes X0 hx (pc' := 13) (hb hby dmethod_2_1) ((if0 _ _).trans (teq c2).1) (by decide) (by decide) ?_
    show Gs p e below s _ _ _ s₁ m 13 #[rv a, iv ap, iv x, .val (.double t), .second] []
    refine galoadN X0 hx (hb hby dmethod_2_13) rfl rfl ?_
    refine giloadN X0 hx (hb hby dmethod_2_14) rfl ?_
    refine gdloadN X0 hx (hb hby dmethod_2_15) rfl ?_
    have HR3 : HR Z h0 a aI aT aP kI kT kP I D P (3 : Int32) o := ⟨E1, FI1, FT1, FP1, FS1, FO1, VI1, VT1, VP1⟩
    obtain ⟨cq4, kq4, qa4, qb4, qc4⟩ := isOf hZ e0 E1
    obtain ⟨_, _, ⟨T4, L4, k4, n4⟩, -, X4, ⟨Lc4, hQ4, l4, y4, z4⟩, st4⟩ := X0.virtualBack hx (y := mN9) (z := mN9) hown (mvT hZ (hwk hw 45 rfl)) (mvT hZ (hwk hw 46 rfl)) (notFace_of_selects (args := #[]) (mvT hZ (hwk hw 48 rfl))) (mvT hZ (hwk hw 48 rfl)) (mvT hZ (hwk hw 47 rfl)) (by decide) (backOf (W := 0) (rmA3 l Z a0 hw [] a aI aT aP kI kT kP I D P o x t S h0 n0 Z0 hB HR3 hx4 hI hS ht) hZ (hwk hw 49 rfl) (hwk hw 2 rfl) (by decide) (by decide)) qa4 qc4 (g := (mkF m 16 #[rv a, iv ap, iv x, .val (.double t), .second] [(.double t), (.int x), (.ref a)])) rfl (by rw [hml]; rfl) (Steps.refl _) (argsL := [(.int x), (.double t)]) (rest := []) (lenOf pd__ID_V_b10 rfl) rfl (by show 2 * 0 + _ ≤ _; exact Nat.le_of_eq rfl) (hb hby dmethod_2_16) (fun _ _ => ⟨rfl, e0, (by decide : 0 + 0 ≤ 0), (by decide : 0 + 0 ≤ 0)⟩)
    dsimp only [Pt.U, Pt.locs, Pt.cells, Pt.slots] at X4 l4 y4 z4 st4 hQ4
    subst l4 y4 z4
    obtain ⟨I4, D4, P4, o4, rfl, N4q, K4, HQ4, inv4⟩ := hQ4
    have KK5 := K0.trans K4 (allS (Or.inl (List.mem_of_getElem? (i := 0) rfl)) (allS (Or.inl (List.mem_of_getElem? (i := 1) rfl)) (allS (Or.inl (List.mem_of_getElem? (i := 2) rfl)) (allS (Or.inl (List.mem_of_getElem? (i := 3) rfl)) all0))))
    have Z4 : n0 ≤ T4.heap.size := Nat.le_trans Z0 K4.1
    obtain ⟨E6, FI6, FT6, FP6, FS6, FO6, VI6, VT6, VP6⟩ := id HQ4
    have N4 := Fr.app N0 N4q
    refine Goes.sts st4 ?_
    show Gs p e below s _ _ _ T4 m 19 #[rv a, iv ap, iv x, .val (.double t), .second] []
    have HR7 : HR Z T4.heap a aI aT aP kI kT kP I4 D4 P4 (4 : Int32) o4 := ⟨E6, FI6, FT6, FP6, FS6, FO6, VI6, VT6, VP6⟩
    refine Goes.retV X4 hx hlk hret (hb hby dmethod_2_19) ?_ (by decide) (by decide)
    exact ⟨I4, D4, P4, o4, rfl, N4, KK5, HR7, inv4⟩
  · refine gifNo X0 hx (hb hby dmethod_2_1) ((if0 _ _).trans (feq c2).1) ?_
    show Gs p e below s _ _ _ s₁ m 4 #[rv a, iv ap, iv x, .val (.double t), .second] []
    refine galoadN X0 hx (hb hby dmethod_2_4) rfl rfl ?_
    refine giloadN X0 hx (hb hby dmethod_2_5) rfl ?_
    refine gdloadN X0 hx (hb hby dmethod_2_6) rfl ?_
    have HR8 : HR Z h0 a aI aT aP kI kT kP I D P (3 : Int32) o := ⟨E1, FI1, FT1, FP1, FS1, FO1, VI1, VT1, VP1⟩
    obtain ⟨cq9, kq9, qa9, qb9, qc9⟩ := isOf hZ e0 E1
    obtain ⟨_, _, ⟨T9, L9, k9, n9⟩, -, X9, ⟨Lc9, hQ9, l9, y9, z9⟩, st9⟩ := X0.virtualBack hx (y := mN10) (z := mN10) hown (mvT hZ (hwk hw 77 rfl)) (mvT hZ (hwk hw 78 rfl)) (notFace_of_selects (args := #[]) (mvT hZ (hwk hw 80 rfl))) (mvT hZ (hwk hw 80 rfl)) (mvT hZ (hwk hw 79 rfl)) (by decide) (backOf (W := 0) (rmQ3 l Z a0 hw [] a aI aT aP kI kT kP I D P o x t S h0 n0 Z0 hB HR8 hx4 hI hS ht) hZ (hwk hw 81 rfl) (hwk hw 2 rfl) (by decide) (by decide)) qa9 qc9 (g := (mkF m 7 #[rv a, iv ap, iv x, .val (.double t), .second] [(.double t), (.int x), (.ref a)])) rfl (by rw [hml]; rfl) (Steps.refl _) (argsL := [(.int x), (.double t)]) (rest := []) (lenOf pd__ID_V_b10 rfl) rfl (by show 2 * 0 + _ ≤ _; exact Nat.le_of_eq rfl) (hb hby dmethod_2_7) (fun _ _ => ⟨rfl, e0, (by decide : 0 + 0 ≤ 0), (by decide : 0 + 0 ≤ 0)⟩)
    dsimp only [Pt.U, Pt.locs, Pt.cells, Pt.slots] at X9 l9 y9 z9 st9 hQ9
    subst l9 y9 z9
    obtain ⟨I9, D9, P9, o9, rfl, N9q, K9, HQ9, inv9⟩ := hQ9
    have KK10 := K0.trans K9 (allS (Or.inl (List.mem_of_getElem? (i := 0) rfl)) (allS (Or.inl (List.mem_of_getElem? (i := 1) rfl)) (allS (Or.inl (List.mem_of_getElem? (i := 2) rfl)) (allS (Or.inl (List.mem_of_getElem? (i := 3) rfl)) all0))))
    have Z9 : n0 ≤ T9.heap.size := Nat.le_trans Z0 K9.1
    obtain ⟨E11, FI11, FT11, FP11, FS11, FO11, VI11, VT11, VP11⟩ := id HQ9
    have N9 := Fr.app N0 N9q
    refine Goes.sts st9 ?_
    show Gs p e below s _ _ _ T9 m 10 #[rv a, iv ap, iv x, .val (.double t), .second] []
    refine ggoto X9 hx (pc' := 19) (hb hby dmethod_2_10) (by decide) (by decide) ?_
    show Gs p e below s _ _ _ T9 m 19 #[rv a, iv ap, iv x, .val (.double t), .second] []
    have HR12 : HR Z T9.heap a aI aT aP kI kT kP I9 D9 P9 (4 : Int32) o9 := ⟨E11, FI11, FT11, FP11, FS11, FO11, VI11, VT11, VP11⟩
    refine Goes.retV X9 hx hlk hret (hb hby dmethod_2_19) ?_ (by decide) (by decide)
    exact ⟨I9, D9, P9, o9, rfl, N9, KK10, HR12, inv9⟩
theorem ef_A0x (m : MethodId) (x0 : Addr) (x1 : Int32) (x2 : UInt64) : entryFrame m #[(.ref x0), (.int x1), (.double x2)] 5 = mkF m 0 #[rv x0, iv x1, .val (.double x2), .second, .unset] [] := by first | (simp [entryFrame, mkF, argsToLocals, Value.category]; done) | rfl
def QA0x (Z : State) (a aI aT aP : Addr) (kI kT kP : ClassId) (I : Int32 → Int32) (D : Int32 → UInt64) (P : Int32 → Int32) (x : Int32) (t : UInt64) (h0 : Heap) (n0 : Nat) (v : Option Value) (h : Heap) (L : List Loc) : Prop := v = none ∧ Fr n0 L ∧ Keep h0 h [a, aI, aT, aP] ∧ HR Z h a aI aT aP kI kT kP (upd I 0 x) (upd D 0 t) (upd P x 0) (1 : Int32) (1 : Int32)
set_option maxRecDepth 65536 in
set_option maxHeartbeats 40000000 in
theorem rmA0x (l : Launch) (Z : State) (a0 : Array Value) (hw : ∀ d ∈ tables_1, d.before a0 Z = true) (ws : List Jvm.Cond) (a aI aT aP : Addr) (kI kT kP : ClassId) (I : Int32 → Int32) (D : Int32 → UInt64) (P : Int32 → Int32) (x : Int32) (t : UInt64) (h0 : Heap) (n0 : Nat) (Z0 : n0 ≤ h0.size) (hB : HB n0 a aI aT aP) (hR : HR Z h0 a aI aT aP kI kT kP I D P (0 : Int32) (1 : Int32)) (hx4 : In4 x) (hp : P x = -1) (ht : NoNaN64 t) :
    MetFree l mN9 (head1 (Jvm.Cond.code mN9 prog_23_method_11_code 5 none :: ws) ({ frames := 3, cells := 0, slots := 0, locals := 41 } : Room)) (fun aa U => aa = #[(.ref a), (.int x), (.double t)] ∧ Z.Warmed39 U.vm ∧ U.heap = h0) (fun _ _ _ _ _ => True) (fun _ u1_ o_ u2_ => ∃ v_ l_, o_ = .returned v_ ∧ QA0x Z a aI aT aP kI kT kP I D P x t h0 n0 v_ u2_.heap l_ ∧ FrameEnd u1_ o_ u2_ l_ ({ frames := 3, cells := 0, slots := 0, locals := 41 } : Room).cells ({ frames := 3, cells := 0, slots := 0, locals := 41 } : Room).slots) := by
  refine MetFree.of_bodySF (plainFor_of_name pn_com_example_redoubt_redoubt_engine_IndexHeap) hisR ?_
  intro p e s m args below meth c s₁ Bd hml0 hP hK
  obtain ⟨rfl, hZ, hh⟩ := hP
  have hx := Bd.exec
  have hby := Bd.bytes
  have hlk := BodyLoose.notSynchronized Bd
  have hret := Bd.returns
  have hml : c.maxLocals = 5 := hml0
  have hown : s.vm.findClass "com/example/redoubt/redoubt/engine/IndexHeap" = some m.cls := findClass_of_methodNamed Bd.named
  have hnm := (name_of_methodNamed Bd.named Bd.method).1
  have X0 : Stand p l e ({ frames := 3, cells := 0, slots := 0, locals := 41 } : Room) s m #[(.ref a), (.int x), (.double t)] below meth c s₁ [] 0 0 := Stand.of_body Bd
  have e0 : s₁.heap = h0 := by rw [← hh, Bd.state]; rfl
  have N0 := Fr.nil n0
  refine Goes.st (s := s) (Q := QA0x Z a aI aT aP kI kT kP I D P x t h0 n0) (cs := ({ frames := 3, cells := 0, slots := 0, locals := 41 } : Room).cells) (ss := ({ frames := 3, cells := 0, slots := 0, locals := 41 } : Room).slots) (fun tg kg => castTop (ef_A0x m a x t) kg) ?_
  obtain ⟨la, lI, lT, lP, naI, naT, naP, nIT, nIP, nTP⟩ := id hB
  obtain ⟨E1, FI1, FT1, FP1, FS1, FO1, VI1, VT1, VP1⟩ := id hR
  have K0 : Keep h0 h0 [a, aI, aT, aP] := Keep.refl _ _
  show Gs p e below s _ _ _ s₁ m 0 #[rv a, iv x, .val (.double t), .second, .unset] []
  refine galoadN X0 hx (hb hby dp23_11_0) rfl rfl ?_
  refine giloadN X0 hx (hb hby dp23_11_1) rfl ?_
  refine gdloadN X0 hx (hb hby dp23_11_2) rfl ?_
  obtain ⟨cc2, qa2, qb2⟩ := Exa.cell E1
  obtain ⟨_, _, ⟨T2, L2, k2, n2⟩, -, X2, ⟨Lc2, hQ2, l2, y2, z2⟩, st2⟩ := X0.privateBack hx (y := mN4) hown (mvT hZ (hwk hw 50 rfl)) (mvT hZ (hwk hw 51 rfl)) (selP (y := mN4) (as := #[]) (mvT hZ (hwk hw 1 rfl)) (mvP hZ (hwk hw 52 rfl)) (mvT hZ (hwk hw 51 rfl)) (by decide)) (Cond.privateMethod_at (mvP hZ (hwk hw 52 rfl) (args := #[]))) (mvT hZ (hwk hw 53 rfl)) (by decide) (backOf (W := 0) (rmRn l Z a0 hw [] a x t aP kP P h0 n0 Z0 FP1 VP1 hx4 hp ht) hZ (hwk hw 53 rfl) (hwk hw 2 rfl) (by decide) (by decide)) (g := (mkF m 3 #[rv a, iv x, .val (.double t), .second, .unset] [(.double t), (.int x), (.ref a)])) rfl (by rw [hml]; rfl) (Steps.refl _) (a := a) (by rw [e0]; exact qa2) qb2 (argsL := [(.int x), (.double t)]) (rest := []) (lenOf pd__ID_V_b10 rfl) rfl (by show 2 * 0 + _ ≤ _; exact Nat.le_of_eq rfl) (hb hby dp23_11_3) (fun _ _ => ⟨rfl, e0, (by decide : 0 + 0 ≤ 0), (by decide : 0 + 0 ≤ 0)⟩)
  dsimp only [Pt.U, Pt.locs, Pt.cells, Pt.slots] at X2 l2 y2 z2 st2 hQ2
  subst l2 y2 z2
  obtain ⟨rfl, N2q, eh2⟩ := hQ2
  have N2 := Fr.app N0 N2q
  refine Goes.sts st2 ?_
  show Gs p e below s _ _ _ T2 m 6 #[rv a, iv x, .val (.double t), .second, .unset] []
  refine galoadN X2 hx (hb hby dp23_11_6) rfl rfl ?_
  refine gdup X2 hx (hb hby dp23_11_7) trivial rfl ?_
  obtain ⟨T3, X3, e3, st3⟩ := getF X2 hx hZ hown (host := "") (Or.inl (hwk hw 29 rfl)) Via.refl eh2 FS1 (g := (mkF m 8 #[rv a, iv x, .val (.double t), .second, .unset] [(.ref a), (.ref a)])) rfl rfl (hb hby dp23_11_8)
  refine Goes.st st3 ?_
  show Gs p e below s _ _ _ T3 m 11 #[rv a, iv x, .val (.double t), .second, .unset] [(.int (0 : Int32)), (.ref a)]
  refine Goes.st (fun tg kg => XT.dupX1 X3.here hx rfl (hb hby dp23_11_11) rfl rfl rfl kg) ?_
  show Gs p e below s _ _ _ T3 m 12 #[rv a, iv x, .val (.double t), .second, .unset] [(.int (0 : Int32)), (.ref a), (.int (0 : Int32))]
  refine giconst X3 hx (hb hby dp23_11_12) ?_
  refine giadd X3 hx (hb hby dp23_11_13) trivial ?_
  show Gs p e below s _ _ _ T3 m 14 #[rv a, iv x, .val (.double t), .second, .unset] [(.int ((0 : Int32) + (1 : Int32))), (.ref a), (.int (0 : Int32))]
  rw [show ((0 : Int32) + (1 : Int32)) = (1 : Int32) from by decide]
  show Gs p e below s _ _ _ T3 m 14 #[rv a, iv x, .val (.double t), .second, .unset] [(.int (1 : Int32)), (.ref a), (.int (0 : Int32))]
  obtain ⟨T4, h4, X4, e4, W4, st4⟩ := putF X3 hx hZ hown (host := "") (Or.inl (hwk hw 29 rfl)) Via.refl e3 FS1 E1 (Or.inl (hwk hw 30 rfl)) (hwk hw 1 rfl) (ty := .int) (by decide) rfl rfl (g := (mkF m 14 #[rv a, iv x, .val (.double t), .second, .unset] [(.int (1 : Int32)), (.ref a), (.int (0 : Int32))])) rfl rfl (hb hby dp23_11_14)
  have N4 := Fr.snoc X4 N2 la
  have G4 := FS1.same W4
  refine Goes.st st4 ?_
  have KK5 := K0.wr W4 (Or.inl (List.mem_of_getElem? (i := 0) rfl))
  have Z4 : n0 ≤ h4.size := by have := W4.size; have := Z0; omega
  show Gs p e below s _ _ _ T4 m 17 #[rv a, iv x, .val (.double t), .second, .unset] [(.int (0 : Int32))]
  refine gistore X4 hx (hb hby dp23_11_17) trivial (l' := #[rv a, iv x, .val (.double t), .second, iv (0 : Int32)]) rfl ?_
  refine galoadN X4 hx (hb hby dp23_11_19) rfl rfl ?_
  have f7 := (FO1.other W4 (Or.inr (slot_ne (Or.inl (hwk hw 10 rfl)) (Or.inl (hwk hw 30 rfl)) (by decide) (t := .boolean) (t' := .int) (by decide) (by decide))))
  obtain ⟨T6, X6, e6, st6⟩ := getF X4 hx hZ hown (host := "") (Or.inl (hwk hw 9 rfl)) Via.refl e4 f7 (g := (mkF m 20 #[rv a, iv x, .val (.double t), .second, iv (0 : Int32)] [(.ref a)])) rfl rfl (hb hby dp23_11_20)
  refine Goes.st st6 ?_
  show Gs p e below s _ _ _ T6 m 23 #[rv a, iv x, .val (.double t), .second, iv (0 : Int32)] [(.int (1 : Int32))]
  refine gifNo X6 hx (hb hby dp23_11_23) (by decide) ?_
  show Gs p e below s _ _ _ T6 m 26 #[rv a, iv x, .val (.double t), .second, iv (0 : Int32)] []
  refine galoadN X6 hx (hb hby dp23_11_26) rfl rfl ?_
  refine giload X6 hx (hb hby dp23_11_27) rfl ?_
  refine giloadN X6 hx (hb hby dp23_11_29) rfl ?_
  refine gdloadN X6 hx (hb hby dp23_11_30) rfl ?_
  have f8 := (E1.wr W4)
  have f9 := (FI1.other W4 (Or.inr (slot_ne (Or.inr (hwk hw 13 rfl)) (Or.inl (hwk hw 30 rfl)) (by decide) (t := (.array .int)) (t' := .int) (by decide) (by decide))))
  have f10 := (FT1.other W4 (Or.inr (slot_ne (Or.inr (hwk hw 16 rfl)) (Or.inl (hwk hw 30 rfl)) (by decide) (t := (.array .double)) (t' := .int) (by decide) (by decide))))
  have f11 := (FP1.other W4 (Or.inr (slot_ne (Or.inr (hwk hw 18 rfl)) (Or.inl (hwk hw 30 rfl)) (by decide) (t := (.array .int)) (t' := .int) (by decide) (by decide))))
  have f12 := (VI1.other W4 (Ne.symm naI))
  have f13 := (VT1.other W4 (Ne.symm naT))
  have f14 := (VP1.other W4 (Ne.symm naP))
  have HR15 : HR Z h4 a aI aT aP kI kT kP I D P (1 : Int32) (1 : Int32) := ⟨f8, f9, f10, f11, G4, f7, f12, f13, f14⟩
  obtain ⟨cc16, qa16, qb16⟩ := Exa.cell f8
  obtain ⟨_, _, ⟨T16, L16, k16, n16⟩, -, X16, ⟨Lc16, hQ16, l16, y16, z16⟩, st16⟩ := X6.privateBack hx (y := mN7) hown (mvT hZ (hwk hw 61 rfl)) (mvT hZ (hwk hw 62 rfl)) (selP (y := mN7) (as := #[]) (mvT hZ (hwk hw 1 rfl)) (mvP hZ (hwk hw 63 rfl)) (mvT hZ (hwk hw 62 rfl)) (by decide)) (Cond.privateMethod_at (mvP hZ (hwk hw 63 rfl) (args := #[]))) (mvT hZ (hwk hw 64 rfl)) (by decide) (backOf (W := 0) (rmU0x l Z a0 hw [] a aI aT aP kI kT kP I D P (1 : Int32) (1 : Int32) x t h4 n0 Z4 hB HR15 hx4) hZ (hwk hw 64 rfl) (hwk hw 2 rfl) (by decide) (by decide)) (g := (mkF m 31 #[rv a, iv x, .val (.double t), .second, iv (0 : Int32)] [(.double t), (.int x), (.int (0 : Int32)), (.ref a)])) rfl (by rw [hml]; rfl) (Steps.refl _) (a := a) (by rw [e6]; exact qa16) qb16 (argsL := [(.int (0 : Int32)), (.int x), (.double t)]) (rest := []) (lenOf pd__IID_V_e64 rfl) rfl (by show 2 * 0 + _ ≤ _; exact Nat.le_of_eq rfl) (hb hby dp23_11_31) (fun _ _ => ⟨rfl, e6, (by decide : 0 + 0 ≤ 0), (by decide : 0 + 0 ≤ 0)⟩)
  dsimp only [Pt.U, Pt.locs, Pt.cells, Pt.slots] at X16 l16 y16 z16 st16 hQ16
  subst l16 y16 z16
  obtain ⟨rfl, N16q, K16, HQ16⟩ := hQ16
  have KK17 := KK5.trans K16 (allS (Or.inl (List.mem_of_getElem? (i := 0) rfl)) (allS (Or.inl (List.mem_of_getElem? (i := 1) rfl)) (allS (Or.inl (List.mem_of_getElem? (i := 2) rfl)) (allS (Or.inl (List.mem_of_getElem? (i := 3) rfl)) all0))))
  have Z16 : n0 ≤ T16.heap.size := Nat.le_trans Z4 K16.1
  obtain ⟨E18, FI18, FT18, FP18, FS18, FO18, VI18, VT18, VP18⟩ := id HQ16
  have N16 := Fr.app N4 N16q
  refine Goes.sts st16 ?_
  show Gs p e below s _ _ _ T16 m 34 #[rv a, iv x, .val (.double t), .second, iv (0 : Int32)] []
  refine ggoto X16 hx (pc' := 45) (hb hby dp23_11_34) (by decide) (by decide) ?_
  show Gs p e below s _ _ _ T16 m 45 #[rv a, iv x, .val (.double t), .second, iv (0 : Int32)] []
  have HR19 : HR Z T16.heap a aI aT aP kI kT kP (upd I 0 x) (upd D 0 t) (upd P x 0) (1 : Int32) (1 : Int32) := ⟨E18, FI18, FT18, FP18, FS18, FO18, VI18, VT18, VP18⟩
  refine Goes.retV X16 hx hlk hret (hb hby dp23_11_45) ?_ (by decide) (by decide)
  exact ⟨rfl, N16, KK17, HR19⟩
theorem ef_W0x (m : MethodId) (x0 : Addr) (x1 : Int32) (x2 : Int32) (x3 : UInt64) : entryFrame m #[(.ref x0), (.int x1), (.int x2), (.double x3)] 5 = mkF m 0 #[rv x0, iv x1, iv x2, .val (.double x3), .second] [] := by first | (simp [entryFrame, mkF, argsToLocals, Value.category]; done) | rfl
def QW0x (Z : State) (a aI aT aP : Addr) (kI kT kP : ClassId) (I : Int32 → Int32) (D : Int32 → UInt64) (P : Int32 → Int32) (x : Int32) (t : UInt64) (h0 : Heap) (n0 : Nat) (v : Option Value) (h : Heap) (L : List Loc) : Prop := v = none ∧ Fr n0 L ∧ Keep h0 h [a, aI, aT, aP] ∧ HR Z h a aI aT aP kI kT kP (upd I 0 x) (upd D 0 t) (upd P x 0) (1 : Int32) (1 : Int32)
set_option maxRecDepth 65536 in
set_option maxHeartbeats 40000000 in
theorem rmW0x (l : Launch) (Z : State) (a0 : Array Value) (hw : ∀ d ∈ tables_1, d.before a0 Z = true) (ws : List Jvm.Cond) (a aI aT aP : Addr) (kI kT kP : ClassId) (I : Int32 → Int32) (D : Int32 → UInt64) (P : Int32 → Int32) (x : Int32) (t : UInt64) (h0 : Heap) (n0 : Nat) (Z0 : n0 ≤ h0.size) (hB : HB n0 a aI aT aP) (hR : HR Z h0 a aI aT aP kI kT kP I D P (0 : Int32) (1 : Int32)) (hx4 : In4 x) (hp : P x = -1) (ht : NoNaN64 t) :
    MetFree l mN11 (head1 (Jvm.Cond.code mN11 method_2_code 5 none :: ws) ({ frames := 4, cells := 0, slots := 0, locals := 57 } : Room)) (fun aa U => aa = #[(.ref a), (.int (0 : Int32)), (.int x), (.double t)] ∧ Z.Warmed39 U.vm ∧ U.heap = h0) (fun _ _ _ _ _ => True) (fun _ u1_ o_ u2_ => ∃ v_ l_, o_ = .returned v_ ∧ QW0x Z a aI aT aP kI kT kP I D P x t h0 n0 v_ u2_.heap l_ ∧ FrameEnd u1_ o_ u2_ l_ ({ frames := 4, cells := 0, slots := 0, locals := 57 } : Room).cells ({ frames := 4, cells := 0, slots := 0, locals := 57 } : Room).slots) := by
  refine MetFree.of_bodySF (plainFor_of_name pn_com_example_redoubt_redoubt_engine_IndexHeapClearPinLaw) hisR ?_
  intro p e s m args below meth c s₁ Bd hml0 hP hK
  obtain ⟨rfl, hZ, hh⟩ := hP
  have hx := Bd.exec
  have hby := Bd.bytes
  have hlk := BodyLoose.notSynchronized Bd
  have hret := Bd.returns
  have hml : c.maxLocals = 5 := hml0
  have hown : s.vm.findClass "com/example/redoubt/redoubt/engine/IndexHeapClearPinLaw" = some m.cls := findClass_of_methodNamed Bd.named
  have hnm := (name_of_methodNamed Bd.named Bd.method).1
  have X0 : Stand p l e ({ frames := 4, cells := 0, slots := 0, locals := 57 } : Room) s m #[(.ref a), (.int (0 : Int32)), (.int x), (.double t)] below meth c s₁ [] 0 0 := Stand.of_body Bd
  have e0 : s₁.heap = h0 := by rw [← hh, Bd.state]; rfl
  have N0 := Fr.nil n0
  refine Goes.st (s := s) (Q := QW0x Z a aI aT aP kI kT kP I D P x t h0 n0) (cs := ({ frames := 4, cells := 0, slots := 0, locals := 57 } : Room).cells) (ss := ({ frames := 4, cells := 0, slots := 0, locals := 57 } : Room).slots) (fun tg kg => castTop (ef_W0x m a (0 : Int32) x t) kg) ?_
  obtain ⟨la, lI, lT, lP, naI, naT, naP, nIT, nIP, nTP⟩ := id hB
  obtain ⟨E1, FI1, FT1, FP1, FS1, FO1, VI1, VT1, VP1⟩ := id hR
  have K0 : Keep h0 h0 [a, aI, aT, aP] := Keep.refl _ _
  show Gs p e below s _ _ _ s₁ m 0 #[rv a, iv (0 : Int32), iv x, .val (.double t), .second] []
  refine giloadN X0 hx (hb hby dmethod_2_0) rfl ?_
  show Gs p e below s _ _ _ s₁ m 1 #[rv a, iv (0 : Int32), iv x, .val (.double t), .second] [(.int (0 : Int32))]
  refine gifYes X0 hx (pc' := 13) (hb hby dmethod_2_1) (by decide) (by decide) (by decide) ?_
  show Gs p e below s _ _ _ s₁ m 13 #[rv a, iv (0 : Int32), iv x, .val (.double t), .second] []
  refine galoadN X0 hx (hb hby dmethod_2_13) rfl rfl ?_
  refine giloadN X0 hx (hb hby dmethod_2_14) rfl ?_
  refine gdloadN X0 hx (hb hby dmethod_2_15) rfl ?_
  have HR2 : HR Z h0 a aI aT aP kI kT kP I D P (0 : Int32) (1 : Int32) := ⟨E1, FI1, FT1, FP1, FS1, FO1, VI1, VT1, VP1⟩
  obtain ⟨cq3, kq3, qa3, qb3, qc3⟩ := isOf hZ e0 E1
  obtain ⟨_, _, ⟨T3, L3, k3, n3⟩, -, X3, ⟨Lc3, hQ3, l3, y3, z3⟩, st3⟩ := X0.virtualBack hx (y := mN9) (z := mN9) hown (mvT hZ (hwk hw 45 rfl)) (mvT hZ (hwk hw 46 rfl)) (notFace_of_selects (args := #[]) (mvT hZ (hwk hw 48 rfl))) (mvT hZ (hwk hw 48 rfl)) (mvT hZ (hwk hw 47 rfl)) (by decide) (backOf (W := 0) (rmA0x l Z a0 hw [] a aI aT aP kI kT kP I D P x t h0 n0 Z0 hB HR2 hx4 hp ht) hZ (hwk hw 49 rfl) (hwk hw 2 rfl) (by decide) (by decide)) qa3 qc3 (g := (mkF m 16 #[rv a, iv (0 : Int32), iv x, .val (.double t), .second] [(.double t), (.int x), (.ref a)])) rfl (by rw [hml]; rfl) (Steps.refl _) (argsL := [(.int x), (.double t)]) (rest := []) (lenOf pd__ID_V_b10 rfl) rfl (by show 2 * 0 + _ ≤ _; exact Nat.le_of_eq rfl) (hb hby dmethod_2_16) (fun _ _ => ⟨rfl, e0, (by decide : 0 + 0 ≤ 0), (by decide : 0 + 0 ≤ 0)⟩)
  dsimp only [Pt.U, Pt.locs, Pt.cells, Pt.slots] at X3 l3 y3 z3 st3 hQ3
  subst l3 y3 z3
  obtain ⟨rfl, N3q, K3, HQ3⟩ := hQ3
  have KK4 := K0.trans K3 (allS (Or.inl (List.mem_of_getElem? (i := 0) rfl)) (allS (Or.inl (List.mem_of_getElem? (i := 1) rfl)) (allS (Or.inl (List.mem_of_getElem? (i := 2) rfl)) (allS (Or.inl (List.mem_of_getElem? (i := 3) rfl)) all0))))
  have Z3 : n0 ≤ T3.heap.size := Nat.le_trans Z0 K3.1
  obtain ⟨E5, FI5, FT5, FP5, FS5, FO5, VI5, VT5, VP5⟩ := id HQ3
  have N3 := Fr.app N0 N3q
  refine Goes.sts st3 ?_
  show Gs p e below s _ _ _ T3 m 19 #[rv a, iv (0 : Int32), iv x, .val (.double t), .second] []
  have HR6 : HR Z T3.heap a aI aT aP kI kT kP (upd I 0 x) (upd D 0 t) (upd P x 0) (1 : Int32) (1 : Int32) := ⟨E5, FI5, FT5, FP5, FS5, FO5, VI5, VT5, VP5⟩
  refine Goes.retV X3 hx hlk hret (hb hby dmethod_2_19) ?_ (by decide) (by decide)
  exact ⟨rfl, N3, KK4, HR6⟩
theorem ef_A1x (m : MethodId) (x0 : Addr) (x1 : Int32) (x2 : UInt64) : entryFrame m #[(.ref x0), (.int x1), (.double x2)] 5 = mkF m 0 #[rv x0, iv x1, .val (.double x2), .second, .unset] [] := by first | (simp [entryFrame, mkF, argsToLocals, Value.category]; done) | rfl
def QA1x (Z : State) (a aI aT aP : Addr) (kI kT kP : ClassId) (I : Int32 → Int32) (D : Int32 → UInt64) (P : Int32 → Int32) (x : Int32) (t : UInt64) (h0 : Heap) (n0 : Nat) (v : Option Value) (h : Heap) (L : List Loc) : Prop := v = none ∧ Fr n0 L ∧ Keep h0 h [a, aI, aT, aP] ∧ HR Z h a aI aT aP kI kT kP (upd (upd I 1 (I 0)) 0 x) (upd (upd D 1 (D 0)) 0 t) (upd (upd P (I 0) 1) x 0) (2 : Int32) (1 : Int32)
set_option maxRecDepth 65536 in
set_option maxHeartbeats 40000000 in
theorem rmA1x (l : Launch) (Z : State) (a0 : Array Value) (hw : ∀ d ∈ tables_1, d.before a0 Z = true) (ws : List Jvm.Cond) (a aI aT aP : Addr) (kI kT kP : ClassId) (I : Int32 → Int32) (D : Int32 → UInt64) (P : Int32 → Int32) (x : Int32) (t : UInt64) (h0 : Heap) (n0 : Nat) (Z0 : n0 ≤ h0.size) (hB : HB n0 a aI aT aP) (hR : HR Z h0 a aI aT aP kI kT kP I D P (1 : Int32) (1 : Int32)) (hx4 : In4 x) (hp : P x = -1) (ht : NoNaN64 t) (hI0 : In4 (I 0)) (hb0 : ¬ bef t x (D 0) (I 0) = 0) :
    MetFree l mN9 (head1 (Jvm.Cond.code mN9 prog_23_method_11_code 5 none :: ws) ({ frames := 3, cells := 0, slots := 0, locals := 41 } : Room)) (fun aa U => aa = #[(.ref a), (.int x), (.double t)] ∧ Z.Warmed39 U.vm ∧ U.heap = h0) (fun _ _ _ _ _ => True) (fun _ u1_ o_ u2_ => ∃ v_ l_, o_ = .returned v_ ∧ QA1x Z a aI aT aP kI kT kP I D P x t h0 n0 v_ u2_.heap l_ ∧ FrameEnd u1_ o_ u2_ l_ ({ frames := 3, cells := 0, slots := 0, locals := 41 } : Room).cells ({ frames := 3, cells := 0, slots := 0, locals := 41 } : Room).slots) := by
  refine MetFree.of_bodySF (plainFor_of_name pn_com_example_redoubt_redoubt_engine_IndexHeap) hisR ?_
  intro p e s m args below meth c s₁ Bd hml0 hP hK
  obtain ⟨rfl, hZ, hh⟩ := hP
  have hx := Bd.exec
  have hby := Bd.bytes
  have hlk := BodyLoose.notSynchronized Bd
  have hret := Bd.returns
  have hml : c.maxLocals = 5 := hml0
  have hown : s.vm.findClass "com/example/redoubt/redoubt/engine/IndexHeap" = some m.cls := findClass_of_methodNamed Bd.named
  have hnm := (name_of_methodNamed Bd.named Bd.method).1
  have X0 : Stand p l e ({ frames := 3, cells := 0, slots := 0, locals := 41 } : Room) s m #[(.ref a), (.int x), (.double t)] below meth c s₁ [] 0 0 := Stand.of_body Bd
  have e0 : s₁.heap = h0 := by rw [← hh, Bd.state]; rfl
  have N0 := Fr.nil n0
  refine Goes.st (s := s) (Q := QA1x Z a aI aT aP kI kT kP I D P x t h0 n0) (cs := ({ frames := 3, cells := 0, slots := 0, locals := 41 } : Room).cells) (ss := ({ frames := 3, cells := 0, slots := 0, locals := 41 } : Room).slots) (fun tg kg => castTop (ef_A1x m a x t) kg) ?_
  obtain ⟨la, lI, lT, lP, naI, naT, naP, nIT, nIP, nTP⟩ := id hB
  obtain ⟨E1, FI1, FT1, FP1, FS1, FO1, VI1, VT1, VP1⟩ := id hR
  have K0 : Keep h0 h0 [a, aI, aT, aP] := Keep.refl _ _
  show Gs p e below s _ _ _ s₁ m 0 #[rv a, iv x, .val (.double t), .second, .unset] []
  refine galoadN X0 hx (hb hby dp23_11_0) rfl rfl ?_
  refine giloadN X0 hx (hb hby dp23_11_1) rfl ?_
  refine gdloadN X0 hx (hb hby dp23_11_2) rfl ?_
  obtain ⟨cc2, qa2, qb2⟩ := Exa.cell E1
  obtain ⟨_, _, ⟨T2, L2, k2, n2⟩, -, X2, ⟨Lc2, hQ2, l2, y2, z2⟩, st2⟩ := X0.privateBack hx (y := mN4) hown (mvT hZ (hwk hw 50 rfl)) (mvT hZ (hwk hw 51 rfl)) (selP (y := mN4) (as := #[]) (mvT hZ (hwk hw 1 rfl)) (mvP hZ (hwk hw 52 rfl)) (mvT hZ (hwk hw 51 rfl)) (by decide)) (Cond.privateMethod_at (mvP hZ (hwk hw 52 rfl) (args := #[]))) (mvT hZ (hwk hw 53 rfl)) (by decide) (backOf (W := 0) (rmRn l Z a0 hw [] a x t aP kP P h0 n0 Z0 FP1 VP1 hx4 hp ht) hZ (hwk hw 53 rfl) (hwk hw 2 rfl) (by decide) (by decide)) (g := (mkF m 3 #[rv a, iv x, .val (.double t), .second, .unset] [(.double t), (.int x), (.ref a)])) rfl (by rw [hml]; rfl) (Steps.refl _) (a := a) (by rw [e0]; exact qa2) qb2 (argsL := [(.int x), (.double t)]) (rest := []) (lenOf pd__ID_V_b10 rfl) rfl (by show 2 * 0 + _ ≤ _; exact Nat.le_of_eq rfl) (hb hby dp23_11_3) (fun _ _ => ⟨rfl, e0, (by decide : 0 + 0 ≤ 0), (by decide : 0 + 0 ≤ 0)⟩)
  dsimp only [Pt.U, Pt.locs, Pt.cells, Pt.slots] at X2 l2 y2 z2 st2 hQ2
  subst l2 y2 z2
  obtain ⟨rfl, N2q, eh2⟩ := hQ2
  have N2 := Fr.app N0 N2q
  refine Goes.sts st2 ?_
  show Gs p e below s _ _ _ T2 m 6 #[rv a, iv x, .val (.double t), .second, .unset] []
  refine galoadN X2 hx (hb hby dp23_11_6) rfl rfl ?_
  refine gdup X2 hx (hb hby dp23_11_7) trivial rfl ?_
  obtain ⟨T3, X3, e3, st3⟩ := getF X2 hx hZ hown (host := "") (Or.inl (hwk hw 29 rfl)) Via.refl eh2 FS1 (g := (mkF m 8 #[rv a, iv x, .val (.double t), .second, .unset] [(.ref a), (.ref a)])) rfl rfl (hb hby dp23_11_8)
  refine Goes.st st3 ?_
  show Gs p e below s _ _ _ T3 m 11 #[rv a, iv x, .val (.double t), .second, .unset] [(.int (1 : Int32)), (.ref a)]
  refine Goes.st (fun tg kg => XT.dupX1 X3.here hx rfl (hb hby dp23_11_11) rfl rfl rfl kg) ?_
  show Gs p e below s _ _ _ T3 m 12 #[rv a, iv x, .val (.double t), .second, .unset] [(.int (1 : Int32)), (.ref a), (.int (1 : Int32))]
  refine giconst X3 hx (hb hby dp23_11_12) ?_
  refine giadd X3 hx (hb hby dp23_11_13) trivial ?_
  show Gs p e below s _ _ _ T3 m 14 #[rv a, iv x, .val (.double t), .second, .unset] [(.int ((1 : Int32) + (1 : Int32))), (.ref a), (.int (1 : Int32))]
  rw [show ((1 : Int32) + (1 : Int32)) = (2 : Int32) from by decide]
  show Gs p e below s _ _ _ T3 m 14 #[rv a, iv x, .val (.double t), .second, .unset] [(.int (2 : Int32)), (.ref a), (.int (1 : Int32))]
  obtain ⟨T4, h4, X4, e4, W4, st4⟩ := putF X3 hx hZ hown (host := "") (Or.inl (hwk hw 29 rfl)) Via.refl e3 FS1 E1 (Or.inl (hwk hw 30 rfl)) (hwk hw 1 rfl) (ty := .int) (by decide) rfl rfl (g := (mkF m 14 #[rv a, iv x, .val (.double t), .second, .unset] [(.int (2 : Int32)), (.ref a), (.int (1 : Int32))])) rfl rfl (hb hby dp23_11_14)
  have N4 := Fr.snoc X4 N2 la
  have G4 := FS1.same W4
  refine Goes.st st4 ?_
  have KK5 := K0.wr W4 (Or.inl (List.mem_of_getElem? (i := 0) rfl))
  have Z4 : n0 ≤ h4.size := by have := W4.size; have := Z0; omega
  show Gs p e below s _ _ _ T4 m 17 #[rv a, iv x, .val (.double t), .second, .unset] [(.int (1 : Int32))]
  refine gistore X4 hx (hb hby dp23_11_17) trivial (l' := #[rv a, iv x, .val (.double t), .second, iv (1 : Int32)]) rfl ?_
  refine galoadN X4 hx (hb hby dp23_11_19) rfl rfl ?_
  have f7 := (FO1.other W4 (Or.inr (slot_ne (Or.inl (hwk hw 10 rfl)) (Or.inl (hwk hw 30 rfl)) (by decide) (t := .boolean) (t' := .int) (by decide) (by decide))))
  obtain ⟨T6, X6, e6, st6⟩ := getF X4 hx hZ hown (host := "") (Or.inl (hwk hw 9 rfl)) Via.refl e4 f7 (g := (mkF m 20 #[rv a, iv x, .val (.double t), .second, iv (1 : Int32)] [(.ref a)])) rfl rfl (hb hby dp23_11_20)
  refine Goes.st st6 ?_
  show Gs p e below s _ _ _ T6 m 23 #[rv a, iv x, .val (.double t), .second, iv (1 : Int32)] [(.int (1 : Int32))]
  refine gifNo X6 hx (hb hby dp23_11_23) (by decide) ?_
  show Gs p e below s _ _ _ T6 m 26 #[rv a, iv x, .val (.double t), .second, iv (1 : Int32)] []
  refine galoadN X6 hx (hb hby dp23_11_26) rfl rfl ?_
  refine giload X6 hx (hb hby dp23_11_27) rfl ?_
  refine giloadN X6 hx (hb hby dp23_11_29) rfl ?_
  refine gdloadN X6 hx (hb hby dp23_11_30) rfl ?_
  have f8 := (E1.wr W4)
  have f9 := (FI1.other W4 (Or.inr (slot_ne (Or.inr (hwk hw 13 rfl)) (Or.inl (hwk hw 30 rfl)) (by decide) (t := (.array .int)) (t' := .int) (by decide) (by decide))))
  have f10 := (FT1.other W4 (Or.inr (slot_ne (Or.inr (hwk hw 16 rfl)) (Or.inl (hwk hw 30 rfl)) (by decide) (t := (.array .double)) (t' := .int) (by decide) (by decide))))
  have f11 := (FP1.other W4 (Or.inr (slot_ne (Or.inr (hwk hw 18 rfl)) (Or.inl (hwk hw 30 rfl)) (by decide) (t := (.array .int)) (t' := .int) (by decide) (by decide))))
  have f12 := (VI1.other W4 (Ne.symm naI))
  have f13 := (VT1.other W4 (Ne.symm naT))
  have f14 := (VP1.other W4 (Ne.symm naP))
  have HR15 : HR Z h4 a aI aT aP kI kT kP I D P (2 : Int32) (1 : Int32) := ⟨f8, f9, f10, f11, G4, f7, f12, f13, f14⟩
  obtain ⟨cc16, qa16, qb16⟩ := Exa.cell f8
  obtain ⟨_, _, ⟨T16, L16, k16, n16⟩, -, X16, ⟨Lc16, hQ16, l16, y16, z16⟩, st16⟩ := X6.privateBack hx (y := mN7) hown (mvT hZ (hwk hw 61 rfl)) (mvT hZ (hwk hw 62 rfl)) (selP (y := mN7) (as := #[]) (mvT hZ (hwk hw 1 rfl)) (mvP hZ (hwk hw 63 rfl)) (mvT hZ (hwk hw 62 rfl)) (by decide)) (Cond.privateMethod_at (mvP hZ (hwk hw 63 rfl) (args := #[]))) (mvT hZ (hwk hw 64 rfl)) (by decide) (backOf (W := 0) (rmU1x l Z a0 hw [] a aI aT aP kI kT kP I D P (2 : Int32) (1 : Int32) x t h4 n0 Z4 hB HR15 hx4 hI0 hb0) hZ (hwk hw 64 rfl) (hwk hw 2 rfl) (by decide) (by decide)) (g := (mkF m 31 #[rv a, iv x, .val (.double t), .second, iv (1 : Int32)] [(.double t), (.int x), (.int (1 : Int32)), (.ref a)])) rfl (by rw [hml]; rfl) (Steps.refl _) (a := a) (by rw [e6]; exact qa16) qb16 (argsL := [(.int (1 : Int32)), (.int x), (.double t)]) (rest := []) (lenOf pd__IID_V_e64 rfl) rfl (by show 2 * 0 + _ ≤ _; exact Nat.le_of_eq rfl) (hb hby dp23_11_31) (fun _ _ => ⟨rfl, e6, (by decide : 0 + 0 ≤ 0), (by decide : 0 + 0 ≤ 0)⟩)
  dsimp only [Pt.U, Pt.locs, Pt.cells, Pt.slots] at X16 l16 y16 z16 st16 hQ16
  subst l16 y16 z16
  obtain ⟨rfl, N16q, K16, HQ16⟩ := hQ16
  have KK17 := KK5.trans K16 (allS (Or.inl (List.mem_of_getElem? (i := 0) rfl)) (allS (Or.inl (List.mem_of_getElem? (i := 1) rfl)) (allS (Or.inl (List.mem_of_getElem? (i := 2) rfl)) (allS (Or.inl (List.mem_of_getElem? (i := 3) rfl)) all0))))
  have Z16 : n0 ≤ T16.heap.size := Nat.le_trans Z4 K16.1
  obtain ⟨E18, FI18, FT18, FP18, FS18, FO18, VI18, VT18, VP18⟩ := id HQ16
  have N16 := Fr.app N4 N16q
  refine Goes.sts st16 ?_
  show Gs p e below s _ _ _ T16 m 34 #[rv a, iv x, .val (.double t), .second, iv (1 : Int32)] []
  refine ggoto X16 hx (pc' := 45) (hb hby dp23_11_34) (by decide) (by decide) ?_
  show Gs p e below s _ _ _ T16 m 45 #[rv a, iv x, .val (.double t), .second, iv (1 : Int32)] []
  have HR19 : HR Z T16.heap a aI aT aP kI kT kP (upd (upd I 1 (I 0)) 0 x) (upd (upd D 1 (D 0)) 0 t) (upd (upd P (I 0) 1) x 0) (2 : Int32) (1 : Int32) := ⟨E18, FI18, FT18, FP18, FS18, FO18, VI18, VT18, VP18⟩
  refine Goes.retV X16 hx hlk hret (hb hby dp23_11_45) ?_ (by decide) (by decide)
  exact ⟨rfl, N16, KK17, HR19⟩
theorem ef_W1x (m : MethodId) (x0 : Addr) (x1 : Int32) (x2 : Int32) (x3 : UInt64) : entryFrame m #[(.ref x0), (.int x1), (.int x2), (.double x3)] 5 = mkF m 0 #[rv x0, iv x1, iv x2, .val (.double x3), .second] [] := by first | (simp [entryFrame, mkF, argsToLocals, Value.category]; done) | rfl
def QW1x (Z : State) (a aI aT aP : Addr) (kI kT kP : ClassId) (I : Int32 → Int32) (D : Int32 → UInt64) (P : Int32 → Int32) (x : Int32) (t : UInt64) (h0 : Heap) (n0 : Nat) (v : Option Value) (h : Heap) (L : List Loc) : Prop := v = none ∧ Fr n0 L ∧ Keep h0 h [a, aI, aT, aP] ∧ HR Z h a aI aT aP kI kT kP (upd (upd I 1 (I 0)) 0 x) (upd (upd D 1 (D 0)) 0 t) (upd (upd P (I 0) 1) x 0) (2 : Int32) (1 : Int32)
set_option maxRecDepth 65536 in
set_option maxHeartbeats 40000000 in
theorem rmW1x (l : Launch) (Z : State) (a0 : Array Value) (hw : ∀ d ∈ tables_1, d.before a0 Z = true) (ws : List Jvm.Cond) (a aI aT aP : Addr) (kI kT kP : ClassId) (I : Int32 → Int32) (D : Int32 → UInt64) (P : Int32 → Int32) (x : Int32) (t : UInt64) (h0 : Heap) (n0 : Nat) (Z0 : n0 ≤ h0.size) (hB : HB n0 a aI aT aP) (hR : HR Z h0 a aI aT aP kI kT kP I D P (1 : Int32) (1 : Int32)) (hx4 : In4 x) (hp : P x = -1) (ht : NoNaN64 t) (hI0 : In4 (I 0)) (hb0 : ¬ bef t x (D 0) (I 0) = 0) :
    MetFree l mN11 (head1 (Jvm.Cond.code mN11 method_2_code 5 none :: ws) ({ frames := 4, cells := 0, slots := 0, locals := 57 } : Room)) (fun aa U => aa = #[(.ref a), (.int (0 : Int32)), (.int x), (.double t)] ∧ Z.Warmed39 U.vm ∧ U.heap = h0) (fun _ _ _ _ _ => True) (fun _ u1_ o_ u2_ => ∃ v_ l_, o_ = .returned v_ ∧ QW1x Z a aI aT aP kI kT kP I D P x t h0 n0 v_ u2_.heap l_ ∧ FrameEnd u1_ o_ u2_ l_ ({ frames := 4, cells := 0, slots := 0, locals := 57 } : Room).cells ({ frames := 4, cells := 0, slots := 0, locals := 57 } : Room).slots) := by
  refine MetFree.of_bodySF (plainFor_of_name pn_com_example_redoubt_redoubt_engine_IndexHeapClearPinLaw) hisR ?_
  intro p e s m args below meth c s₁ Bd hml0 hP hK
  obtain ⟨rfl, hZ, hh⟩ := hP
  have hx := Bd.exec
  have hby := Bd.bytes
  have hlk := BodyLoose.notSynchronized Bd
  have hret := Bd.returns
  have hml : c.maxLocals = 5 := hml0
  have hown : s.vm.findClass "com/example/redoubt/redoubt/engine/IndexHeapClearPinLaw" = some m.cls := findClass_of_methodNamed Bd.named
  have hnm := (name_of_methodNamed Bd.named Bd.method).1
  have X0 : Stand p l e ({ frames := 4, cells := 0, slots := 0, locals := 57 } : Room) s m #[(.ref a), (.int (0 : Int32)), (.int x), (.double t)] below meth c s₁ [] 0 0 := Stand.of_body Bd
  have e0 : s₁.heap = h0 := by rw [← hh, Bd.state]; rfl
  have N0 := Fr.nil n0
  refine Goes.st (s := s) (Q := QW1x Z a aI aT aP kI kT kP I D P x t h0 n0) (cs := ({ frames := 4, cells := 0, slots := 0, locals := 57 } : Room).cells) (ss := ({ frames := 4, cells := 0, slots := 0, locals := 57 } : Room).slots) (fun tg kg => castTop (ef_W1x m a (0 : Int32) x t) kg) ?_
  obtain ⟨la, lI, lT, lP, naI, naT, naP, nIT, nIP, nTP⟩ := id hB
  obtain ⟨E1, FI1, FT1, FP1, FS1, FO1, VI1, VT1, VP1⟩ := id hR
  have K0 : Keep h0 h0 [a, aI, aT, aP] := Keep.refl _ _
  show Gs p e below s _ _ _ s₁ m 0 #[rv a, iv (0 : Int32), iv x, .val (.double t), .second] []
  refine giloadN X0 hx (hb hby dmethod_2_0) rfl ?_
  show Gs p e below s _ _ _ s₁ m 1 #[rv a, iv (0 : Int32), iv x, .val (.double t), .second] [(.int (0 : Int32))]
  refine gifYes X0 hx (pc' := 13) (hb hby dmethod_2_1) (by decide) (by decide) (by decide) ?_
  show Gs p e below s _ _ _ s₁ m 13 #[rv a, iv (0 : Int32), iv x, .val (.double t), .second] []
  refine galoadN X0 hx (hb hby dmethod_2_13) rfl rfl ?_
  refine giloadN X0 hx (hb hby dmethod_2_14) rfl ?_
  refine gdloadN X0 hx (hb hby dmethod_2_15) rfl ?_
  have HR2 : HR Z h0 a aI aT aP kI kT kP I D P (1 : Int32) (1 : Int32) := ⟨E1, FI1, FT1, FP1, FS1, FO1, VI1, VT1, VP1⟩
  obtain ⟨cq3, kq3, qa3, qb3, qc3⟩ := isOf hZ e0 E1
  obtain ⟨_, _, ⟨T3, L3, k3, n3⟩, -, X3, ⟨Lc3, hQ3, l3, y3, z3⟩, st3⟩ := X0.virtualBack hx (y := mN9) (z := mN9) hown (mvT hZ (hwk hw 45 rfl)) (mvT hZ (hwk hw 46 rfl)) (notFace_of_selects (args := #[]) (mvT hZ (hwk hw 48 rfl))) (mvT hZ (hwk hw 48 rfl)) (mvT hZ (hwk hw 47 rfl)) (by decide) (backOf (W := 0) (rmA1x l Z a0 hw [] a aI aT aP kI kT kP I D P x t h0 n0 Z0 hB HR2 hx4 hp ht hI0 hb0) hZ (hwk hw 49 rfl) (hwk hw 2 rfl) (by decide) (by decide)) qa3 qc3 (g := (mkF m 16 #[rv a, iv (0 : Int32), iv x, .val (.double t), .second] [(.double t), (.int x), (.ref a)])) rfl (by rw [hml]; rfl) (Steps.refl _) (argsL := [(.int x), (.double t)]) (rest := []) (lenOf pd__ID_V_b10 rfl) rfl (by show 2 * 0 + _ ≤ _; exact Nat.le_of_eq rfl) (hb hby dmethod_2_16) (fun _ _ => ⟨rfl, e0, (by decide : 0 + 0 ≤ 0), (by decide : 0 + 0 ≤ 0)⟩)
  dsimp only [Pt.U, Pt.locs, Pt.cells, Pt.slots] at X3 l3 y3 z3 st3 hQ3
  subst l3 y3 z3
  obtain ⟨rfl, N3q, K3, HQ3⟩ := hQ3
  have KK4 := K0.trans K3 (allS (Or.inl (List.mem_of_getElem? (i := 0) rfl)) (allS (Or.inl (List.mem_of_getElem? (i := 1) rfl)) (allS (Or.inl (List.mem_of_getElem? (i := 2) rfl)) (allS (Or.inl (List.mem_of_getElem? (i := 3) rfl)) all0))))
  have Z3 : n0 ≤ T3.heap.size := Nat.le_trans Z0 K3.1
  obtain ⟨E5, FI5, FT5, FP5, FS5, FO5, VI5, VT5, VP5⟩ := id HQ3
  have N3 := Fr.app N0 N3q
  refine Goes.sts st3 ?_
  show Gs p e below s _ _ _ T3 m 19 #[rv a, iv (0 : Int32), iv x, .val (.double t), .second] []
  have HR6 : HR Z T3.heap a aI aT aP kI kT kP (upd (upd I 1 (I 0)) 0 x) (upd (upd D 1 (D 0)) 0 t) (upd (upd P (I 0) 1) x 0) (2 : Int32) (1 : Int32) := ⟨E5, FI5, FT5, FP5, FS5, FO5, VI5, VT5, VP5⟩
  refine Goes.retV X3 hx hlk hret (hb hby dmethod_2_19) ?_ (by decide) (by decide)
  exact ⟨rfl, N3, KK4, HR6⟩
theorem dp23_19_0 : decode prog_23_method_19_code 0 = .ok (.aload_n 0, 1) := by decide +kernel
theorem dp23_19_1 : decode prog_23_method_19_code 1 = .ok (.getfield 7, 3) := by decide +kernel
theorem dp23_19_4 : decode prog_23_method_19_code 4 = .ok (.ifCond .ne 44, 3) := by decide +kernel
theorem dp23_19_7 : decode prog_23_method_19_code 7 = .ok (.aload_n 0, 1) := by decide +kernel
theorem dp23_19_8 : decode prog_23_method_19_code 8 = .ok (.getfield 30, 3) := by decide +kernel
theorem dp23_19_11 : decode prog_23_method_19_code 11 = .ok (.iconst 2, 1) := by decide +kernel
theorem dp23_19_12 : decode prog_23_method_19_code 12 = .ok (.idiv, 1) := by decide +kernel
theorem dp23_19_13 : decode prog_23_method_19_code 13 = .ok (.iconst 1, 1) := by decide +kernel
theorem dp23_19_14 : decode prog_23_method_19_code 14 = .ok (.isub, 1) := by decide +kernel
theorem dp23_19_15 : decode prog_23_method_19_code 15 = .ok (.istore_n 1, 1) := by decide +kernel
theorem dp23_19_16 : decode prog_23_method_19_code 16 = .ok (.iload_n 1, 1) := by decide +kernel
theorem dp23_19_17 : decode prog_23_method_19_code 17 = .ok (.ifCond .lt 26, 3) := by decide +kernel
theorem dp23_19_20 : decode prog_23_method_19_code 20 = .ok (.aload_n 0, 1) := by decide +kernel
theorem dp23_19_21 : decode prog_23_method_19_code 21 = .ok (.iload_n 1, 1) := by decide +kernel
theorem dp23_19_22 : decode prog_23_method_19_code 22 = .ok (.aload_n 0, 1) := by decide +kernel
theorem dp23_19_23 : decode prog_23_method_19_code 23 = .ok (.getfield 13, 3) := by decide +kernel
theorem dp23_19_26 : decode prog_23_method_19_code 26 = .ok (.iload_n 1, 1) := by decide +kernel
theorem dp23_19_27 : decode prog_23_method_19_code 27 = .ok (.iaload, 1) := by decide +kernel
theorem dp23_19_28 : decode prog_23_method_19_code 28 = .ok (.aload_n 0, 1) := by decide +kernel
theorem dp23_19_29 : decode prog_23_method_19_code 29 = .ok (.getfield 17, 3) := by decide +kernel
theorem dp23_19_32 : decode prog_23_method_19_code 32 = .ok (.iload_n 1, 1) := by decide +kernel
theorem dp23_19_33 : decode prog_23_method_19_code 33 = .ok (.daload, 1) := by decide +kernel
theorem dp23_19_34 : decode prog_23_method_19_code 34 = .ok (.invokevirtual 79, 3) := by decide +kernel
theorem dp23_19_37 : decode prog_23_method_19_code 37 = .ok (.iinc 1 (-1), 3) := by decide +kernel
theorem dp23_19_40 : decode prog_23_method_19_code 40 = .ok (.goto (-24), 3) := by decide +kernel
theorem dp23_19_43 : decode prog_23_method_19_code 43 = .ok (.aload_n 0, 1) := by decide +kernel
theorem dp23_19_44 : decode prog_23_method_19_code 44 = .ok (.iconst 1, 1) := by decide +kernel
theorem dp23_19_45 : decode prog_23_method_19_code 45 = .ok (.putfield 7, 3) := by decide +kernel
theorem dp23_19_48 : decode prog_23_method_19_code 48 = .ok (.return_, 1) := by decide +kernel
theorem ef_O1 (m : MethodId) (x0 : Addr) : entryFrame m #[(.ref x0)] 2 = mkF m 0 #[rv x0, .unset] [] := by first | (simp [entryFrame, mkF, argsToLocals, Value.category]; done) | rfl
def QO1 (Z : State) (a aI aT aP : Addr) (kI kT kP : ClassId) (I : Int32 → Int32) (D : Int32 → UInt64) (P : Int32 → Int32) (o : Int32) (S : Int32 → Prop) (h0 : Heap) (n0 : Nat) (v : Option Value) (h : Heap) (L : List Loc) : Prop := ∃ (I1 : Int32 → Int32) (D1 : Int32 → UInt64) (P1 : Int32 → Int32) (o1 : Int32), v = none ∧ Fr n0 L ∧ Keep h0 h [a, aI, aT, aP] ∧ HR Z h a aI aT aP kI kT kP I1 D1 P1 (1 : Int32) o1 ∧ Inv (1 : Int32) S I1 P1 ∧ ¬ o1 = (0 : Int32)
set_option maxRecDepth 65536 in
set_option maxHeartbeats 40000000 in
theorem rmO1 (l : Launch) (Z : State) (a0 : Array Value) (hw : ∀ d ∈ tables_1, d.before a0 Z = true) (ws : List Jvm.Cond) (a aI aT aP : Addr) (kI kT kP : ClassId) (I : Int32 → Int32) (D : Int32 → UInt64) (P : Int32 → Int32) (o : Int32) (S : Int32 → Prop) (h0 : Heap) (n0 : Nat) (Z0 : n0 ≤ h0.size) (hB : HB n0 a aI aT aP) (hR : HR Z h0 a aI aT aP kI kT kP I D P (1 : Int32) o) (hI : Inv (1 : Int32) S I P) :
    MetFree l mN12 (head1 (Jvm.Cond.code mN12 prog_23_method_19_code 2 none :: ws) ({ frames := 0, cells := 0, slots := 0, locals := 0 } : Room)) (fun aa U => aa = #[(.ref a)] ∧ Z.Warmed39 U.vm ∧ U.heap = h0) (fun _ _ _ _ _ => True) (fun _ u1_ o_ u2_ => ∃ v_ l_, o_ = .returned v_ ∧ QO1 Z a aI aT aP kI kT kP I D P o S h0 n0 v_ u2_.heap l_ ∧ FrameEnd u1_ o_ u2_ l_ ({ frames := 0, cells := 0, slots := 0, locals := 0 } : Room).cells ({ frames := 0, cells := 0, slots := 0, locals := 0 } : Room).slots) := by
  refine MetFree.of_bodySF (plainFor_of_name pn_com_example_redoubt_redoubt_engine_IndexHeap) hisR ?_
  intro p e s m args below meth c s₁ Bd hml0 hP hK
  obtain ⟨rfl, hZ, hh⟩ := hP
  have hx := Bd.exec
  have hby := Bd.bytes
  have hlk := BodyLoose.notSynchronized Bd
  have hret := Bd.returns
  have hml : c.maxLocals = 2 := hml0
  have hown : s.vm.findClass "com/example/redoubt/redoubt/engine/IndexHeap" = some m.cls := findClass_of_methodNamed Bd.named
  have hnm := (name_of_methodNamed Bd.named Bd.method).1
  have X0 : Stand p l e ({ frames := 0, cells := 0, slots := 0, locals := 0 } : Room) s m #[(.ref a)] below meth c s₁ [] 0 0 := Stand.of_body Bd
  have e0 : s₁.heap = h0 := by rw [← hh, Bd.state]; rfl
  have N0 := Fr.nil n0
  refine Goes.st (s := s) (Q := QO1 Z a aI aT aP kI kT kP I D P o S h0 n0) (cs := ({ frames := 0, cells := 0, slots := 0, locals := 0 } : Room).cells) (ss := ({ frames := 0, cells := 0, slots := 0, locals := 0 } : Room).slots) (fun tg kg => castTop (ef_O1 m a) kg) ?_
  obtain ⟨la, lI, lT, lP, naI, naT, naP, nIT, nIP, nTP⟩ := id hB
  obtain ⟨E1, FI1, FT1, FP1, FS1, FO1, VI1, VT1, VP1⟩ := id hR
  have K0 : Keep h0 h0 [a, aI, aT, aP] := Keep.refl _ _
  show Gs p e below s _ _ _ s₁ m 0 #[rv a, .unset] []
  refine galoadN X0 hx (hb hby dp23_19_0) rfl rfl ?_
  obtain ⟨T2, X2, e2, st2⟩ := getF X0 hx hZ hown (host := "") (Or.inl (hwk hw 9 rfl)) Via.refl e0 FO1 (g := (mkF m 1 #[rv a, .unset] [(.ref a)])) rfl rfl (hb hby dp23_19_1)
  refine Goes.st st2 ?_
  show Gs p e below s _ _ _ T2 m 4 #[rv a, .unset] [(.int o)]
  by_cases c3 : o = (0 : Int32)
  · refine gifNo X2 hx (hb hby dp23_19_4) ((if0 _ _).trans (teq c3).2) ?_
    show Gs p e below s _ _ _ T2 m 7 #[rv a, .unset] []
    refine galoadN X2 hx (hb hby dp23_19_7) rfl rfl ?_
    obtain ⟨T4, X4, e4, st4⟩ := getF X2 hx hZ hown (host := "") (Or.inl (hwk hw 29 rfl)) Via.refl e2 FS1 (g := (mkF m 8 #[rv a, .unset] [(.ref a)])) rfl rfl (hb hby dp23_19_8)
    refine Goes.st st4 ?_
    refine giconst X4 hx (hb hby dp23_19_11) ?_
    show Gs p e below s _ _ _ T4 m 12 #[rv a, .unset] [(.int (2 : Int32)), (.int (1 : Int32))]
    refine Goes.st (fun tg kg => XS.idiv X4.here hx rfl (hb hby dp23_19_12) rfl (by decide) kg) ?_
    show Gs p e below s _ _ _ T4 m 13 #[rv a, .unset] [(.int ((1 : Int32) / (2 : Int32)))]
    rw [show ((1 : Int32) / (2 : Int32)) = (0 : Int32) from by decide]
    show Gs p e below s _ _ _ T4 m 13 #[rv a, .unset] [(.int (0 : Int32))]
    refine giconst X4 hx (hb hby dp23_19_13) ?_
    refine gisub X4 hx (hb hby dp23_19_14) trivial ?_
    show Gs p e below s _ _ _ T4 m 15 #[rv a, .unset] [(.int ((0 : Int32) - (1 : Int32)))]
    rw [show ((0 : Int32) - (1 : Int32)) = (-1 : Int32) from by decide]
    show Gs p e below s _ _ _ T4 m 15 #[rv a, .unset] [(.int (-1 : Int32))]
    refine gistoreN X4 hx (hb hby dp23_19_15) trivial (l' := #[rv a, iv (-1 : Int32)]) rfl ?_
    refine giloadN X4 hx (hb hby dp23_19_16) rfl ?_
    show Gs p e below s _ _ _ T4 m 17 #[rv a, iv (-1 : Int32)] [(.int (-1 : Int32))]
    refine gifYes X4 hx (pc' := 43) (hb hby dp23_19_17) (by decide) (by decide) (by decide) ?_
    show Gs p e below s _ _ _ T4 m 43 #[rv a, iv (-1 : Int32)] []
    refine galoadN X4 hx (hb hby dp23_19_43) rfl rfl ?_
    refine giconst X4 hx (hb hby dp23_19_44) ?_
    obtain ⟨T5, h5, X5, e5, W5, st5⟩ := putFN X4 hx hZ hown (hwk hw 9 rfl) Via.refl e4 FO1 E1 (Or.inl (hwk hw 10 rfl)) (hwk hw 1 rfl) (ty := .boolean) (v' := (.int (1 : Int32))) (by decide) rfl (by decide) (g := (mkF m 45 #[rv a, iv (-1 : Int32)] [(.int (1 : Int32)), (.ref a)])) rfl rfl (hb hby dp23_19_45)
    have N5 := Fr.snoc X5 N0 la
    have G5 := FO1.same W5
    refine Goes.st st5 ?_
    have KK6 := K0.wr W5 (Or.inl (List.mem_of_getElem? (i := 0) rfl))
    have Z5 : n0 ≤ h5.size := by have := W5.size; have := Z0; omega
    show Gs p e below s _ _ _ T5 m 48 #[rv a, iv (-1 : Int32)] []
    have f7 := (E1.wr W5)
    have f8 := (FI1.other W5 (Or.inr (slot_ne (Or.inr (hwk hw 13 rfl)) (Or.inl (hwk hw 10 rfl)) (by decide) (t := (.array .int)) (t' := .boolean) (by decide) (by decide))))
    have f9 := (FT1.other W5 (Or.inr (slot_ne (Or.inr (hwk hw 16 rfl)) (Or.inl (hwk hw 10 rfl)) (by decide) (t := (.array .double)) (t' := .boolean) (by decide) (by decide))))
    have f10 := (FP1.other W5 (Or.inr (slot_ne (Or.inr (hwk hw 18 rfl)) (Or.inl (hwk hw 10 rfl)) (by decide) (t := (.array .int)) (t' := .boolean) (by decide) (by decide))))
    have f11 := (FS1.other W5 (Or.inr (slot_ne (Or.inl (hwk hw 30 rfl)) (Or.inl (hwk hw 10 rfl)) (by decide) (t := .int) (t' := .boolean) (by decide) (by decide))))
    have f12 := (VI1.other W5 (Ne.symm naI))
    have f13 := (VT1.other W5 (Ne.symm naT))
    have f14 := (VP1.other W5 (Ne.symm naP))
    have HR15 : HR Z h5 a aI aT aP kI kT kP I D P (1 : Int32) (1 : Int32) := ⟨f7, f8, f9, f10, f11, G5, f12, f13, f14⟩
    refine Goes.retV X5 hx hlk hret (hb hby dp23_19_48) ?_ (by decide) (by decide)
    rw [e5]
    exact ⟨I, D, P, (1 : Int32), rfl, N5, KK6, HR15, hI, (by decide)⟩
  · refine gifYes X2 hx (pc' := 48) (hb hby dp23_19_4) ((if0 _ _).trans (feq c3).2) (by decide) (by decide) ?_
    show Gs p e below s _ _ _ T2 m 48 #[rv a, .unset] []
    have HR16 : HR Z h0 a aI aT aP kI kT kP I D P (1 : Int32) o := ⟨E1, FI1, FT1, FP1, FS1, FO1, VI1, VT1, VP1⟩
    refine Goes.retV X2 hx hlk hret (hb hby dp23_19_48) ?_ (by decide) (by decide)
    rw [e2]
    exact ⟨I, D, P, o, rfl, N0, K0, HR16, hI, c3⟩
theorem dp23_8_0 : decode prog_23_method_8_code 0 = .ok (.aload_n 0, 1) := by decide +kernel
theorem dp23_8_1 : decode prog_23_method_8_code 1 = .ok (.getfield 30, 3) := by decide +kernel
theorem dp23_8_4 : decode prog_23_method_8_code 4 = .ok (.ifCond .ne 13, 3) := by decide +kernel
theorem dp23_8_7 : decode prog_23_method_8_code 7 = .ok (.new 42, 3) := by decide +kernel
theorem dp23_8_10 : decode prog_23_method_8_code 10 = .ok (.dup, 1) := by decide +kernel
theorem dp23_8_11 : decode prog_23_method_8_code 11 = .ok (.ldc 44, 2) := by decide +kernel
theorem dp23_8_13 : decode prog_23_method_8_code 13 = .ok (.invokespecial 46, 3) := by decide +kernel
theorem dp23_8_16 : decode prog_23_method_8_code 16 = .ok (.athrow, 1) := by decide +kernel
theorem dp23_8_17 : decode prog_23_method_8_code 17 = .ok (.aload_n 0, 1) := by decide +kernel
theorem dp23_8_18 : decode prog_23_method_8_code 18 = .ok (.invokevirtual 49, 3) := by decide +kernel
theorem dp23_8_21 : decode prog_23_method_8_code 21 = .ok (.aload_n 0, 1) := by decide +kernel
theorem dp23_8_22 : decode prog_23_method_8_code 22 = .ok (.getfield 13, 3) := by decide +kernel
theorem dp23_8_25 : decode prog_23_method_8_code 25 = .ok (.iconst 0, 1) := by decide +kernel
theorem dp23_8_26 : decode prog_23_method_8_code 26 = .ok (.iaload, 1) := by decide +kernel
theorem dp23_8_27 : decode prog_23_method_8_code 27 = .ok (.ireturn, 1) := by decide +kernel
theorem pd___V_566 : parseMethodDescriptor "()V" = some ⟨[], none⟩ := by decide +kernel
theorem ef_F1 (m : MethodId) (x0 : Addr) : entryFrame m #[(.ref x0)] 1 = mkF m 0 #[rv x0] [] := by first | (simp [entryFrame, mkF, argsToLocals, Value.category]; done) | rfl
def QF1 (Z : State) (a aI aT aP : Addr) (kI kT kP : ClassId) (I : Int32 → Int32) (D : Int32 → UInt64) (P : Int32 → Int32) (o : Int32) (S : Int32 → Prop) (h0 : Heap) (n0 : Nat) (v : Option Value) (h : Heap) (L : List Loc) : Prop := ∃ (I1 : Int32 → Int32) (D1 : Int32 → UInt64) (P1 : Int32 → Int32) (o1 x1 : Int32), v = some (.int x1) ∧ Fr n0 L ∧ Keep h0 h [a, aI, aT, aP] ∧ HR Z h a aI aT aP kI kT kP I1 D1 P1 (1 : Int32) o1 ∧ Inv (1 : Int32) S I1 P1 ∧ ¬ o1 = (0 : Int32)
set_option maxRecDepth 65536 in
set_option maxHeartbeats 40000000 in
theorem rmF1 (l : Launch) (Z : State) (a0 : Array Value) (hw : ∀ d ∈ tables_1, d.before a0 Z = true) (ws : List Jvm.Cond) (a aI aT aP : Addr) (kI kT kP : ClassId) (I : Int32 → Int32) (D : Int32 → UInt64) (P : Int32 → Int32) (o : Int32) (S : Int32 → Prop) (h0 : Heap) (n0 : Nat) (Z0 : n0 ≤ h0.size) (hB : HB n0 a aI aT aP) (hR : HR Z h0 a aI aT aP kI kT kP I D P (1 : Int32) o) (hI : Inv (1 : Int32) S I P) :
    MetFree l mN13 (head1 (Jvm.Cond.code mN13 prog_23_method_8_code 1 (some .int) :: ws) ({ frames := 1, cells := 0, slots := 0, locals := 13 } : Room)) (fun aa U => aa = #[(.ref a)] ∧ Z.Warmed39 U.vm ∧ U.heap = h0) (fun _ _ _ _ _ => True) (fun _ u1_ o_ u2_ => ∃ v_ l_, o_ = .returned v_ ∧ QF1 Z a aI aT aP kI kT kP I D P o S h0 n0 v_ u2_.heap l_ ∧ FrameEnd u1_ o_ u2_ l_ ({ frames := 1, cells := 0, slots := 0, locals := 13 } : Room).cells ({ frames := 1, cells := 0, slots := 0, locals := 13 } : Room).slots) := by
  refine MetFree.of_bodySF (plainFor_of_name pn_com_example_redoubt_redoubt_engine_IndexHeap) hisR ?_
  intro p e s m args below meth c s₁ Bd hml0 hP hK
  obtain ⟨rfl, hZ, hh⟩ := hP
  have hx := Bd.exec
  have hby := Bd.bytes
  have hlk := BodyLoose.notSynchronized Bd
  have hret := Bd.returns
  have hml : c.maxLocals = 1 := hml0
  have hown : s.vm.findClass "com/example/redoubt/redoubt/engine/IndexHeap" = some m.cls := findClass_of_methodNamed Bd.named
  have hnm := (name_of_methodNamed Bd.named Bd.method).1
  have X0 : Stand p l e ({ frames := 1, cells := 0, slots := 0, locals := 13 } : Room) s m #[(.ref a)] below meth c s₁ [] 0 0 := Stand.of_body Bd
  have e0 : s₁.heap = h0 := by rw [← hh, Bd.state]; rfl
  have N0 := Fr.nil n0
  refine Goes.st (s := s) (Q := QF1 Z a aI aT aP kI kT kP I D P o S h0 n0) (cs := ({ frames := 1, cells := 0, slots := 0, locals := 13 } : Room).cells) (ss := ({ frames := 1, cells := 0, slots := 0, locals := 13 } : Room).slots) (fun tg kg => castTop (ef_F1 m a) kg) ?_
  obtain ⟨la, lI, lT, lP, naI, naT, naP, nIT, nIP, nTP⟩ := id hB
  obtain ⟨E1, FI1, FT1, FP1, FS1, FO1, VI1, VT1, VP1⟩ := id hR
  have K0 : Keep h0 h0 [a, aI, aT, aP] := Keep.refl _ _
  show Gs p e below s _ _ _ s₁ m 0 #[rv a] []
  refine galoadN X0 hx (hb hby dp23_8_0) rfl rfl ?_
  obtain ⟨T2, X2, e2, st2⟩ := getF X0 hx hZ hown (host := "") (Or.inl (hwk hw 29 rfl)) Via.refl e0 FS1 (g := (mkF m 1 #[rv a] [(.ref a)])) rfl rfl (hb hby dp23_8_1)
  refine Goes.st st2 ?_
  show Gs p e below s _ _ _ T2 m 4 #[rv a] [(.int (1 : Int32))]
  refine gifYes X2 hx (pc' := 17) (hb hby dp23_8_4) (by decide) (by decide) (by decide) ?_
  show Gs p e below s _ _ _ T2 m 17 #[rv a] []
  refine galoadN X2 hx (hb hby dp23_8_17) rfl rfl ?_
  have HR3 : HR Z h0 a aI aT aP kI kT kP I D P (1 : Int32) o := ⟨E1, FI1, FT1, FP1, FS1, FO1, VI1, VT1, VP1⟩
  obtain ⟨cc4, qa4, qb4⟩ := Exa.cell E1
  obtain ⟨_, _, ⟨T4, L4, k4, n4⟩, -, X4, ⟨Lc4, hQ4, l4, y4, z4⟩, st4⟩ := X2.privateBack hx (y := mN12) hown (mvT hZ (hwk hw 92 rfl)) (mvT hZ (hwk hw 93 rfl)) (selP (y := mN12) (as := #[]) (mvT hZ (hwk hw 1 rfl)) (mvP hZ (hwk hw 94 rfl)) (mvT hZ (hwk hw 93 rfl)) (by decide)) (Cond.privateMethod_at (mvP hZ (hwk hw 94 rfl) (args := #[]))) (mvT hZ (hwk hw 95 rfl)) (by decide) (backOf (W := 0) (rmO1 l Z a0 hw [] a aI aT aP kI kT kP I D P o S h0 n0 Z0 hB HR3 hI) hZ (hwk hw 95 rfl) (hwk hw 2 rfl) (by decide) (by decide)) (g := (mkF m 18 #[rv a] [(.ref a)])) rfl (by rw [hml]; rfl) (Steps.refl _) (a := a) (by rw [e2]; exact qa4) qb4 (argsL := []) (rest := []) (lenOf pd___V_566 rfl) rfl (by show 2 * 0 + _ ≤ _; exact Nat.le_of_eq rfl) (hb hby dp23_8_18) (fun _ _ => ⟨rfl, e2, (by decide : 0 + 0 ≤ 0), (by decide : 0 + 0 ≤ 0)⟩)
  dsimp only [Pt.U, Pt.locs, Pt.cells, Pt.slots] at X4 l4 y4 z4 st4 hQ4
  subst l4 y4 z4
  obtain ⟨I4, D4, P4, o4, rfl, N4q, K4, HQ4, inv4, ho4⟩ := hQ4
  have KK5 := K0.trans K4 (allS (Or.inl (List.mem_of_getElem? (i := 0) rfl)) (allS (Or.inl (List.mem_of_getElem? (i := 1) rfl)) (allS (Or.inl (List.mem_of_getElem? (i := 2) rfl)) (allS (Or.inl (List.mem_of_getElem? (i := 3) rfl)) all0))))
  have Z4 : n0 ≤ T4.heap.size := Nat.le_trans Z0 K4.1
  obtain ⟨E6, FI6, FT6, FP6, FS6, FO6, VI6, VT6, VP6⟩ := id HQ4
  have N4 := Fr.app N0 N4q
  refine Goes.sts st4 ?_
  show Gs p e below s _ _ _ T4 m 21 #[rv a] []
  refine galoadN X4 hx (hb hby dp23_8_21) rfl rfl ?_
  obtain ⟨T7, X7, e7, st7⟩ := getF X4 hx hZ hown (host := "") (Or.inl (hwk hw 12 rfl)) Via.refl rfl FI6 (g := (mkF m 22 #[rv a] [(.ref a)])) rfl rfl (hb hby dp23_8_22)
  refine Goes.st st7 ?_
  refine giconst X7 hx (hb hby dp23_8_25) ?_
  show Gs p e below s _ _ _ T7 m 26 #[rv a] [(.int (0 : Int32)), (.ref aI)]
  obtain ⟨cl8, Ar8, qk8, Sz8, qz8, Ha8, Gf8⟩ := id VI6
  have in8 := inb_of (j := (0 : Int32)) Sz8 ⟨by decide, by decide⟩
  refine Goes.st (fun tg kg => X7.iaload hx (j := (0 : Int32)) (v := (.int (I4 (0 : Int32)))) (by rw [e7]; exact Ar8.1) (State.isArrayOf_alike hZ.alike Ar8.2.1) Ar8.2.2 in8 (Ha8.at in8 (get_lst i4_0)) (g := (mkF m 26 #[rv a] [(.int (0 : Int32)), (.ref aI)])) rfl rfl (hb hby dp23_8_26) tg kg) ?_
  show Gs p e below s _ _ _ T7 m 27 #[rv a] [(.int (I4 (0 : Int32)))]
  have HR9 : HR Z T4.heap a aI aT aP kI kT kP I4 D4 P4 (1 : Int32) o4 := ⟨E6, FI6, FT6, FP6, FS6, FO6, VI6, VT6, VP6⟩
  refine Goes.retI X7 hx hlk hret (hb hby dp23_8_27) ?_ (by decide) (by decide)
  rw [e7]
  exact ⟨I4, D4, P4, o4, (I4 (0 : Int32)), rfl, N4, KK5, HR9, inv4, ho4⟩
theorem dp23_21_0 : decode prog_23_method_21_code 0 = .ok (.aload_n 0, 1) := by decide +kernel
theorem dp23_21_1 : decode prog_23_method_21_code 1 = .ok (.getfield 21, 3) := by decide +kernel
theorem dp23_21_4 : decode prog_23_method_21_code 4 = .ok (.aload_n 0, 1) := by decide +kernel
theorem dp23_21_5 : decode prog_23_method_21_code 5 = .ok (.getfield 13, 3) := by decide +kernel
theorem dp23_21_8 : decode prog_23_method_21_code 8 = .ok (.iload_n 1, 1) := by decide +kernel
theorem dp23_21_9 : decode prog_23_method_21_code 9 = .ok (.iaload, 1) := by decide +kernel
theorem dp23_21_10 : decode prog_23_method_21_code 10 = .ok (.iconst (-1), 1) := by decide +kernel
theorem dp23_21_11 : decode prog_23_method_21_code 11 = .ok (.iastore, 1) := by decide +kernel
theorem dp23_21_12 : decode prog_23_method_21_code 12 = .ok (.aload_n 0, 1) := by decide +kernel
theorem dp23_21_13 : decode prog_23_method_21_code 13 = .ok (.dup, 1) := by decide +kernel
theorem dp23_21_14 : decode prog_23_method_21_code 14 = .ok (.getfield 30, 3) := by decide +kernel
theorem dp23_21_17 : decode prog_23_method_21_code 17 = .ok (.iconst 1, 1) := by decide +kernel
theorem dp23_21_18 : decode prog_23_method_21_code 18 = .ok (.isub, 1) := by decide +kernel
theorem dp23_21_19 : decode prog_23_method_21_code 19 = .ok (.putfield 30, 3) := by decide +kernel
theorem dp23_21_22 : decode prog_23_method_21_code 22 = .ok (.iload_n 1, 1) := by decide +kernel
theorem dp23_21_23 : decode prog_23_method_21_code 23 = .ok (.aload_n 0, 1) := by decide +kernel
theorem dp23_21_24 : decode prog_23_method_21_code 24 = .ok (.getfield 30, 3) := by decide +kernel
theorem dp23_21_27 : decode prog_23_method_21_code 27 = .ok (.if_icmp .ge 64, 3) := by decide +kernel
theorem dp23_21_30 : decode prog_23_method_21_code 30 = .ok (.aload_n 0, 1) := by decide +kernel
theorem dp23_21_31 : decode prog_23_method_21_code 31 = .ok (.getfield 13, 3) := by decide +kernel
theorem dp23_21_34 : decode prog_23_method_21_code 34 = .ok (.aload_n 0, 1) := by decide +kernel
theorem dp23_21_35 : decode prog_23_method_21_code 35 = .ok (.getfield 30, 3) := by decide +kernel
theorem dp23_21_38 : decode prog_23_method_21_code 38 = .ok (.iaload, 1) := by decide +kernel
theorem dp23_21_39 : decode prog_23_method_21_code 39 = .ok (.istore_n 2, 1) := by decide +kernel
theorem dp23_21_40 : decode prog_23_method_21_code 40 = .ok (.aload_n 0, 1) := by decide +kernel
theorem dp23_21_41 : decode prog_23_method_21_code 41 = .ok (.getfield 17, 3) := by decide +kernel
theorem dp23_21_44 : decode prog_23_method_21_code 44 = .ok (.aload_n 0, 1) := by decide +kernel
theorem dp23_21_45 : decode prog_23_method_21_code 45 = .ok (.getfield 30, 3) := by decide +kernel
theorem dp23_21_48 : decode prog_23_method_21_code 48 = .ok (.daload, 1) := by decide +kernel
theorem dp23_21_49 : decode prog_23_method_21_code 49 = .ok (.dstore_n 3, 1) := by decide +kernel
theorem dp23_21_50 : decode prog_23_method_21_code 50 = .ok (.aload_n 0, 1) := by decide +kernel
theorem dp23_21_51 : decode prog_23_method_21_code 51 = .ok (.getfield 7, 3) := by decide +kernel
theorem dp23_21_54 : decode prog_23_method_21_code 54 = .ok (.ifCond .eq 30, 3) := by decide +kernel
theorem dp23_21_57 : decode prog_23_method_21_code 57 = .ok (.aload_n 0, 1) := by decide +kernel
theorem dp23_21_58 : decode prog_23_method_21_code 58 = .ok (.iload_n 1, 1) := by decide +kernel
theorem dp23_21_59 : decode prog_23_method_21_code 59 = .ok (.iload_n 2, 1) := by decide +kernel
theorem dp23_21_60 : decode prog_23_method_21_code 60 = .ok (.dload_n 3, 1) := by decide +kernel
theorem dp23_21_61 : decode prog_23_method_21_code 61 = .ok (.invokevirtual 79, 3) := by decide +kernel
theorem dp23_21_64 : decode prog_23_method_21_code 64 = .ok (.aload_n 0, 1) := by decide +kernel
theorem dp23_21_65 : decode prog_23_method_21_code 65 = .ok (.getfield 13, 3) := by decide +kernel
theorem dp23_21_68 : decode prog_23_method_21_code 68 = .ok (.iload_n 1, 1) := by decide +kernel
theorem dp23_21_69 : decode prog_23_method_21_code 69 = .ok (.iaload, 1) := by decide +kernel
theorem dp23_21_70 : decode prog_23_method_21_code 70 = .ok (.iload_n 2, 1) := by decide +kernel
theorem dp23_21_71 : decode prog_23_method_21_code 71 = .ok (.if_icmp .ne 20, 3) := by decide +kernel
theorem dp23_21_74 : decode prog_23_method_21_code 74 = .ok (.aload_n 0, 1) := by decide +kernel
theorem dp23_21_75 : decode prog_23_method_21_code 75 = .ok (.iload_n 1, 1) := by decide +kernel
theorem dp23_21_76 : decode prog_23_method_21_code 76 = .ok (.iload_n 2, 1) := by decide +kernel
theorem dp23_21_77 : decode prog_23_method_21_code 77 = .ok (.dload_n 3, 1) := by decide +kernel
theorem dp23_21_78 : decode prog_23_method_21_code 78 = .ok (.invokevirtual 60, 3) := by decide +kernel
theorem dp23_21_81 : decode prog_23_method_21_code 81 = .ok (.goto 10, 3) := by decide +kernel
theorem dp23_21_84 : decode prog_23_method_21_code 84 = .ok (.aload_n 0, 1) := by decide +kernel
theorem dp23_21_85 : decode prog_23_method_21_code 85 = .ok (.iload_n 1, 1) := by decide +kernel
theorem dp23_21_86 : decode prog_23_method_21_code 86 = .ok (.iload_n 2, 1) := by decide +kernel
theorem dp23_21_87 : decode prog_23_method_21_code 87 = .ok (.dload_n 3, 1) := by decide +kernel
theorem dp23_21_88 : decode prog_23_method_21_code 88 = .ok (.invokevirtual 64, 3) := by decide +kernel
theorem dp23_21_91 : decode prog_23_method_21_code 91 = .ok (.return_, 1) := by decide +kernel
theorem ef_R1 (m : MethodId) (x0 : Addr) (x1 : Int32) : entryFrame m #[(.ref x0), (.int x1)] 5 = mkF m 0 #[rv x0, iv x1, .unset, .unset, .unset] [] := by first | (simp [entryFrame, mkF, argsToLocals, Value.category]; done) | rfl
def QR1 (Z : State) (a aI aT aP : Addr) (kI kT kP : ClassId) (I : Int32 → Int32) (D : Int32 → UInt64) (P : Int32 → Int32) (o : Int32) (S : Int32 → Prop) (h0 : Heap) (n0 : Nat) (v : Option Value) (h : Heap) (L : List Loc) : Prop := ∃ (I1 : Int32 → Int32) (D1 : Int32 → UInt64) (P1 : Int32 → Int32), v = none ∧ Fr n0 L ∧ Keep h0 h [a, aI, aT, aP] ∧ HR Z h a aI aT aP kI kT kP I1 D1 P1 (0 : Int32) o ∧ Inv (0 : Int32) S I1 P1
set_option maxRecDepth 65536 in
set_option maxHeartbeats 40000000 in
theorem rmR1 (l : Launch) (Z : State) (a0 : Array Value) (hw : ∀ d ∈ tables_1, d.before a0 Z = true) (ws : List Jvm.Cond) (a aI aT aP : Addr) (kI kT kP : ClassId) (I : Int32 → Int32) (D : Int32 → UInt64) (P : Int32 → Int32) (o : Int32) (S : Int32 → Prop) (h0 : Heap) (n0 : Nat) (Z0 : n0 ≤ h0.size) (hB : HB n0 a aI aT aP) (hR : HR Z h0 a aI aT aP kI kT kP I D P (1 : Int32) o) (hI : Inv (1 : Int32) S I P) (ho : ¬ o = (0 : Int32)) :
    MetFree l mN14 (head1 (Jvm.Cond.code mN14 prog_23_method_21_code 5 none :: ws) ({ frames := 0, cells := 0, slots := 0, locals := 0 } : Room)) (fun aa U => aa = #[(.ref a), (.int (0 : Int32))] ∧ Z.Warmed39 U.vm ∧ U.heap = h0) (fun _ _ _ _ _ => True) (fun _ u1_ o_ u2_ => ∃ v_ l_, o_ = .returned v_ ∧ QR1 Z a aI aT aP kI kT kP I D P o S h0 n0 v_ u2_.heap l_ ∧ FrameEnd u1_ o_ u2_ l_ ({ frames := 0, cells := 0, slots := 0, locals := 0 } : Room).cells ({ frames := 0, cells := 0, slots := 0, locals := 0 } : Room).slots) := by
  refine MetFree.of_bodySF (plainFor_of_name pn_com_example_redoubt_redoubt_engine_IndexHeap) hisR ?_
  intro p e s m args below meth c s₁ Bd hml0 hP hK
  obtain ⟨rfl, hZ, hh⟩ := hP
  have hx := Bd.exec
  have hby := Bd.bytes
  have hlk := BodyLoose.notSynchronized Bd
  have hret := Bd.returns
  have hml : c.maxLocals = 5 := hml0
  have hown : s.vm.findClass "com/example/redoubt/redoubt/engine/IndexHeap" = some m.cls := findClass_of_methodNamed Bd.named
  have hnm := (name_of_methodNamed Bd.named Bd.method).1
  have X0 : Stand p l e ({ frames := 0, cells := 0, slots := 0, locals := 0 } : Room) s m #[(.ref a), (.int (0 : Int32))] below meth c s₁ [] 0 0 := Stand.of_body Bd
  have e0 : s₁.heap = h0 := by rw [← hh, Bd.state]; rfl
  have N0 := Fr.nil n0
  refine Goes.st (s := s) (Q := QR1 Z a aI aT aP kI kT kP I D P o S h0 n0) (cs := ({ frames := 0, cells := 0, slots := 0, locals := 0 } : Room).cells) (ss := ({ frames := 0, cells := 0, slots := 0, locals := 0 } : Room).slots) (fun tg kg => castTop (ef_R1 m a (0 : Int32)) kg) ?_
  obtain ⟨la, lI, lT, lP, naI, naT, naP, nIT, nIP, nTP⟩ := id hB
  obtain ⟨E1, FI1, FT1, FP1, FS1, FO1, VI1, VT1, VP1⟩ := id hR
  have K0 : Keep h0 h0 [a, aI, aT, aP] := Keep.refl _ _
  show Gs p e below s _ _ _ s₁ m 0 #[rv a, iv (0 : Int32), .unset, .unset, .unset] []
  refine galoadN X0 hx (hb hby dp23_21_0) rfl rfl ?_
  obtain ⟨T2, X2, e2, st2⟩ := getF X0 hx hZ hown (host := "") (Or.inl (hwk hw 17 rfl)) Via.refl e0 FP1 (g := (mkF m 1 #[rv a, iv (0 : Int32), .unset, .unset, .unset] [(.ref a)])) rfl rfl (hb hby dp23_21_1)
  refine Goes.st st2 ?_
  refine galoadN X2 hx (hb hby dp23_21_4) rfl rfl ?_
  obtain ⟨T3, X3, e3, st3⟩ := getF X2 hx hZ hown (host := "") (Or.inl (hwk hw 12 rfl)) Via.refl e2 FI1 (g := (mkF m 5 #[rv a, iv (0 : Int32), .unset, .unset, .unset] [(.ref a), (.ref aP)])) rfl rfl (hb hby dp23_21_5)
  refine Goes.st st3 ?_
  refine giloadN X3 hx (hb hby dp23_21_8) rfl ?_
  show Gs p e below s _ _ _ T3 m 9 #[rv a, iv (0 : Int32), .unset, .unset, .unset] [(.int (0 : Int32)), (.ref aI), (.ref aP)]
  obtain ⟨cl4, Ar4, qk4, Sz4, qz4, Ha4, Gf4⟩ := id VI1
  have in4 := inb_of (j := (0 : Int32)) Sz4 ⟨by decide, by decide⟩
  refine Goes.st (fun tg kg => X3.iaload hx (j := (0 : Int32)) (v := (.int (I (0 : Int32)))) (by rw [e3]; exact Ar4.1) (State.isArrayOf_alike hZ.alike Ar4.2.1) Ar4.2.2 in4 (Ha4.at in4 (get_lst i4_0)) (g := (mkF m 9 #[rv a, iv (0 : Int32), .unset, .unset, .unset] [(.int (0 : Int32)), (.ref aI), (.ref aP)])) rfl rfl (hb hby dp23_21_9) tg kg) ?_
  refine giconst X3 hx (hb hby dp23_21_10) ?_
  show Gs p e below s _ _ _ T3 m 11 #[rv a, iv (0 : Int32), .unset, .unset, .unset] [(.int (-1 : Int32)), (.int (I (0 : Int32))), (.ref aP)]
  obtain ⟨cl5, Ar5, qk5, Sz5, qz5, Ha5, Gf5⟩ := id VP1
  obtain ⟨T5, h5, X5, e5, W5, st5⟩ := stI X3 hx hZ e3 Ar5 (inb_of Sz5 (own_in (hI.1 _ i4_0))) (g := (mkF m 11 #[rv a, iv (0 : Int32), .unset, .unset, .unset] [(.int (-1 : Int32)), (.int (I (0 : Int32))), (.ref aP)])) rfl rfl (hb hby dp23_21_11)
  have N5 := Fr.snoc X5 N0 lP
  have V5 : Arv Z h5 aP kP .int (4 : Int32) (lst (upd P (I (0 : Int32)) (-1 : Int32))) (.int (0 : Int32)) := setI Ar5 qk5 Sz5 qz5 Ha5 Gf5 W5 (hI.1 _ i4_0)
  refine Goes.st st5 ?_
  have KK6 := K0.wr W5 (Or.inl (List.mem_of_getElem? (i := 3) rfl))
  have Z5 : n0 ≤ h5.size := by have := W5.size; have := Z0; omega
  show Gs p e below s _ _ _ T5 m 12 #[rv a, iv (0 : Int32), .unset, .unset, .unset] []
  refine galoadN X5 hx (hb hby dp23_21_12) rfl rfl ?_
  refine gdup X5 hx (hb hby dp23_21_13) trivial rfl ?_
  have f8 := (FS1.other W5 (Or.inl naP))
  obtain ⟨T7, X7, e7, st7⟩ := getF X5 hx hZ hown (host := "") (Or.inl (hwk hw 29 rfl)) Via.refl e5 f8 (g := (mkF m 14 #[rv a, iv (0 : Int32), .unset, .unset, .unset] [(.ref a), (.ref a)])) rfl rfl (hb hby dp23_21_14)
  refine Goes.st st7 ?_
  refine giconst X7 hx (hb hby dp23_21_17) ?_
  refine gisub X7 hx (hb hby dp23_21_18) trivial ?_
  show Gs p e below s _ _ _ T7 m 19 #[rv a, iv (0 : Int32), .unset, .unset, .unset] [(.int ((1 : Int32) - (1 : Int32))), (.ref a)]
  rw [show ((1 : Int32) - (1 : Int32)) = (0 : Int32) from by decide]
  show Gs p e below s _ _ _ T7 m 19 #[rv a, iv (0 : Int32), .unset, .unset, .unset] [(.int (0 : Int32)), (.ref a)]
  have f10 := (E1.wr W5)
  obtain ⟨T9, h9, X9, e9, W9, st9⟩ := putF X7 hx hZ hown (host := "") (Or.inl (hwk hw 29 rfl)) Via.refl e7 f8 f10 (Or.inl (hwk hw 30 rfl)) (hwk hw 1 rfl) (ty := .int) (by decide) rfl rfl (g := (mkF m 19 #[rv a, iv (0 : Int32), .unset, .unset, .unset] [(.int (0 : Int32)), (.ref a)])) rfl rfl (hb hby dp23_21_19)
  have N9 := Fr.snoc X9 N5 la
  have G9 := f8.same W9
  refine Goes.st st9 ?_
  have KK11 := KK6.wr W9 (Or.inl (List.mem_of_getElem? (i := 0) rfl))
  have Z9 : n0 ≤ h9.size := by have := W9.size; have := Z5; omega
  show Gs p e below s _ _ _ T9 m 22 #[rv a, iv (0 : Int32), .unset, .unset, .unset] []
  refine giloadN X9 hx (hb hby dp23_21_22) rfl ?_
  refine galoadN X9 hx (hb hby dp23_21_23) rfl rfl ?_
  obtain ⟨T12, X12, e12, st12⟩ := getF X9 hx hZ hown (host := "") (Or.inl (hwk hw 29 rfl)) Via.refl e9 G9 (g := (mkF m 24 #[rv a, iv (0 : Int32), .unset, .unset, .unset] [(.ref a), (.int (0 : Int32))])) rfl rfl (hb hby dp23_21_24)
  refine Goes.st st12 ?_
  show Gs p e below s _ _ _ T12 m 27 #[rv a, iv (0 : Int32), .unset, .unset, .unset] [(.int (0 : Int32)), (.int (0 : Int32))]
  refine gicmpYes X12 hx (pc' := 91) (hb hby dp23_21_27) (by decide) (by decide) (by decide) ?_
  show Gs p e below s _ _ _ T12 m 91 #[rv a, iv (0 : Int32), .unset, .unset, .unset] []
  have f13 := (f10.wr W9)
  have f14 := ((FI1.other W5 (Or.inl naP)).other W9 (Or.inr (slot_ne (Or.inr (hwk hw 13 rfl)) (Or.inl (hwk hw 30 rfl)) (by decide) (t := (.array .int)) (t' := .int) (by decide) (by decide))))
  have f15 := ((FT1.other W5 (Or.inl naP)).other W9 (Or.inr (slot_ne (Or.inr (hwk hw 16 rfl)) (Or.inl (hwk hw 30 rfl)) (by decide) (t := (.array .double)) (t' := .int) (by decide) (by decide))))
  have f16 := ((FP1.other W5 (Or.inl naP)).other W9 (Or.inr (slot_ne (Or.inr (hwk hw 18 rfl)) (Or.inl (hwk hw 30 rfl)) (by decide) (t := (.array .int)) (t' := .int) (by decide) (by decide))))
  have f17 := ((FO1.other W5 (Or.inl naP)).other W9 (Or.inr (slot_ne (Or.inl (hwk hw 10 rfl)) (Or.inl (hwk hw 30 rfl)) (by decide) (t := .boolean) (t' := .int) (by decide) (by decide))))
  have f18 := ((VI1.other W5 nIP).other W9 (Ne.symm naI))
  have f19 := ((VT1.other W5 nTP).other W9 (Ne.symm naT))
  have f20 := (V5.other W9 (Ne.symm naP))
  have HR21 : HR Z h9 a aI aT aP kI kT kP I D (upd P (I (0 : Int32)) (-1 : Int32)) (0 : Int32) o := ⟨f13, f14, f15, f16, G9, f17, f18, f19, f20⟩
  refine Goes.retV X12 hx hlk hret (hb hby dp23_21_91) ?_ (by decide) (by decide)
  rw [e12]
  exact ⟨I, D, (upd P (I (0 : Int32)) (-1 : Int32)), rfl, N9, KK11, HR21, (inv_last hI)⟩
theorem dp23_13_0 : decode prog_23_method_13_code 0 = .ok (.aload_n 0, 1) := by decide +kernel
theorem dp23_13_1 : decode prog_23_method_13_code 1 = .ok (.invokevirtual 67, 3) := by decide +kernel
theorem dp23_13_4 : decode prog_23_method_13_code 4 = .ok (.istore_n 1, 1) := by decide +kernel
theorem dp23_13_5 : decode prog_23_method_13_code 5 = .ok (.aload_n 0, 1) := by decide +kernel
theorem dp23_13_6 : decode prog_23_method_13_code 6 = .ok (.iconst 0, 1) := by decide +kernel
theorem dp23_13_7 : decode prog_23_method_13_code 7 = .ok (.invokevirtual 71, 3) := by decide +kernel
theorem dp23_13_10 : decode prog_23_method_13_code 10 = .ok (.iload_n 1, 1) := by decide +kernel
theorem dp23_13_11 : decode prog_23_method_13_code 11 = .ok (.ireturn, 1) := by decide +kernel
theorem pd___I_4f1 : parseMethodDescriptor "()I" = some ⟨[], some .int⟩ := by decide +kernel
theorem pd__I_V_82d : parseMethodDescriptor "(I)V" = some ⟨[.int], none⟩ := by decide +kernel
theorem ef_P1 (m : MethodId) (x0 : Addr) : entryFrame m #[(.ref x0)] 2 = mkF m 0 #[rv x0, .unset] [] := by first | (simp [entryFrame, mkF, argsToLocals, Value.category]; done) | rfl
def QP1 (Z : State) (a aI aT aP : Addr) (kI kT kP : ClassId) (I : Int32 → Int32) (D : Int32 → UInt64) (P : Int32 → Int32) (o : Int32) (S : Int32 → Prop) (h0 : Heap) (n0 : Nat) (v : Option Value) (h : Heap) (L : List Loc) : Prop := ∃ (I1 : Int32 → Int32) (D1 : Int32 → UInt64) (P1 : Int32 → Int32) (o1 x1 : Int32), v = some (.int x1) ∧ Fr n0 L ∧ Keep h0 h [a, aI, aT, aP] ∧ HR Z h a aI aT aP kI kT kP I1 D1 P1 (0 : Int32) o1 ∧ Inv (0 : Int32) S I1 P1
set_option maxRecDepth 65536 in
set_option maxHeartbeats 40000000 in
theorem rmP1 (l : Launch) (Z : State) (a0 : Array Value) (hw : ∀ d ∈ tables_1, d.before a0 Z = true) (ws : List Jvm.Cond) (a aI aT aP : Addr) (kI kT kP : ClassId) (I : Int32 → Int32) (D : Int32 → UInt64) (P : Int32 → Int32) (o : Int32) (S : Int32 → Prop) (h0 : Heap) (n0 : Nat) (Z0 : n0 ≤ h0.size) (hB : HB n0 a aI aT aP) (hR : HR Z h0 a aI aT aP kI kT kP I D P (1 : Int32) o) (hI : Inv (1 : Int32) S I P) :
    MetFree l mN15 (head1 (Jvm.Cond.code mN15 prog_23_method_13_code 2 (some .int) :: ws) ({ frames := 2, cells := 0, slots := 0, locals := 25 } : Room)) (fun aa U => aa = #[(.ref a)] ∧ Z.Warmed39 U.vm ∧ U.heap = h0) (fun _ _ _ _ _ => True) (fun _ u1_ o_ u2_ => ∃ v_ l_, o_ = .returned v_ ∧ QP1 Z a aI aT aP kI kT kP I D P o S h0 n0 v_ u2_.heap l_ ∧ FrameEnd u1_ o_ u2_ l_ ({ frames := 2, cells := 0, slots := 0, locals := 25 } : Room).cells ({ frames := 2, cells := 0, slots := 0, locals := 25 } : Room).slots) := by
  refine MetFree.of_bodySF (plainFor_of_name pn_com_example_redoubt_redoubt_engine_IndexHeap) hisR ?_
  intro p e s m args below meth c s₁ Bd hml0 hP hK
  obtain ⟨rfl, hZ, hh⟩ := hP
  have hx := Bd.exec
  have hby := Bd.bytes
  have hlk := BodyLoose.notSynchronized Bd
  have hret := Bd.returns
  have hml : c.maxLocals = 2 := hml0
  have hown : s.vm.findClass "com/example/redoubt/redoubt/engine/IndexHeap" = some m.cls := findClass_of_methodNamed Bd.named
  have hnm := (name_of_methodNamed Bd.named Bd.method).1
  have X0 : Stand p l e ({ frames := 2, cells := 0, slots := 0, locals := 25 } : Room) s m #[(.ref a)] below meth c s₁ [] 0 0 := Stand.of_body Bd
  have e0 : s₁.heap = h0 := by rw [← hh, Bd.state]; rfl
  have N0 := Fr.nil n0
  refine Goes.st (s := s) (Q := QP1 Z a aI aT aP kI kT kP I D P o S h0 n0) (cs := ({ frames := 2, cells := 0, slots := 0, locals := 25 } : Room).cells) (ss := ({ frames := 2, cells := 0, slots := 0, locals := 25 } : Room).slots) (fun tg kg => castTop (ef_P1 m a) kg) ?_
  obtain ⟨la, lI, lT, lP, naI, naT, naP, nIT, nIP, nTP⟩ := id hB
  obtain ⟨E1, FI1, FT1, FP1, FS1, FO1, VI1, VT1, VP1⟩ := id hR
  have K0 : Keep h0 h0 [a, aI, aT, aP] := Keep.refl _ _
  show Gs p e below s _ _ _ s₁ m 0 #[rv a, .unset] []
  refine galoadN X0 hx (hb hby dp23_13_0) rfl rfl ?_
  have HR2 : HR Z h0 a aI aT aP kI kT kP I D P (1 : Int32) o := ⟨E1, FI1, FT1, FP1, FS1, FO1, VI1, VT1, VP1⟩
  obtain ⟨cq3, kq3, qa3, qb3, qc3⟩ := isOf hZ e0 E1
  obtain ⟨_, _, ⟨T3, L3, k3, n3⟩, -, X3, ⟨Lc3, hQ3, l3, y3, z3⟩, st3⟩ := X0.virtualBack hx (y := mN13) (z := mN13) hown (mvT hZ (hwk hw 87 rfl)) (mvT hZ (hwk hw 88 rfl)) (notFace_of_selects (args := #[]) (mvT hZ (hwk hw 90 rfl))) (mvT hZ (hwk hw 90 rfl)) (mvT hZ (hwk hw 89 rfl)) (by decide) (backOf (W := 0) (rmF1 l Z a0 hw [] a aI aT aP kI kT kP I D P o S h0 n0 Z0 hB HR2 hI) hZ (hwk hw 91 rfl) (hwk hw 2 rfl) (by decide) (by decide)) qa3 qc3 (g := (mkF m 1 #[rv a, .unset] [(.ref a)])) rfl (by rw [hml]; rfl) (Steps.refl _) (argsL := []) (rest := []) (lenOf pd___I_4f1 rfl) rfl (by show 2 * 0 + _ ≤ _; exact Nat.le_of_eq rfl) (hb hby dp23_13_1) (fun _ _ => ⟨rfl, e0, (by decide : 0 + 0 ≤ 0), (by decide : 0 + 0 ≤ 0)⟩)
  dsimp only [Pt.U, Pt.locs, Pt.cells, Pt.slots] at X3 l3 y3 z3 st3 hQ3
  subst l3 y3 z3
  obtain ⟨I3, D3, P3, o3, xr3, rfl, N3q, K3, HQ3, inv3, ho3⟩ := hQ3
  have KK4 := K0.trans K3 (allS (Or.inl (List.mem_of_getElem? (i := 0) rfl)) (allS (Or.inl (List.mem_of_getElem? (i := 1) rfl)) (allS (Or.inl (List.mem_of_getElem? (i := 2) rfl)) (allS (Or.inl (List.mem_of_getElem? (i := 3) rfl)) all0))))
  have Z3 : n0 ≤ T3.heap.size := Nat.le_trans Z0 K3.1
  obtain ⟨E5, FI5, FT5, FP5, FS5, FO5, VI5, VT5, VP5⟩ := id HQ3
  have N3 := Fr.app N0 N3q
  refine Goes.sts st3 ?_
  show Gs p e below s _ _ _ T3 m 4 #[rv a, .unset] [(.int xr3)]
  refine gistoreN X3 hx (hb hby dp23_13_4) trivial (l' := #[rv a, iv xr3]) rfl ?_
  refine galoadN X3 hx (hb hby dp23_13_5) rfl rfl ?_
  refine giconst X3 hx (hb hby dp23_13_6) ?_
  have HR6 : HR Z T3.heap a aI aT aP kI kT kP I3 D3 P3 (1 : Int32) o3 := ⟨E5, FI5, FT5, FP5, FS5, FO5, VI5, VT5, VP5⟩
  obtain ⟨cc7, qa7, qb7⟩ := Exa.cell E5
  obtain ⟨_, _, ⟨T7, L7, k7, n7⟩, -, X7, ⟨Lc7, hQ7, l7, y7, z7⟩, st7⟩ := X3.privateBack hx (y := mN14) hown (mvT hZ (hwk hw 100 rfl)) (mvT hZ (hwk hw 101 rfl)) (selP (y := mN14) (as := #[]) (mvT hZ (hwk hw 1 rfl)) (mvP hZ (hwk hw 102 rfl)) (mvT hZ (hwk hw 101 rfl)) (by decide)) (Cond.privateMethod_at (mvP hZ (hwk hw 102 rfl) (args := #[]))) (mvT hZ (hwk hw 103 rfl)) (by decide) (backOf (W := 0) (rmR1 l Z a0 hw [] a aI aT aP kI kT kP I3 D3 P3 o3 S T3.heap n0 Z3 hB HR6 inv3 ho3) hZ (hwk hw 103 rfl) (hwk hw 2 rfl) (by decide) (by decide)) (g := (mkF m 7 #[rv a, iv xr3] [(.int (0 : Int32)), (.ref a)])) rfl (by rw [hml]; rfl) (Steps.refl _) (a := a) qa7 qb7 (argsL := [(.int (0 : Int32))]) (rest := []) (lenOf pd__I_V_82d rfl) rfl (by show 2 * 0 + _ ≤ _; exact Nat.le_of_eq rfl) (hb hby dp23_13_7) (fun _ _ => ⟨rfl, rfl, (by decide : 0 + 0 ≤ 0), (by decide : 0 + 0 ≤ 0)⟩)
  dsimp only [Pt.U, Pt.locs, Pt.cells, Pt.slots] at X7 l7 y7 z7 st7 hQ7
  subst l7 y7 z7
  obtain ⟨I7, D7, P7, rfl, N7q, K7, HQ7, inv7⟩ := hQ7
  have KK8 := KK4.trans K7 (allS (Or.inl (List.mem_of_getElem? (i := 0) rfl)) (allS (Or.inl (List.mem_of_getElem? (i := 1) rfl)) (allS (Or.inl (List.mem_of_getElem? (i := 2) rfl)) (allS (Or.inl (List.mem_of_getElem? (i := 3) rfl)) all0))))
  have Z7 : n0 ≤ T7.heap.size := Nat.le_trans Z3 K7.1
  obtain ⟨E9, FI9, FT9, FP9, FS9, FO9, VI9, VT9, VP9⟩ := id HQ7
  have N7 := Fr.app N3 N7q
  refine Goes.sts st7 ?_
  show Gs p e below s _ _ _ T7 m 10 #[rv a, iv xr3] []
  refine giloadN X7 hx (hb hby dp23_13_10) rfl ?_
  show Gs p e below s _ _ _ T7 m 11 #[rv a, iv xr3] [(.int xr3)]
  have HR10 : HR Z T7.heap a aI aT aP kI kT kP I7 D7 P7 (0 : Int32) o3 := ⟨E9, FI9, FT9, FP9, FS9, FO9, VI9, VT9, VP9⟩
  refine Goes.retI X7 hx hlk hret (hb hby dp23_13_11) ?_ (by decide) (by decide)
  exact ⟨I7, D7, P7, o3, xr3, rfl, N7, KK8, HR10, inv7⟩
theorem ef_O2 (m : MethodId) (x0 : Addr) : entryFrame m #[(.ref x0)] 2 = mkF m 0 #[rv x0, .unset] [] := by first | (simp [entryFrame, mkF, argsToLocals, Value.category]; done) | rfl
def QO2 (Z : State) (a aI aT aP : Addr) (kI kT kP : ClassId) (I : Int32 → Int32) (D : Int32 → UInt64) (P : Int32 → Int32) (o : Int32) (S : Int32 → Prop) (h0 : Heap) (n0 : Nat) (v : Option Value) (h : Heap) (L : List Loc) : Prop := ∃ (I1 : Int32 → Int32) (D1 : Int32 → UInt64) (P1 : Int32 → Int32) (o1 : Int32), v = none ∧ Fr n0 L ∧ Keep h0 h [a, aI, aT, aP] ∧ HR Z h a aI aT aP kI kT kP I1 D1 P1 (2 : Int32) o1 ∧ Inv (2 : Int32) S I1 P1 ∧ ¬ o1 = (0 : Int32)
set_option maxRecDepth 65536 in
set_option maxHeartbeats 40000000 in
theorem rmO2 (l : Launch) (Z : State) (a0 : Array Value) (hw : ∀ d ∈ tables_1, d.before a0 Z = true) (ws : List Jvm.Cond) (a aI aT aP : Addr) (kI kT kP : ClassId) (I : Int32 → Int32) (D : Int32 → UInt64) (P : Int32 → Int32) (o : Int32) (S : Int32 → Prop) (h0 : Heap) (n0 : Nat) (Z0 : n0 ≤ h0.size) (hB : HB n0 a aI aT aP) (hR : HR Z h0 a aI aT aP kI kT kP I D P (2 : Int32) o) (hI : Inv (2 : Int32) S I P) :
    MetFree l mN12 (head1 (Jvm.Cond.code mN12 prog_23_method_19_code 2 none :: ws) ({ frames := 2, cells := 0, slots := 0, locals := 37 } : Room)) (fun aa U => aa = #[(.ref a)] ∧ Z.Warmed39 U.vm ∧ U.heap = h0) (fun _ _ _ _ _ => True) (fun _ u1_ o_ u2_ => ∃ v_ l_, o_ = .returned v_ ∧ QO2 Z a aI aT aP kI kT kP I D P o S h0 n0 v_ u2_.heap l_ ∧ FrameEnd u1_ o_ u2_ l_ ({ frames := 2, cells := 0, slots := 0, locals := 37 } : Room).cells ({ frames := 2, cells := 0, slots := 0, locals := 37 } : Room).slots) := by
  refine MetFree.of_bodySF (plainFor_of_name pn_com_example_redoubt_redoubt_engine_IndexHeap) hisR ?_
  intro p e s m args below meth c s₁ Bd hml0 hP hK
  obtain ⟨rfl, hZ, hh⟩ := hP
  have hx := Bd.exec
  have hby := Bd.bytes
  have hlk := BodyLoose.notSynchronized Bd
  have hret := Bd.returns
  have hml : c.maxLocals = 2 := hml0
  have hown : s.vm.findClass "com/example/redoubt/redoubt/engine/IndexHeap" = some m.cls := findClass_of_methodNamed Bd.named
  have hnm := (name_of_methodNamed Bd.named Bd.method).1
  have X0 : Stand p l e ({ frames := 2, cells := 0, slots := 0, locals := 37 } : Room) s m #[(.ref a)] below meth c s₁ [] 0 0 := Stand.of_body Bd
  have e0 : s₁.heap = h0 := by rw [← hh, Bd.state]; rfl
  have N0 := Fr.nil n0
  refine Goes.st (s := s) (Q := QO2 Z a aI aT aP kI kT kP I D P o S h0 n0) (cs := ({ frames := 2, cells := 0, slots := 0, locals := 37 } : Room).cells) (ss := ({ frames := 2, cells := 0, slots := 0, locals := 37 } : Room).slots) (fun tg kg => castTop (ef_O2 m a) kg) ?_
  obtain ⟨la, lI, lT, lP, naI, naT, naP, nIT, nIP, nTP⟩ := id hB
  obtain ⟨E1, FI1, FT1, FP1, FS1, FO1, VI1, VT1, VP1⟩ := id hR
  have K0 : Keep h0 h0 [a, aI, aT, aP] := Keep.refl _ _
  show Gs p e below s _ _ _ s₁ m 0 #[rv a, .unset] []
  refine galoadN X0 hx (hb hby dp23_19_0) rfl rfl ?_
  obtain ⟨T2, X2, e2, st2⟩ := getF X0 hx hZ hown (host := "") (Or.inl (hwk hw 9 rfl)) Via.refl e0 FO1 (g := (mkF m 1 #[rv a, .unset] [(.ref a)])) rfl rfl (hb hby dp23_19_1)
  refine Goes.st st2 ?_
  show Gs p e below s _ _ _ T2 m 4 #[rv a, .unset] [(.int o)]
  by_cases c3 : o = (0 : Int32)
  · refine gifNo X2 hx (hb hby dp23_19_4) ((if0 _ _).trans (teq c3).2) ?_
    show Gs p e below s _ _ _ T2 m 7 #[rv a, .unset] []
    refine galoadN X2 hx (hb hby dp23_19_7) rfl rfl ?_
    obtain ⟨T4, X4, e4, st4⟩ := getF X2 hx hZ hown (host := "") (Or.inl (hwk hw 29 rfl)) Via.refl e2 FS1 (g := (mkF m 8 #[rv a, .unset] [(.ref a)])) rfl rfl (hb hby dp23_19_8)
    refine Goes.st st4 ?_
    refine giconst X4 hx (hb hby dp23_19_11) ?_
    show Gs p e below s _ _ _ T4 m 12 #[rv a, .unset] [(.int (2 : Int32)), (.int (2 : Int32))]
    refine Goes.st (fun tg kg => XS.idiv X4.here hx rfl (hb hby dp23_19_12) rfl (by decide) kg) ?_
    show Gs p e below s _ _ _ T4 m 13 #[rv a, .unset] [(.int ((2 : Int32) / (2 : Int32)))]
    rw [show ((2 : Int32) / (2 : Int32)) = (1 : Int32) from by decide]
    show Gs p e below s _ _ _ T4 m 13 #[rv a, .unset] [(.int (1 : Int32))]
    refine giconst X4 hx (hb hby dp23_19_13) ?_
    refine gisub X4 hx (hb hby dp23_19_14) trivial ?_
    show Gs p e below s _ _ _ T4 m 15 #[rv a, .unset] [(.int ((1 : Int32) - (1 : Int32)))]
    rw [show ((1 : Int32) - (1 : Int32)) = (0 : Int32) from by decide]
    show Gs p e below s _ _ _ T4 m 15 #[rv a, .unset] [(.int (0 : Int32))]
    refine gistoreN X4 hx (hb hby dp23_19_15) trivial (l' := #[rv a, iv (0 : Int32)]) rfl ?_
    refine giloadN X4 hx (hb hby dp23_19_16) rfl ?_
    show Gs p e below s _ _ _ T4 m 17 #[rv a, iv (0 : Int32)] [(.int (0 : Int32))]
    refine gifNo X4 hx (hb hby dp23_19_17) (by decide) ?_
    show Gs p e below s _ _ _ T4 m 20 #[rv a, iv (0 : Int32)] []
    refine galoadN X4 hx (hb hby dp23_19_20) rfl rfl ?_
    refine giloadN X4 hx (hb hby dp23_19_21) rfl ?_
    refine galoadN X4 hx (hb hby dp23_19_22) rfl rfl ?_
    obtain ⟨T5, X5, e5, st5⟩ := getF X4 hx hZ hown (host := "") (Or.inl (hwk hw 12 rfl)) Via.refl e4 FI1 (g := (mkF m 23 #[rv a, iv (0 : Int32)] [(.ref a), (.int (0 : Int32)), (.ref a)])) rfl rfl (hb hby dp23_19_23)
    refine Goes.st st5 ?_
    refine giloadN X5 hx (hb hby dp23_19_26) rfl ?_
    show Gs p e below s _ _ _ T5 m 27 #[rv a, iv (0 : Int32)] [(.int (0 : Int32)), (.ref aI), (.int (0 : Int32)), (.ref a)]
    obtain ⟨cl6, Ar6, qk6, Sz6, qz6, Ha6, Gf6⟩ := id VI1
    have in6 := inb_of (j := (0 : Int32)) Sz6 ⟨by decide, by decide⟩
    refine Goes.st (fun tg kg => X5.iaload hx (j := (0 : Int32)) (v := (.int (I (0 : Int32)))) (by rw [e5]; exact Ar6.1) (State.isArrayOf_alike hZ.alike Ar6.2.1) Ar6.2.2 in6 (Ha6.at in6 (get_lst i4_0)) (g := (mkF m 27 #[rv a, iv (0 : Int32)] [(.int (0 : Int32)), (.ref aI), (.int (0 : Int32)), (.ref a)])) rfl rfl (hb hby dp23_19_27) tg kg) ?_
    refine galoadN X5 hx (hb hby dp23_19_28) rfl rfl ?_
    obtain ⟨T7, X7, e7, st7⟩ := getF X5 hx hZ hown (host := "") (Or.inl (hwk hw 15 rfl)) Via.refl e5 FT1 (g := (mkF m 29 #[rv a, iv (0 : Int32)] [(.ref a), (.int (I (0 : Int32))), (.int (0 : Int32)), (.ref a)])) rfl rfl (hb hby dp23_19_29)
    refine Goes.st st7 ?_
    refine giloadN X7 hx (hb hby dp23_19_32) rfl ?_
    show Gs p e below s _ _ _ T7 m 33 #[rv a, iv (0 : Int32)] [(.int (0 : Int32)), (.ref aT), (.int (I (0 : Int32))), (.int (0 : Int32)), (.ref a)]
    obtain ⟨cl8, Ar8, qk8, Sz8, qz8, Ha8, Gf8⟩ := id VT1
    have in8 := inb_of (j := (0 : Int32)) Sz8 ⟨by decide, by decide⟩
    refine Goes.st (fun tg kg => X7.daload hx (j := (0 : Int32)) (v := (.double (D (0 : Int32)))) (by rw [e7]; exact Ar8.1) (State.isArrayOf_alike hZ.alike Ar8.2.1) Ar8.2.2 in8 (Ha8.at in8 (get_dls i4_0)) (g := (mkF m 33 #[rv a, iv (0 : Int32)] [(.int (0 : Int32)), (.ref aT), (.int (I (0 : Int32))), (.int (0 : Int32)), (.ref a)])) rfl rfl (hb hby dp23_19_33) tg kg) ?_
    have HR9 : HR Z h0 a aI aT aP kI kT kP I D P (2 : Int32) o := ⟨E1, FI1, FT1, FP1, FS1, FO1, VI1, VT1, VP1⟩
    obtain ⟨cc10, qa10, qb10⟩ := Exa.cell E1
    obtain ⟨_, _, ⟨T10, L10, k10, n10⟩, -, X10, ⟨Lc10, hQ10, l10, y10, z10⟩, st10⟩ := X7.privateBack hx (y := mN8) hown (mvT hZ (hwk hw 96 rfl)) (mvT hZ (hwk hw 97 rfl)) (selP (y := mN8) (as := #[]) (mvT hZ (hwk hw 1 rfl)) (mvP hZ (hwk hw 98 rfl)) (mvT hZ (hwk hw 97 rfl)) (by decide)) (Cond.privateMethod_at (mvP hZ (hwk hw 98 rfl) (args := #[]))) (mvT hZ (hwk hw 99 rfl)) (by decide) (backOf (W := 0) (rmD20 l Z a0 hw [] a aI aT aP kI kT kP I D P o (I (0 : Int32)) (D (0 : Int32)) S h0 n0 Z0 hB HR9 (hI.1 _ i4_0) (hol_open hI) (hI.2.1 _ i4_0 (by decide))) hZ (hwk hw 99 rfl) (hwk hw 2 rfl) (by decide) (by decide)) (g := (mkF m 34 #[rv a, iv (0 : Int32)] [(.double (D (0 : Int32))), (.int (I (0 : Int32))), (.int (0 : Int32)), (.ref a)])) rfl (by rw [hml]; rfl) (Steps.refl _) (a := a) (by rw [e7]; exact qa10) qb10 (argsL := [(.int (0 : Int32)), (.int (I (0 : Int32))), (.double (D (0 : Int32)))]) (rest := []) (lenOf pd__IID_V_e64 rfl) rfl (by show 2 * 0 + _ ≤ _; exact Nat.le_of_eq rfl) (hb hby dp23_19_34) (fun _ _ => ⟨rfl, e7, (by decide : 0 + 0 ≤ 0), (by decide : 0 + 0 ≤ 0)⟩)
    dsimp only [Pt.U, Pt.locs, Pt.cells, Pt.slots] at X10 l10 y10 z10 st10 hQ10
    subst l10 y10 z10
    obtain ⟨I10, D10, P10, rfl, N10q, K10, HQ10, inv10⟩ := hQ10
    have KK11 := K0.trans K10 (allS (Or.inl (List.mem_of_getElem? (i := 0) rfl)) (allS (Or.inl (List.mem_of_getElem? (i := 1) rfl)) (allS (Or.inl (List.mem_of_getElem? (i := 2) rfl)) (allS (Or.inl (List.mem_of_getElem? (i := 3) rfl)) all0))))
    have Z10 : n0 ≤ T10.heap.size := Nat.le_trans Z0 K10.1
    obtain ⟨E12, FI12, FT12, FP12, FS12, FO12, VI12, VT12, VP12⟩ := id HQ10
    have N10 := Fr.app N0 N10q
    refine Goes.sts st10 ?_
    show Gs p e below s _ _ _ T10 m 37 #[rv a, iv (0 : Int32)] []
    refine Goes.st (fun tg kg => XS.iinc X10.here hx rfl (hb hby dp23_19_37) rfl (l' := #[rv a, iv (-1 : Int32)]) rfl kg) ?_
    show Gs p e below s _ _ _ T10 m 40 #[rv a, iv (-1 : Int32)] []
    refine ggoto X10 hx (pc' := 16) (hb hby dp23_19_40) (by decide) (by decide) ?_
    show Gs p e below s _ _ _ T10 m 16 #[rv a, iv (-1 : Int32)] []
    refine giloadN X10 hx (hb hby dp23_19_16) rfl ?_
    show Gs p e below s _ _ _ T10 m 17 #[rv a, iv (-1 : Int32)] [(.int (-1 : Int32))]
    refine gifYes X10 hx (pc' := 43) (hb hby dp23_19_17) (by decide) (by decide) (by decide) ?_
    show Gs p e below s _ _ _ T10 m 43 #[rv a, iv (-1 : Int32)] []
    refine galoadN X10 hx (hb hby dp23_19_43) rfl rfl ?_
    refine giconst X10 hx (hb hby dp23_19_44) ?_
    obtain ⟨T13, h13, X13, e13, W13, st13⟩ := putFN X10 hx hZ hown (hwk hw 9 rfl) Via.refl rfl FO12 E12 (Or.inl (hwk hw 10 rfl)) (hwk hw 1 rfl) (ty := .boolean) (v' := (.int (1 : Int32))) (by decide) rfl (by decide) (g := (mkF m 45 #[rv a, iv (-1 : Int32)] [(.int (1 : Int32)), (.ref a)])) rfl rfl (hb hby dp23_19_45)
    have N13 := Fr.snoc X13 N10 la
    have G13 := FO12.same W13
    refine Goes.st st13 ?_
    have KK14 := KK11.wr W13 (Or.inl (List.mem_of_getElem? (i := 0) rfl))
    have Z13 : n0 ≤ h13.size := by have := W13.size; have := Z10; omega
    show Gs p e below s _ _ _ T13 m 48 #[rv a, iv (-1 : Int32)] []
    have f15 := (E12.wr W13)
    have f16 := (FI12.other W13 (Or.inr (slot_ne (Or.inr (hwk hw 13 rfl)) (Or.inl (hwk hw 10 rfl)) (by decide) (t := (.array .int)) (t' := .boolean) (by decide) (by decide))))
    have f17 := (FT12.other W13 (Or.inr (slot_ne (Or.inr (hwk hw 16 rfl)) (Or.inl (hwk hw 10 rfl)) (by decide) (t := (.array .double)) (t' := .boolean) (by decide) (by decide))))
    have f18 := (FP12.other W13 (Or.inr (slot_ne (Or.inr (hwk hw 18 rfl)) (Or.inl (hwk hw 10 rfl)) (by decide) (t := (.array .int)) (t' := .boolean) (by decide) (by decide))))
    have f19 := (FS12.other W13 (Or.inr (slot_ne (Or.inl (hwk hw 30 rfl)) (Or.inl (hwk hw 10 rfl)) (by decide) (t := .int) (t' := .boolean) (by decide) (by decide))))
    have f20 := (VI12.other W13 (Ne.symm naI))
    have f21 := (VT12.other W13 (Ne.symm naT))
    have f22 := (VP12.other W13 (Ne.symm naP))
    have HR23 : HR Z h13 a aI aT aP kI kT kP I10 D10 P10 (2 : Int32) (1 : Int32) := ⟨f15, f16, f17, f18, f19, G13, f20, f21, f22⟩
    refine Goes.retV X13 hx hlk hret (hb hby dp23_19_48) ?_ (by decide) (by decide)
    rw [e13]
    exact ⟨I10, D10, P10, (1 : Int32), rfl, N13, KK14, HR23, inv10, (by decide)⟩
  · refine gifYes X2 hx (pc' := 48) (hb hby dp23_19_4) ((if0 _ _).trans (feq c3).2) (by decide) (by decide) ?_
    show Gs p e below s _ _ _ T2 m 48 #[rv a, .unset] []
    have HR24 : HR Z h0 a aI aT aP kI kT kP I D P (2 : Int32) o := ⟨E1, FI1, FT1, FP1, FS1, FO1, VI1, VT1, VP1⟩
    refine Goes.retV X2 hx hlk hret (hb hby dp23_19_48) ?_ (by decide) (by decide)
    rw [e2]
    exact ⟨I, D, P, o, rfl, N0, K0, HR24, hI, c3⟩
theorem ef_F2 (m : MethodId) (x0 : Addr) : entryFrame m #[(.ref x0)] 1 = mkF m 0 #[rv x0] [] := by first | (simp [entryFrame, mkF, argsToLocals, Value.category]; done) | rfl
def QF2 (Z : State) (a aI aT aP : Addr) (kI kT kP : ClassId) (I : Int32 → Int32) (D : Int32 → UInt64) (P : Int32 → Int32) (o : Int32) (S : Int32 → Prop) (h0 : Heap) (n0 : Nat) (v : Option Value) (h : Heap) (L : List Loc) : Prop := ∃ (I1 : Int32 → Int32) (D1 : Int32 → UInt64) (P1 : Int32 → Int32) (o1 x1 : Int32), v = some (.int x1) ∧ Fr n0 L ∧ Keep h0 h [a, aI, aT, aP] ∧ HR Z h a aI aT aP kI kT kP I1 D1 P1 (2 : Int32) o1 ∧ Inv (2 : Int32) S I1 P1 ∧ ¬ o1 = (0 : Int32)
set_option maxRecDepth 65536 in
set_option maxHeartbeats 40000000 in
theorem rmF2 (l : Launch) (Z : State) (a0 : Array Value) (hw : ∀ d ∈ tables_1, d.before a0 Z = true) (ws : List Jvm.Cond) (a aI aT aP : Addr) (kI kT kP : ClassId) (I : Int32 → Int32) (D : Int32 → UInt64) (P : Int32 → Int32) (o : Int32) (S : Int32 → Prop) (h0 : Heap) (n0 : Nat) (Z0 : n0 ≤ h0.size) (hB : HB n0 a aI aT aP) (hR : HR Z h0 a aI aT aP kI kT kP I D P (2 : Int32) o) (hI : Inv (2 : Int32) S I P) :
    MetFree l mN13 (head1 (Jvm.Cond.code mN13 prog_23_method_8_code 1 (some .int) :: ws) ({ frames := 3, cells := 0, slots := 0, locals := 50 } : Room)) (fun aa U => aa = #[(.ref a)] ∧ Z.Warmed39 U.vm ∧ U.heap = h0) (fun _ _ _ _ _ => True) (fun _ u1_ o_ u2_ => ∃ v_ l_, o_ = .returned v_ ∧ QF2 Z a aI aT aP kI kT kP I D P o S h0 n0 v_ u2_.heap l_ ∧ FrameEnd u1_ o_ u2_ l_ ({ frames := 3, cells := 0, slots := 0, locals := 50 } : Room).cells ({ frames := 3, cells := 0, slots := 0, locals := 50 } : Room).slots) := by
  refine MetFree.of_bodySF (plainFor_of_name pn_com_example_redoubt_redoubt_engine_IndexHeap) hisR ?_
  intro p e s m args below meth c s₁ Bd hml0 hP hK
  obtain ⟨rfl, hZ, hh⟩ := hP
  have hx := Bd.exec
  have hby := Bd.bytes
  have hlk := BodyLoose.notSynchronized Bd
  have hret := Bd.returns
  have hml : c.maxLocals = 1 := hml0
  have hown : s.vm.findClass "com/example/redoubt/redoubt/engine/IndexHeap" = some m.cls := findClass_of_methodNamed Bd.named
  have hnm := (name_of_methodNamed Bd.named Bd.method).1
  have X0 : Stand p l e ({ frames := 3, cells := 0, slots := 0, locals := 50 } : Room) s m #[(.ref a)] below meth c s₁ [] 0 0 := Stand.of_body Bd
  have e0 : s₁.heap = h0 := by rw [← hh, Bd.state]; rfl
  have N0 := Fr.nil n0
  refine Goes.st (s := s) (Q := QF2 Z a aI aT aP kI kT kP I D P o S h0 n0) (cs := ({ frames := 3, cells := 0, slots := 0, locals := 50 } : Room).cells) (ss := ({ frames := 3, cells := 0, slots := 0, locals := 50 } : Room).slots) (fun tg kg => castTop (ef_F2 m a) kg) ?_
  obtain ⟨la, lI, lT, lP, naI, naT, naP, nIT, nIP, nTP⟩ := id hB
  obtain ⟨E1, FI1, FT1, FP1, FS1, FO1, VI1, VT1, VP1⟩ := id hR
  have K0 : Keep h0 h0 [a, aI, aT, aP] := Keep.refl _ _
  show Gs p e below s _ _ _ s₁ m 0 #[rv a] []
  refine galoadN X0 hx (hb hby dp23_8_0) rfl rfl ?_
  obtain ⟨T2, X2, e2, st2⟩ := getF X0 hx hZ hown (host := "") (Or.inl (hwk hw 29 rfl)) Via.refl e0 FS1 (g := (mkF m 1 #[rv a] [(.ref a)])) rfl rfl (hb hby dp23_8_1)
  refine Goes.st st2 ?_
  show Gs p e below s _ _ _ T2 m 4 #[rv a] [(.int (2 : Int32))]
  refine gifYes X2 hx (pc' := 17) (hb hby dp23_8_4) (by decide) (by decide) (by decide) ?_
  show Gs p e below s _ _ _ T2 m 17 #[rv a] []
  refine galoadN X2 hx (hb hby dp23_8_17) rfl rfl ?_
  have HR3 : HR Z h0 a aI aT aP kI kT kP I D P (2 : Int32) o := ⟨E1, FI1, FT1, FP1, FS1, FO1, VI1, VT1, VP1⟩
  obtain ⟨cc4, qa4, qb4⟩ := Exa.cell E1
  obtain ⟨_, _, ⟨T4, L4, k4, n4⟩, -, X4, ⟨Lc4, hQ4, l4, y4, z4⟩, st4⟩ := X2.privateBack hx (y := mN12) hown (mvT hZ (hwk hw 92 rfl)) (mvT hZ (hwk hw 93 rfl)) (selP (y := mN12) (as := #[]) (mvT hZ (hwk hw 1 rfl)) (mvP hZ (hwk hw 94 rfl)) (mvT hZ (hwk hw 93 rfl)) (by decide)) (Cond.privateMethod_at (mvP hZ (hwk hw 94 rfl) (args := #[]))) (mvT hZ (hwk hw 95 rfl)) (by decide) (backOf (W := 0) (rmO2 l Z a0 hw [] a aI aT aP kI kT kP I D P o S h0 n0 Z0 hB HR3 hI) hZ (hwk hw 95 rfl) (hwk hw 2 rfl) (by decide) (by decide)) (g := (mkF m 18 #[rv a] [(.ref a)])) rfl (by rw [hml]; rfl) (Steps.refl _) (a := a) (by rw [e2]; exact qa4) qb4 (argsL := []) (rest := []) (lenOf pd___V_566 rfl) rfl (by show 2 * 0 + _ ≤ _; exact Nat.le_of_eq rfl) (hb hby dp23_8_18) (fun _ _ => ⟨rfl, e2, (by decide : 0 + 0 ≤ 0), (by decide : 0 + 0 ≤ 0)⟩)
  dsimp only [Pt.U, Pt.locs, Pt.cells, Pt.slots] at X4 l4 y4 z4 st4 hQ4
  subst l4 y4 z4
  obtain ⟨I4, D4, P4, o4, rfl, N4q, K4, HQ4, inv4, ho4⟩ := hQ4
  have KK5 := K0.trans K4 (allS (Or.inl (List.mem_of_getElem? (i := 0) rfl)) (allS (Or.inl (List.mem_of_getElem? (i := 1) rfl)) (allS (Or.inl (List.mem_of_getElem? (i := 2) rfl)) (allS (Or.inl (List.mem_of_getElem? (i := 3) rfl)) all0))))
  have Z4 : n0 ≤ T4.heap.size := Nat.le_trans Z0 K4.1
  obtain ⟨E6, FI6, FT6, FP6, FS6, FO6, VI6, VT6, VP6⟩ := id HQ4
  have N4 := Fr.app N0 N4q
  refine Goes.sts st4 ?_
  show Gs p e below s _ _ _ T4 m 21 #[rv a] []
  refine galoadN X4 hx (hb hby dp23_8_21) rfl rfl ?_
  obtain ⟨T7, X7, e7, st7⟩ := getF X4 hx hZ hown (host := "") (Or.inl (hwk hw 12 rfl)) Via.refl rfl FI6 (g := (mkF m 22 #[rv a] [(.ref a)])) rfl rfl (hb hby dp23_8_22)
  refine Goes.st st7 ?_
  refine giconst X7 hx (hb hby dp23_8_25) ?_
  show Gs p e below s _ _ _ T7 m 26 #[rv a] [(.int (0 : Int32)), (.ref aI)]
  obtain ⟨cl8, Ar8, qk8, Sz8, qz8, Ha8, Gf8⟩ := id VI6
  have in8 := inb_of (j := (0 : Int32)) Sz8 ⟨by decide, by decide⟩
  refine Goes.st (fun tg kg => X7.iaload hx (j := (0 : Int32)) (v := (.int (I4 (0 : Int32)))) (by rw [e7]; exact Ar8.1) (State.isArrayOf_alike hZ.alike Ar8.2.1) Ar8.2.2 in8 (Ha8.at in8 (get_lst i4_0)) (g := (mkF m 26 #[rv a] [(.int (0 : Int32)), (.ref aI)])) rfl rfl (hb hby dp23_8_26) tg kg) ?_
  show Gs p e below s _ _ _ T7 m 27 #[rv a] [(.int (I4 (0 : Int32)))]
  have HR9 : HR Z T4.heap a aI aT aP kI kT kP I4 D4 P4 (2 : Int32) o4 := ⟨E6, FI6, FT6, FP6, FS6, FO6, VI6, VT6, VP6⟩
  refine Goes.retI X7 hx hlk hret (hb hby dp23_8_27) ?_ (by decide) (by decide)
  rw [e7]
  exact ⟨I4, D4, P4, o4, (I4 (0 : Int32)), rfl, N4, KK5, HR9, inv4, ho4⟩
theorem ef_R2 (m : MethodId) (x0 : Addr) (x1 : Int32) : entryFrame m #[(.ref x0), (.int x1)] 5 = mkF m 0 #[rv x0, iv x1, .unset, .unset, .unset] [] := by first | (simp [entryFrame, mkF, argsToLocals, Value.category]; done) | rfl
def QR2 (Z : State) (a aI aT aP : Addr) (kI kT kP : ClassId) (I : Int32 → Int32) (D : Int32 → UInt64) (P : Int32 → Int32) (o : Int32) (S : Int32 → Prop) (h0 : Heap) (n0 : Nat) (v : Option Value) (h : Heap) (L : List Loc) : Prop := ∃ (I1 : Int32 → Int32) (D1 : Int32 → UInt64) (P1 : Int32 → Int32), v = none ∧ Fr n0 L ∧ Keep h0 h [a, aI, aT, aP] ∧ HR Z h a aI aT aP kI kT kP I1 D1 P1 (1 : Int32) o ∧ Inv (1 : Int32) S I1 P1
set_option maxRecDepth 65536 in
set_option maxHeartbeats 40000000 in
theorem rmR2 (l : Launch) (Z : State) (a0 : Array Value) (hw : ∀ d ∈ tables_1, d.before a0 Z = true) (ws : List Jvm.Cond) (a aI aT aP : Addr) (kI kT kP : ClassId) (I : Int32 → Int32) (D : Int32 → UInt64) (P : Int32 → Int32) (o : Int32) (S : Int32 → Prop) (h0 : Heap) (n0 : Nat) (Z0 : n0 ≤ h0.size) (hB : HB n0 a aI aT aP) (hR : HR Z h0 a aI aT aP kI kT kP I D P (2 : Int32) o) (hI : Inv (2 : Int32) S I P) (ho : ¬ o = (0 : Int32)) :
    MetFree l mN14 (head1 (Jvm.Cond.code mN14 prog_23_method_21_code 5 none :: ws) ({ frames := 2, cells := 0, slots := 0, locals := 36 } : Room)) (fun aa U => aa = #[(.ref a), (.int (0 : Int32))] ∧ Z.Warmed39 U.vm ∧ U.heap = h0) (fun _ _ _ _ _ => True) (fun _ u1_ o_ u2_ => ∃ v_ l_, o_ = .returned v_ ∧ QR2 Z a aI aT aP kI kT kP I D P o S h0 n0 v_ u2_.heap l_ ∧ FrameEnd u1_ o_ u2_ l_ ({ frames := 2, cells := 0, slots := 0, locals := 36 } : Room).cells ({ frames := 2, cells := 0, slots := 0, locals := 36 } : Room).slots) := by
  refine MetFree.of_bodySF (plainFor_of_name pn_com_example_redoubt_redoubt_engine_IndexHeap) hisR ?_
  intro p e s m args below meth c s₁ Bd hml0 hP hK
  obtain ⟨rfl, hZ, hh⟩ := hP
  have hx := Bd.exec
  have hby := Bd.bytes
  have hlk := BodyLoose.notSynchronized Bd
  have hret := Bd.returns
  have hml : c.maxLocals = 5 := hml0
  have hown : s.vm.findClass "com/example/redoubt/redoubt/engine/IndexHeap" = some m.cls := findClass_of_methodNamed Bd.named
  have hnm := (name_of_methodNamed Bd.named Bd.method).1
  have X0 : Stand p l e ({ frames := 2, cells := 0, slots := 0, locals := 36 } : Room) s m #[(.ref a), (.int (0 : Int32))] below meth c s₁ [] 0 0 := Stand.of_body Bd
  have e0 : s₁.heap = h0 := by rw [← hh, Bd.state]; rfl
  have N0 := Fr.nil n0
  refine Goes.st (s := s) (Q := QR2 Z a aI aT aP kI kT kP I D P o S h0 n0) (cs := ({ frames := 2, cells := 0, slots := 0, locals := 36 } : Room).cells) (ss := ({ frames := 2, cells := 0, slots := 0, locals := 36 } : Room).slots) (fun tg kg => castTop (ef_R2 m a (0 : Int32)) kg) ?_
  obtain ⟨la, lI, lT, lP, naI, naT, naP, nIT, nIP, nTP⟩ := id hB
  obtain ⟨E1, FI1, FT1, FP1, FS1, FO1, VI1, VT1, VP1⟩ := id hR
  have K0 : Keep h0 h0 [a, aI, aT, aP] := Keep.refl _ _
  show Gs p e below s _ _ _ s₁ m 0 #[rv a, iv (0 : Int32), .unset, .unset, .unset] []
  refine galoadN X0 hx (hb hby dp23_21_0) rfl rfl ?_
  obtain ⟨T2, X2, e2, st2⟩ := getF X0 hx hZ hown (host := "") (Or.inl (hwk hw 17 rfl)) Via.refl e0 FP1 (g := (mkF m 1 #[rv a, iv (0 : Int32), .unset, .unset, .unset] [(.ref a)])) rfl rfl (hb hby dp23_21_1)
  refine Goes.st st2 ?_
  refine galoadN X2 hx (hb hby dp23_21_4) rfl rfl ?_
  obtain ⟨T3, X3, e3, st3⟩ := getF X2 hx hZ hown (host := "") (Or.inl (hwk hw 12 rfl)) Via.refl e2 FI1 (g := (mkF m 5 #[rv a, iv (0 : Int32), .unset, .unset, .unset] [(.ref a), (.ref aP)])) rfl rfl (hb hby dp23_21_5)
  refine Goes.st st3 ?_
  refine giloadN X3 hx (hb hby dp23_21_8) rfl ?_
  show Gs p e below s _ _ _ T3 m 9 #[rv a, iv (0 : Int32), .unset, .unset, .unset] [(.int (0 : Int32)), (.ref aI), (.ref aP)]
  obtain ⟨cl4, Ar4, qk4, Sz4, qz4, Ha4, Gf4⟩ := id VI1
  have in4 := inb_of (j := (0 : Int32)) Sz4 ⟨by decide, by decide⟩
  refine Goes.st (fun tg kg => X3.iaload hx (j := (0 : Int32)) (v := (.int (I (0 : Int32)))) (by rw [e3]; exact Ar4.1) (State.isArrayOf_alike hZ.alike Ar4.2.1) Ar4.2.2 in4 (Ha4.at in4 (get_lst i4_0)) (g := (mkF m 9 #[rv a, iv (0 : Int32), .unset, .unset, .unset] [(.int (0 : Int32)), (.ref aI), (.ref aP)])) rfl rfl (hb hby dp23_21_9) tg kg) ?_
  refine giconst X3 hx (hb hby dp23_21_10) ?_
  show Gs p e below s _ _ _ T3 m 11 #[rv a, iv (0 : Int32), .unset, .unset, .unset] [(.int (-1 : Int32)), (.int (I (0 : Int32))), (.ref aP)]
  obtain ⟨cl5, Ar5, qk5, Sz5, qz5, Ha5, Gf5⟩ := id VP1
  obtain ⟨T5, h5, X5, e5, W5, st5⟩ := stI X3 hx hZ e3 Ar5 (inb_of Sz5 (own_in (hI.1 _ i4_0))) (g := (mkF m 11 #[rv a, iv (0 : Int32), .unset, .unset, .unset] [(.int (-1 : Int32)), (.int (I (0 : Int32))), (.ref aP)])) rfl rfl (hb hby dp23_21_11)
  have N5 := Fr.snoc X5 N0 lP
  have V5 : Arv Z h5 aP kP .int (4 : Int32) (lst (upd P (I (0 : Int32)) (-1 : Int32))) (.int (0 : Int32)) := setI Ar5 qk5 Sz5 qz5 Ha5 Gf5 W5 (hI.1 _ i4_0)
  refine Goes.st st5 ?_
  have KK6 := K0.wr W5 (Or.inl (List.mem_of_getElem? (i := 3) rfl))
  have Z5 : n0 ≤ h5.size := by have := W5.size; have := Z0; omega
  show Gs p e below s _ _ _ T5 m 12 #[rv a, iv (0 : Int32), .unset, .unset, .unset] []
  refine galoadN X5 hx (hb hby dp23_21_12) rfl rfl ?_
  refine gdup X5 hx (hb hby dp23_21_13) trivial rfl ?_
  have f8 := (FS1.other W5 (Or.inl naP))
  obtain ⟨T7, X7, e7, st7⟩ := getF X5 hx hZ hown (host := "") (Or.inl (hwk hw 29 rfl)) Via.refl e5 f8 (g := (mkF m 14 #[rv a, iv (0 : Int32), .unset, .unset, .unset] [(.ref a), (.ref a)])) rfl rfl (hb hby dp23_21_14)
  refine Goes.st st7 ?_
  refine giconst X7 hx (hb hby dp23_21_17) ?_
  refine gisub X7 hx (hb hby dp23_21_18) trivial ?_
  show Gs p e below s _ _ _ T7 m 19 #[rv a, iv (0 : Int32), .unset, .unset, .unset] [(.int ((2 : Int32) - (1 : Int32))), (.ref a)]
  rw [show ((2 : Int32) - (1 : Int32)) = (1 : Int32) from by decide]
  show Gs p e below s _ _ _ T7 m 19 #[rv a, iv (0 : Int32), .unset, .unset, .unset] [(.int (1 : Int32)), (.ref a)]
  have f10 := (E1.wr W5)
  obtain ⟨T9, h9, X9, e9, W9, st9⟩ := putF X7 hx hZ hown (host := "") (Or.inl (hwk hw 29 rfl)) Via.refl e7 f8 f10 (Or.inl (hwk hw 30 rfl)) (hwk hw 1 rfl) (ty := .int) (by decide) rfl rfl (g := (mkF m 19 #[rv a, iv (0 : Int32), .unset, .unset, .unset] [(.int (1 : Int32)), (.ref a)])) rfl rfl (hb hby dp23_21_19)
  have N9 := Fr.snoc X9 N5 la
  have G9 := f8.same W9
  refine Goes.st st9 ?_
  have KK11 := KK6.wr W9 (Or.inl (List.mem_of_getElem? (i := 0) rfl))
  have Z9 : n0 ≤ h9.size := by have := W9.size; have := Z5; omega
  show Gs p e below s _ _ _ T9 m 22 #[rv a, iv (0 : Int32), .unset, .unset, .unset] []
  refine giloadN X9 hx (hb hby dp23_21_22) rfl ?_
  refine galoadN X9 hx (hb hby dp23_21_23) rfl rfl ?_
  obtain ⟨T12, X12, e12, st12⟩ := getF X9 hx hZ hown (host := "") (Or.inl (hwk hw 29 rfl)) Via.refl e9 G9 (g := (mkF m 24 #[rv a, iv (0 : Int32), .unset, .unset, .unset] [(.ref a), (.int (0 : Int32))])) rfl rfl (hb hby dp23_21_24)
  refine Goes.st st12 ?_
  show Gs p e below s _ _ _ T12 m 27 #[rv a, iv (0 : Int32), .unset, .unset, .unset] [(.int (1 : Int32)), (.int (0 : Int32))]
  refine gicmpNo X12 hx (hb hby dp23_21_27) (by decide) ?_
  show Gs p e below s _ _ _ T12 m 30 #[rv a, iv (0 : Int32), .unset, .unset, .unset] []
  refine galoadN X12 hx (hb hby dp23_21_30) rfl rfl ?_
  have f14 := ((FI1.other W5 (Or.inl naP)).other W9 (Or.inr (slot_ne (Or.inr (hwk hw 13 rfl)) (Or.inl (hwk hw 30 rfl)) (by decide) (t := (.array .int)) (t' := .int) (by decide) (by decide))))
  obtain ⟨T13, X13, e13, st13⟩ := getF X12 hx hZ hown (host := "") (Or.inl (hwk hw 12 rfl)) Via.refl e12 f14 (g := (mkF m 31 #[rv a, iv (0 : Int32), .unset, .unset, .unset] [(.ref a)])) rfl rfl (hb hby dp23_21_31)
  refine Goes.st st13 ?_
  refine galoadN X13 hx (hb hby dp23_21_34) rfl rfl ?_
  obtain ⟨T15, X15, e15, st15⟩ := getF X13 hx hZ hown (host := "") (Or.inl (hwk hw 29 rfl)) Via.refl e13 G9 (g := (mkF m 35 #[rv a, iv (0 : Int32), .unset, .unset, .unset] [(.ref a), (.ref aI)])) rfl rfl (hb hby dp23_21_35)
  refine Goes.st st15 ?_
  show Gs p e below s _ _ _ T15 m 38 #[rv a, iv (0 : Int32), .unset, .unset, .unset] [(.int (1 : Int32)), (.ref aI)]
  have f16 := ((VI1.other W5 nIP).other W9 (Ne.symm naI))
  obtain ⟨cl17, Ar17, qk17, Sz17, qz17, Ha17, Gf17⟩ := id f16
  have in17 := inb_of (j := (1 : Int32)) Sz17 ⟨by decide, by decide⟩
  refine Goes.st (fun tg kg => X15.iaload hx (j := (1 : Int32)) (v := (.int (I (1 : Int32)))) (by rw [e15]; exact Ar17.1) (State.isArrayOf_alike hZ.alike Ar17.2.1) Ar17.2.2 in17 (Ha17.at in17 (get_lst i4_1)) (g := (mkF m 38 #[rv a, iv (0 : Int32), .unset, .unset, .unset] [(.int (1 : Int32)), (.ref aI)])) rfl rfl (hb hby dp23_21_38) tg kg) ?_
  refine gistoreN X15 hx (hb hby dp23_21_39) trivial (l' := #[rv a, iv (0 : Int32), iv (I (1 : Int32)), .unset, .unset]) rfl ?_
  refine galoadN X15 hx (hb hby dp23_21_40) rfl rfl ?_
  have f19 := ((FT1.other W5 (Or.inl naP)).other W9 (Or.inr (slot_ne (Or.inr (hwk hw 16 rfl)) (Or.inl (hwk hw 30 rfl)) (by decide) (t := (.array .double)) (t' := .int) (by decide) (by decide))))
  obtain ⟨T18, X18, e18, st18⟩ := getF X15 hx hZ hown (host := "") (Or.inl (hwk hw 15 rfl)) Via.refl e15 f19 (g := (mkF m 41 #[rv a, iv (0 : Int32), iv (I (1 : Int32)), .unset, .unset] [(.ref a)])) rfl rfl (hb hby dp23_21_41)
  refine Goes.st st18 ?_
  refine galoadN X18 hx (hb hby dp23_21_44) rfl rfl ?_
  show Gs p e below s _ _ _ T18 m 45 #[rv a, iv (0 : Int32), iv (I (1 : Int32)), .unset, .unset] [(.ref a), (.ref aT)]
  obtain ⟨T20, X20, e20, st20⟩ := getF X18 hx hZ hown (host := "") (Or.inl (hwk hw 29 rfl)) Via.refl e18 G9 (g := (mkF m 45 #[rv a, iv (0 : Int32), iv (I (1 : Int32)), .unset, .unset] [(.ref a), (.ref aT)])) rfl rfl (hb hby dp23_21_45)
  refine Goes.st st20 ?_
  show Gs p e below s _ _ _ T20 m 48 #[rv a, iv (0 : Int32), iv (I (1 : Int32)), .unset, .unset] [(.int (1 : Int32)), (.ref aT)]
  have f21 := ((VT1.other W5 nTP).other W9 (Ne.symm naT))
  obtain ⟨cl22, Ar22, qk22, Sz22, qz22, Ha22, Gf22⟩ := id f21
  have in22 := inb_of (j := (1 : Int32)) Sz22 ⟨by decide, by decide⟩
  refine Goes.st (fun tg kg => X20.daload hx (j := (1 : Int32)) (v := (.double (D (1 : Int32)))) (by rw [e20]; exact Ar22.1) (State.isArrayOf_alike hZ.alike Ar22.2.1) Ar22.2.2 in22 (Ha22.at in22 (get_dls i4_1)) (g := (mkF m 48 #[rv a, iv (0 : Int32), iv (I (1 : Int32)), .unset, .unset] [(.int (1 : Int32)), (.ref aT)])) rfl rfl (hb hby dp23_21_48) tg kg) ?_
  refine gdstoreN X20 hx (hb hby dp23_21_49) trivial (l' := #[rv a, iv (0 : Int32), iv (I (1 : Int32)), .val (.double (D (1 : Int32))), .second]) rfl ?_
  refine galoadN X20 hx (hb hby dp23_21_50) rfl rfl ?_
  have f24 := ((FO1.other W5 (Or.inl naP)).other W9 (Or.inr (slot_ne (Or.inl (hwk hw 10 rfl)) (Or.inl (hwk hw 30 rfl)) (by decide) (t := .boolean) (t' := .int) (by decide) (by decide))))
  obtain ⟨T23, X23, e23, st23⟩ := getF X20 hx hZ hown (host := "") (Or.inl (hwk hw 9 rfl)) Via.refl e20 f24 (g := (mkF m 51 #[rv a, iv (0 : Int32), iv (I (1 : Int32)), .val (.double (D (1 : Int32))), .second] [(.ref a)])) rfl rfl (hb hby dp23_21_51)
  refine Goes.st st23 ?_
  show Gs p e below s _ _ _ T23 m 54 #[rv a, iv (0 : Int32), iv (I (1 : Int32)), .val (.double (D (1 : Int32))), .second] [(.int o)]
  refine gifNo X23 hx (hb hby dp23_21_54) ((if0 _ _).trans (feq ho).1) ?_
  show Gs p e below s _ _ _ T23 m 57 #[rv a, iv (0 : Int32), iv (I (1 : Int32)), .val (.double (D (1 : Int32))), .second] []
  refine galoadN X23 hx (hb hby dp23_21_57) rfl rfl ?_
  refine giloadN X23 hx (hb hby dp23_21_58) rfl ?_
  refine giloadN X23 hx (hb hby dp23_21_59) rfl ?_
  refine gdloadN X23 hx (hb hby dp23_21_60) rfl ?_
  have f25 := (f10.wr W9)
  have f26 := ((FP1.other W5 (Or.inl naP)).other W9 (Or.inr (slot_ne (Or.inr (hwk hw 18 rfl)) (Or.inl (hwk hw 30 rfl)) (by decide) (t := (.array .int)) (t' := .int) (by decide) (by decide))))
  have f27 := (V5.other W9 (Ne.symm naP))
  have HR28 : HR Z h9 a aI aT aP kI kT kP I D (upd P (I (0 : Int32)) (-1 : Int32)) (1 : Int32) o := ⟨f25, f14, f19, f26, G9, f24, f16, f21, f27⟩
  obtain ⟨cc29, qa29, qb29⟩ := Exa.cell f25
  obtain ⟨_, _, ⟨T29, L29, k29, n29⟩, -, X29, ⟨Lc29, hQ29, l29, y29, z29⟩, st29⟩ := X23.privateBack hx (y := mN8) hown (mvT hZ (hwk hw 96 rfl)) (mvT hZ (hwk hw 97 rfl)) (selP (y := mN8) (as := #[]) (mvT hZ (hwk hw 1 rfl)) (mvP hZ (hwk hw 98 rfl)) (mvT hZ (hwk hw 97 rfl)) (by decide)) (Cond.privateMethod_at (mvP hZ (hwk hw 98 rfl) (args := #[]))) (mvT hZ (hwk hw 99 rfl)) (by decide) (backOf (W := 0) (rmD10 l Z a0 hw [] a aI aT aP kI kT kP I D (upd P (I (0 : Int32)) (-1 : Int32)) o (I (1 : Int32)) (D (1 : Int32)) S h9 n0 Z9 hB HR28 (hI.1 _ i4_1) (hol_cut (n := (2 : Int32)) (n' := (1 : Int32)) hI (fun j hj h => by rcases hj with rfl | rfl | rfl | rfl <;> revert h <;> decide) (fun j hj h h2 => by rcases hj with rfl | rfl | rfl | rfl <;> revert h h2 <;> decide)) (hI.2.1 _ i4_1 (by decide))) hZ (hwk hw 99 rfl) (hwk hw 2 rfl) (by decide) (by decide)) (g := (mkF m 61 #[rv a, iv (0 : Int32), iv (I (1 : Int32)), .val (.double (D (1 : Int32))), .second] [(.double (D (1 : Int32))), (.int (I (1 : Int32))), (.int (0 : Int32)), (.ref a)])) rfl (by rw [hml]; rfl) (Steps.refl _) (a := a) (by rw [e23]; exact qa29) qb29 (argsL := [(.int (0 : Int32)), (.int (I (1 : Int32))), (.double (D (1 : Int32)))]) (rest := []) (lenOf pd__IID_V_e64 rfl) rfl (by show 2 * 0 + _ ≤ _; exact Nat.le_of_eq rfl) (hb hby dp23_21_61) (fun _ _ => ⟨rfl, e23, (by decide : 0 + 0 ≤ 0), (by decide : 0 + 0 ≤ 0)⟩)
  dsimp only [Pt.U, Pt.locs, Pt.cells, Pt.slots] at X29 l29 y29 z29 st29 hQ29
  subst l29 y29 z29
  obtain ⟨I29, D29, P29, rfl, N29q, K29, HQ29, inv29⟩ := hQ29
  have KK30 := KK11.trans K29 (allS (Or.inl (List.mem_of_getElem? (i := 0) rfl)) (allS (Or.inl (List.mem_of_getElem? (i := 1) rfl)) (allS (Or.inl (List.mem_of_getElem? (i := 2) rfl)) (allS (Or.inl (List.mem_of_getElem? (i := 3) rfl)) all0))))
  have Z29 : n0 ≤ T29.heap.size := Nat.le_trans Z9 K29.1
  obtain ⟨E31, FI31, FT31, FP31, FS31, FO31, VI31, VT31, VP31⟩ := id HQ29
  have N29 := Fr.app N9 N29q
  refine Goes.sts st29 ?_
  show Gs p e below s _ _ _ T29 m 64 #[rv a, iv (0 : Int32), iv (I (1 : Int32)), .val (.double (D (1 : Int32))), .second] []
  refine galoadN X29 hx (hb hby dp23_21_64) rfl rfl ?_
  obtain ⟨T32, X32, e32, st32⟩ := getF X29 hx hZ hown (host := "") (Or.inl (hwk hw 12 rfl)) Via.refl rfl FI31 (g := (mkF m 65 #[rv a, iv (0 : Int32), iv (I (1 : Int32)), .val (.double (D (1 : Int32))), .second] [(.ref a)])) rfl rfl (hb hby dp23_21_65)
  refine Goes.st st32 ?_
  refine giloadN X32 hx (hb hby dp23_21_68) rfl ?_
  show Gs p e below s _ _ _ T32 m 69 #[rv a, iv (0 : Int32), iv (I (1 : Int32)), .val (.double (D (1 : Int32))), .second] [(.int (0 : Int32)), (.ref aI)]
  obtain ⟨cl33, Ar33, qk33, Sz33, qz33, Ha33, Gf33⟩ := id VI31
  have in33 := inb_of (j := (0 : Int32)) Sz33 ⟨by decide, by decide⟩
  refine Goes.st (fun tg kg => X32.iaload hx (j := (0 : Int32)) (v := (.int (I29 (0 : Int32)))) (by rw [e32]; exact Ar33.1) (State.isArrayOf_alike hZ.alike Ar33.2.1) Ar33.2.2 in33 (Ha33.at in33 (get_lst i4_0)) (g := (mkF m 69 #[rv a, iv (0 : Int32), iv (I (1 : Int32)), .val (.double (D (1 : Int32))), .second] [(.int (0 : Int32)), (.ref aI)])) rfl rfl (hb hby dp23_21_69) tg kg) ?_
  refine giloadN X32 hx (hb hby dp23_21_70) rfl ?_
  show Gs p e below s _ _ _ T32 m 71 #[rv a, iv (0 : Int32), iv (I (1 : Int32)), .val (.double (D (1 : Int32))), .second] [(.int (I (1 : Int32))), (.int (I29 (0 : Int32)))]
  by_cases c34 : (I29 (0 : Int32)) = (I (1 : Int32))
  · refine gicmpNo X32 hx (hb hby dp23_21_71) (teq c34).2 ?_
    show Gs p e below s _ _ _ T32 m 74 #[rv a, iv (0 : Int32), iv (I (1 : Int32)), .val (.double (D (1 : Int32))), .second] []
    refine galoadN X32 hx (hb hby dp23_21_74) rfl rfl ?_
    refine giloadN X32 hx (hb hby dp23_21_75) rfl ?_
    refine giloadN X32 hx (hb hby dp23_21_76) rfl ?_
    refine gdloadN X32 hx (hb hby dp23_21_77) rfl ?_
    have HR35 : HR Z T29.heap a aI aT aP kI kT kP I29 D29 P29 (1 : Int32) o := ⟨E31, FI31, FT31, FP31, FS31, FO31, VI31, VT31, VP31⟩
    have ho36 : Hol (1 : Int32) 0 (I (1 : Int32)) S I29 P29 := by have q := hol_open (t := 0) inv29; rw [c34] at q; exact q
    obtain ⟨cc37, qa37, qb37⟩ := Exa.cell E31
    obtain ⟨_, _, ⟨T37, L37, k37, n37⟩, -, X37, ⟨Lc37, hQ37, l37, y37, z37⟩, st37⟩ := X32.privateBack hx (y := mN7) hown (mvT hZ (hwk hw 61 rfl)) (mvT hZ (hwk hw 62 rfl)) (selP (y := mN7) (as := #[]) (mvT hZ (hwk hw 1 rfl)) (mvP hZ (hwk hw 63 rfl)) (mvT hZ (hwk hw 62 rfl)) (by decide)) (Cond.privateMethod_at (mvP hZ (hwk hw 63 rfl) (args := #[]))) (mvT hZ (hwk hw 64 rfl)) (by decide) (backOf (W := 0) (rmU0 l Z a0 hw [] a aI aT aP kI kT kP I29 D29 P29 (1 : Int32) o (I (1 : Int32)) (D (1 : Int32)) S T29.heap n0 Z29 hB HR35 (hI.1 _ i4_1) ho36 (hI.2.1 _ i4_1 (by decide)) (by decide)) hZ (hwk hw 64 rfl) (hwk hw 2 rfl) (by decide) (by decide)) (g := (mkF m 78 #[rv a, iv (0 : Int32), iv (I (1 : Int32)), .val (.double (D (1 : Int32))), .second] [(.double (D (1 : Int32))), (.int (I (1 : Int32))), (.int (0 : Int32)), (.ref a)])) rfl (by rw [hml]; rfl) (Steps.refl _) (a := a) (by rw [e32]; exact qa37) qb37 (argsL := [(.int (0 : Int32)), (.int (I (1 : Int32))), (.double (D (1 : Int32)))]) (rest := []) (lenOf pd__IID_V_e64 rfl) rfl (by show 2 * 0 + _ ≤ _; exact Nat.le_of_eq rfl) (hb hby dp23_21_78) (fun _ _ => ⟨rfl, e32, (by decide : 0 + 0 ≤ 0), (by decide : 0 + 0 ≤ 0)⟩)
    dsimp only [Pt.U, Pt.locs, Pt.cells, Pt.slots] at X37 l37 y37 z37 st37 hQ37
    subst l37 y37 z37
    obtain ⟨I37, D37, P37, rfl, N37q, K37, HQ37, inv37⟩ := hQ37
    have KK38 := KK30.trans K37 (allS (Or.inl (List.mem_of_getElem? (i := 0) rfl)) (allS (Or.inl (List.mem_of_getElem? (i := 1) rfl)) (allS (Or.inl (List.mem_of_getElem? (i := 2) rfl)) (allS (Or.inl (List.mem_of_getElem? (i := 3) rfl)) all0))))
    have Z37 : n0 ≤ T37.heap.size := Nat.le_trans Z29 K37.1
    obtain ⟨E39, FI39, FT39, FP39, FS39, FO39, VI39, VT39, VP39⟩ := id HQ37
    have N37 := Fr.app N29 N37q
    refine Goes.sts st37 ?_
    show Gs p e below s _ _ _ T37 m 81 #[rv a, iv (0 : Int32), iv (I (1 : Int32)), .val (.double (D (1 : Int32))), .second] []
    refine ggoto X37 hx (pc' := 91) (hb hby dp23_21_81) (by decide) (by decide) ?_
    show Gs p e below s _ _ _ T37 m 91 #[rv a, iv (0 : Int32), iv (I (1 : Int32)), .val (.double (D (1 : Int32))), .second] []
    have HR40 : HR Z T37.heap a aI aT aP kI kT kP I37 D37 P37 (1 : Int32) o := ⟨E39, FI39, FT39, FP39, FS39, FO39, VI39, VT39, VP39⟩
    refine Goes.retV X37 hx hlk hret (hb hby dp23_21_91) ?_ (by decide) (by decide)
    exact ⟨I37, D37, P37, rfl, N37, KK38, HR40, inv37⟩
  · refine gicmpYes X32 hx (pc' := 91) (hb hby dp23_21_71) (feq c34).2 (by decide) (by decide) ?_
    show Gs p e below s _ _ _ T32 m 91 #[rv a, iv (0 : Int32), iv (I (1 : Int32)), .val (.double (D (1 : Int32))), .second] []
    have HR41 : HR Z T29.heap a aI aT aP kI kT kP I29 D29 P29 (1 : Int32) o := ⟨E31, FI31, FT31, FP31, FS31, FO31, VI31, VT31, VP31⟩
    refine Goes.retV X32 hx hlk hret (hb hby dp23_21_91) ?_ (by decide) (by decide)
    rw [e32]
    exact ⟨I29, D29, P29, rfl, N29, KK30, HR41, inv29⟩
theorem ef_P2 (m : MethodId) (x0 : Addr) : entryFrame m #[(.ref x0)] 2 = mkF m 0 #[rv x0, .unset] [] := by first | (simp [entryFrame, mkF, argsToLocals, Value.category]; done) | rfl
def QP2 (Z : State) (a aI aT aP : Addr) (kI kT kP : ClassId) (I : Int32 → Int32) (D : Int32 → UInt64) (P : Int32 → Int32) (o : Int32) (S : Int32 → Prop) (h0 : Heap) (n0 : Nat) (v : Option Value) (h : Heap) (L : List Loc) : Prop := ∃ (I1 : Int32 → Int32) (D1 : Int32 → UInt64) (P1 : Int32 → Int32) (o1 x1 : Int32), v = some (.int x1) ∧ Fr n0 L ∧ Keep h0 h [a, aI, aT, aP] ∧ HR Z h a aI aT aP kI kT kP I1 D1 P1 (1 : Int32) o1 ∧ Inv (1 : Int32) S I1 P1
set_option maxRecDepth 65536 in
set_option maxHeartbeats 40000000 in
theorem rmP2 (l : Launch) (Z : State) (a0 : Array Value) (hw : ∀ d ∈ tables_1, d.before a0 Z = true) (ws : List Jvm.Cond) (a aI aT aP : Addr) (kI kT kP : ClassId) (I : Int32 → Int32) (D : Int32 → UInt64) (P : Int32 → Int32) (o : Int32) (S : Int32 → Prop) (h0 : Heap) (n0 : Nat) (Z0 : n0 ≤ h0.size) (hB : HB n0 a aI aT aP) (hR : HR Z h0 a aI aT aP kI kT kP I D P (2 : Int32) o) (hI : Inv (2 : Int32) S I P) :
    MetFree l mN15 (head1 (Jvm.Cond.code mN15 prog_23_method_13_code 2 (some .int) :: ws) ({ frames := 4, cells := 0, slots := 0, locals := 62 } : Room)) (fun aa U => aa = #[(.ref a)] ∧ Z.Warmed39 U.vm ∧ U.heap = h0) (fun _ _ _ _ _ => True) (fun _ u1_ o_ u2_ => ∃ v_ l_, o_ = .returned v_ ∧ QP2 Z a aI aT aP kI kT kP I D P o S h0 n0 v_ u2_.heap l_ ∧ FrameEnd u1_ o_ u2_ l_ ({ frames := 4, cells := 0, slots := 0, locals := 62 } : Room).cells ({ frames := 4, cells := 0, slots := 0, locals := 62 } : Room).slots) := by
  refine MetFree.of_bodySF (plainFor_of_name pn_com_example_redoubt_redoubt_engine_IndexHeap) hisR ?_
  intro p e s m args below meth c s₁ Bd hml0 hP hK
  obtain ⟨rfl, hZ, hh⟩ := hP
  have hx := Bd.exec
  have hby := Bd.bytes
  have hlk := BodyLoose.notSynchronized Bd
  have hret := Bd.returns
  have hml : c.maxLocals = 2 := hml0
  have hown : s.vm.findClass "com/example/redoubt/redoubt/engine/IndexHeap" = some m.cls := findClass_of_methodNamed Bd.named
  have hnm := (name_of_methodNamed Bd.named Bd.method).1
  have X0 : Stand p l e ({ frames := 4, cells := 0, slots := 0, locals := 62 } : Room) s m #[(.ref a)] below meth c s₁ [] 0 0 := Stand.of_body Bd
  have e0 : s₁.heap = h0 := by rw [← hh, Bd.state]; rfl
  have N0 := Fr.nil n0
  refine Goes.st (s := s) (Q := QP2 Z a aI aT aP kI kT kP I D P o S h0 n0) (cs := ({ frames := 4, cells := 0, slots := 0, locals := 62 } : Room).cells) (ss := ({ frames := 4, cells := 0, slots := 0, locals := 62 } : Room).slots) (fun tg kg => castTop (ef_P2 m a) kg) ?_
  obtain ⟨la, lI, lT, lP, naI, naT, naP, nIT, nIP, nTP⟩ := id hB
  obtain ⟨E1, FI1, FT1, FP1, FS1, FO1, VI1, VT1, VP1⟩ := id hR
  have K0 : Keep h0 h0 [a, aI, aT, aP] := Keep.refl _ _
  show Gs p e below s _ _ _ s₁ m 0 #[rv a, .unset] []
  refine galoadN X0 hx (hb hby dp23_13_0) rfl rfl ?_
  have HR2 : HR Z h0 a aI aT aP kI kT kP I D P (2 : Int32) o := ⟨E1, FI1, FT1, FP1, FS1, FO1, VI1, VT1, VP1⟩
  obtain ⟨cq3, kq3, qa3, qb3, qc3⟩ := isOf hZ e0 E1
  obtain ⟨_, _, ⟨T3, L3, k3, n3⟩, -, X3, ⟨Lc3, hQ3, l3, y3, z3⟩, st3⟩ := X0.virtualBack hx (y := mN13) (z := mN13) hown (mvT hZ (hwk hw 87 rfl)) (mvT hZ (hwk hw 88 rfl)) (notFace_of_selects (args := #[]) (mvT hZ (hwk hw 90 rfl))) (mvT hZ (hwk hw 90 rfl)) (mvT hZ (hwk hw 89 rfl)) (by decide) (backOf (W := 0) (rmF2 l Z a0 hw [] a aI aT aP kI kT kP I D P o S h0 n0 Z0 hB HR2 hI) hZ (hwk hw 91 rfl) (hwk hw 2 rfl) (by decide) (by decide)) qa3 qc3 (g := (mkF m 1 #[rv a, .unset] [(.ref a)])) rfl (by rw [hml]; rfl) (Steps.refl _) (argsL := []) (rest := []) (lenOf pd___I_4f1 rfl) rfl (by show 2 * 0 + _ ≤ _; exact Nat.le_of_eq rfl) (hb hby dp23_13_1) (fun _ _ => ⟨rfl, e0, (by decide : 0 + 0 ≤ 0), (by decide : 0 + 0 ≤ 0)⟩)
  dsimp only [Pt.U, Pt.locs, Pt.cells, Pt.slots] at X3 l3 y3 z3 st3 hQ3
  subst l3 y3 z3
  obtain ⟨I3, D3, P3, o3, xr3, rfl, N3q, K3, HQ3, inv3, ho3⟩ := hQ3
  have KK4 := K0.trans K3 (allS (Or.inl (List.mem_of_getElem? (i := 0) rfl)) (allS (Or.inl (List.mem_of_getElem? (i := 1) rfl)) (allS (Or.inl (List.mem_of_getElem? (i := 2) rfl)) (allS (Or.inl (List.mem_of_getElem? (i := 3) rfl)) all0))))
  have Z3 : n0 ≤ T3.heap.size := Nat.le_trans Z0 K3.1
  obtain ⟨E5, FI5, FT5, FP5, FS5, FO5, VI5, VT5, VP5⟩ := id HQ3
  have N3 := Fr.app N0 N3q
  refine Goes.sts st3 ?_
  show Gs p e below s _ _ _ T3 m 4 #[rv a, .unset] [(.int xr3)]
  refine gistoreN X3 hx (hb hby dp23_13_4) trivial (l' := #[rv a, iv xr3]) rfl ?_
  refine galoadN X3 hx (hb hby dp23_13_5) rfl rfl ?_
  refine giconst X3 hx (hb hby dp23_13_6) ?_
  have HR6 : HR Z T3.heap a aI aT aP kI kT kP I3 D3 P3 (2 : Int32) o3 := ⟨E5, FI5, FT5, FP5, FS5, FO5, VI5, VT5, VP5⟩
  obtain ⟨cc7, qa7, qb7⟩ := Exa.cell E5
  obtain ⟨_, _, ⟨T7, L7, k7, n7⟩, -, X7, ⟨Lc7, hQ7, l7, y7, z7⟩, st7⟩ := X3.privateBack hx (y := mN14) hown (mvT hZ (hwk hw 100 rfl)) (mvT hZ (hwk hw 101 rfl)) (selP (y := mN14) (as := #[]) (mvT hZ (hwk hw 1 rfl)) (mvP hZ (hwk hw 102 rfl)) (mvT hZ (hwk hw 101 rfl)) (by decide)) (Cond.privateMethod_at (mvP hZ (hwk hw 102 rfl) (args := #[]))) (mvT hZ (hwk hw 103 rfl)) (by decide) (backOf (W := 0) (rmR2 l Z a0 hw [] a aI aT aP kI kT kP I3 D3 P3 o3 S T3.heap n0 Z3 hB HR6 inv3 ho3) hZ (hwk hw 103 rfl) (hwk hw 2 rfl) (by decide) (by decide)) (g := (mkF m 7 #[rv a, iv xr3] [(.int (0 : Int32)), (.ref a)])) rfl (by rw [hml]; rfl) (Steps.refl _) (a := a) qa7 qb7 (argsL := [(.int (0 : Int32))]) (rest := []) (lenOf pd__I_V_82d rfl) rfl (by show 2 * 0 + _ ≤ _; exact Nat.le_of_eq rfl) (hb hby dp23_13_7) (fun _ _ => ⟨rfl, rfl, (by decide : 0 + 0 ≤ 0), (by decide : 0 + 0 ≤ 0)⟩)
  dsimp only [Pt.U, Pt.locs, Pt.cells, Pt.slots] at X7 l7 y7 z7 st7 hQ7
  subst l7 y7 z7
  obtain ⟨I7, D7, P7, rfl, N7q, K7, HQ7, inv7⟩ := hQ7
  have KK8 := KK4.trans K7 (allS (Or.inl (List.mem_of_getElem? (i := 0) rfl)) (allS (Or.inl (List.mem_of_getElem? (i := 1) rfl)) (allS (Or.inl (List.mem_of_getElem? (i := 2) rfl)) (allS (Or.inl (List.mem_of_getElem? (i := 3) rfl)) all0))))
  have Z7 : n0 ≤ T7.heap.size := Nat.le_trans Z3 K7.1
  obtain ⟨E9, FI9, FT9, FP9, FS9, FO9, VI9, VT9, VP9⟩ := id HQ7
  have N7 := Fr.app N3 N7q
  refine Goes.sts st7 ?_
  show Gs p e below s _ _ _ T7 m 10 #[rv a, iv xr3] []
  refine giloadN X7 hx (hb hby dp23_13_10) rfl ?_
  show Gs p e below s _ _ _ T7 m 11 #[rv a, iv xr3] [(.int xr3)]
  have HR10 : HR Z T7.heap a aI aT aP kI kT kP I7 D7 P7 (1 : Int32) o3 := ⟨E9, FI9, FT9, FP9, FS9, FO9, VI9, VT9, VP9⟩
  refine Goes.retI X7 hx hlk hret (hb hby dp23_13_11) ?_ (by decide) (by decide)
  exact ⟨I7, D7, P7, o3, xr3, rfl, N7, KK8, HR10, inv7⟩
theorem ef_O3 (m : MethodId) (x0 : Addr) : entryFrame m #[(.ref x0)] 2 = mkF m 0 #[rv x0, .unset] [] := by first | (simp [entryFrame, mkF, argsToLocals, Value.category]; done) | rfl
def QO3 (Z : State) (a aI aT aP : Addr) (kI kT kP : ClassId) (I : Int32 → Int32) (D : Int32 → UInt64) (P : Int32 → Int32) (o : Int32) (S : Int32 → Prop) (h0 : Heap) (n0 : Nat) (v : Option Value) (h : Heap) (L : List Loc) : Prop := ∃ (I1 : Int32 → Int32) (D1 : Int32 → UInt64) (P1 : Int32 → Int32) (o1 : Int32), v = none ∧ Fr n0 L ∧ Keep h0 h [a, aI, aT, aP] ∧ HR Z h a aI aT aP kI kT kP I1 D1 P1 (3 : Int32) o1 ∧ Inv (3 : Int32) S I1 P1 ∧ ¬ o1 = (0 : Int32)
set_option maxRecDepth 65536 in
set_option maxHeartbeats 40000000 in
theorem rmO3 (l : Launch) (Z : State) (a0 : Array Value) (hw : ∀ d ∈ tables_1, d.before a0 Z = true) (ws : List Jvm.Cond) (a aI aT aP : Addr) (kI kT kP : ClassId) (I : Int32 → Int32) (D : Int32 → UInt64) (P : Int32 → Int32) (o : Int32) (S : Int32 → Prop) (h0 : Heap) (n0 : Nat) (Z0 : n0 ≤ h0.size) (hB : HB n0 a aI aT aP) (hR : HR Z h0 a aI aT aP kI kT kP I D P (3 : Int32) o) (hI : Inv (3 : Int32) S I P) :
    MetFree l mN12 (head1 (Jvm.Cond.code mN12 prog_23_method_19_code 2 none :: ws) ({ frames := 2, cells := 0, slots := 0, locals := 37 } : Room)) (fun aa U => aa = #[(.ref a)] ∧ Z.Warmed39 U.vm ∧ U.heap = h0) (fun _ _ _ _ _ => True) (fun _ u1_ o_ u2_ => ∃ v_ l_, o_ = .returned v_ ∧ QO3 Z a aI aT aP kI kT kP I D P o S h0 n0 v_ u2_.heap l_ ∧ FrameEnd u1_ o_ u2_ l_ ({ frames := 2, cells := 0, slots := 0, locals := 37 } : Room).cells ({ frames := 2, cells := 0, slots := 0, locals := 37 } : Room).slots) := by
  refine MetFree.of_bodySF (plainFor_of_name pn_com_example_redoubt_redoubt_engine_IndexHeap) hisR ?_
  intro p e s m args below meth c s₁ Bd hml0 hP hK
  obtain ⟨rfl, hZ, hh⟩ := hP
  have hx := Bd.exec
  have hby := Bd.bytes
  have hlk := BodyLoose.notSynchronized Bd
  have hret := Bd.returns
  have hml : c.maxLocals = 2 := hml0
  have hown : s.vm.findClass "com/example/redoubt/redoubt/engine/IndexHeap" = some m.cls := findClass_of_methodNamed Bd.named
  have hnm := (name_of_methodNamed Bd.named Bd.method).1
  have X0 : Stand p l e ({ frames := 2, cells := 0, slots := 0, locals := 37 } : Room) s m #[(.ref a)] below meth c s₁ [] 0 0 := Stand.of_body Bd
  have e0 : s₁.heap = h0 := by rw [← hh, Bd.state]; rfl
  have N0 := Fr.nil n0
  refine Goes.st (s := s) (Q := QO3 Z a aI aT aP kI kT kP I D P o S h0 n0) (cs := ({ frames := 2, cells := 0, slots := 0, locals := 37 } : Room).cells) (ss := ({ frames := 2, cells := 0, slots := 0, locals := 37 } : Room).slots) (fun tg kg => castTop (ef_O3 m a) kg) ?_
  obtain ⟨la, lI, lT, lP, naI, naT, naP, nIT, nIP, nTP⟩ := id hB
  obtain ⟨E1, FI1, FT1, FP1, FS1, FO1, VI1, VT1, VP1⟩ := id hR
  have K0 : Keep h0 h0 [a, aI, aT, aP] := Keep.refl _ _
  show Gs p e below s _ _ _ s₁ m 0 #[rv a, .unset] []
  refine galoadN X0 hx (hb hby dp23_19_0) rfl rfl ?_
  obtain ⟨T2, X2, e2, st2⟩ := getF X0 hx hZ hown (host := "") (Or.inl (hwk hw 9 rfl)) Via.refl e0 FO1 (g := (mkF m 1 #[rv a, .unset] [(.ref a)])) rfl rfl (hb hby dp23_19_1)
  refine Goes.st st2 ?_
  show Gs p e below s _ _ _ T2 m 4 #[rv a, .unset] [(.int o)]
  by_cases c3 : o = (0 : Int32)
  · refine gifNo X2 hx (hb hby dp23_19_4) ((if0 _ _).trans (teq c3).2) ?_
    show Gs p e below s _ _ _ T2 m 7 #[rv a, .unset] []
    refine galoadN X2 hx (hb hby dp23_19_7) rfl rfl ?_
    obtain ⟨T4, X4, e4, st4⟩ := getF X2 hx hZ hown (host := "") (Or.inl (hwk hw 29 rfl)) Via.refl e2 FS1 (g := (mkF m 8 #[rv a, .unset] [(.ref a)])) rfl rfl (hb hby dp23_19_8)
    refine Goes.st st4 ?_
    refine giconst X4 hx (hb hby dp23_19_11) ?_
    show Gs p e below s _ _ _ T4 m 12 #[rv a, .unset] [(.int (2 : Int32)), (.int (3 : Int32))]
    refine Goes.st (fun tg kg => XS.idiv X4.here hx rfl (hb hby dp23_19_12) rfl (by decide) kg) ?_
    show Gs p e below s _ _ _ T4 m 13 #[rv a, .unset] [(.int ((3 : Int32) / (2 : Int32)))]
    rw [show ((3 : Int32) / (2 : Int32)) = (1 : Int32) from by decide]
    show Gs p e below s _ _ _ T4 m 13 #[rv a, .unset] [(.int (1 : Int32))]
    refine giconst X4 hx (hb hby dp23_19_13) ?_
    refine gisub X4 hx (hb hby dp23_19_14) trivial ?_
    show Gs p e below s _ _ _ T4 m 15 #[rv a, .unset] [(.int ((1 : Int32) - (1 : Int32)))]
    rw [show ((1 : Int32) - (1 : Int32)) = (0 : Int32) from by decide]
    show Gs p e below s _ _ _ T4 m 15 #[rv a, .unset] [(.int (0 : Int32))]
    refine gistoreN X4 hx (hb hby dp23_19_15) trivial (l' := #[rv a, iv (0 : Int32)]) rfl ?_
    refine giloadN X4 hx (hb hby dp23_19_16) rfl ?_
    show Gs p e below s _ _ _ T4 m 17 #[rv a, iv (0 : Int32)] [(.int (0 : Int32))]
    refine gifNo X4 hx (hb hby dp23_19_17) (by decide) ?_
    show Gs p e below s _ _ _ T4 m 20 #[rv a, iv (0 : Int32)] []
    refine galoadN X4 hx (hb hby dp23_19_20) rfl rfl ?_
    refine giloadN X4 hx (hb hby dp23_19_21) rfl ?_
    refine galoadN X4 hx (hb hby dp23_19_22) rfl rfl ?_
    obtain ⟨T5, X5, e5, st5⟩ := getF X4 hx hZ hown (host := "") (Or.inl (hwk hw 12 rfl)) Via.refl e4 FI1 (g := (mkF m 23 #[rv a, iv (0 : Int32)] [(.ref a), (.int (0 : Int32)), (.ref a)])) rfl rfl (hb hby dp23_19_23)
    refine Goes.st st5 ?_
    refine giloadN X5 hx (hb hby dp23_19_26) rfl ?_
    show Gs p e below s _ _ _ T5 m 27 #[rv a, iv (0 : Int32)] [(.int (0 : Int32)), (.ref aI), (.int (0 : Int32)), (.ref a)]
    obtain ⟨cl6, Ar6, qk6, Sz6, qz6, Ha6, Gf6⟩ := id VI1
    have in6 := inb_of (j := (0 : Int32)) Sz6 ⟨by decide, by decide⟩
    refine Goes.st (fun tg kg => X5.iaload hx (j := (0 : Int32)) (v := (.int (I (0 : Int32)))) (by rw [e5]; exact Ar6.1) (State.isArrayOf_alike hZ.alike Ar6.2.1) Ar6.2.2 in6 (Ha6.at in6 (get_lst i4_0)) (g := (mkF m 27 #[rv a, iv (0 : Int32)] [(.int (0 : Int32)), (.ref aI), (.int (0 : Int32)), (.ref a)])) rfl rfl (hb hby dp23_19_27) tg kg) ?_
    refine galoadN X5 hx (hb hby dp23_19_28) rfl rfl ?_
    obtain ⟨T7, X7, e7, st7⟩ := getF X5 hx hZ hown (host := "") (Or.inl (hwk hw 15 rfl)) Via.refl e5 FT1 (g := (mkF m 29 #[rv a, iv (0 : Int32)] [(.ref a), (.int (I (0 : Int32))), (.int (0 : Int32)), (.ref a)])) rfl rfl (hb hby dp23_19_29)
    refine Goes.st st7 ?_
    refine giloadN X7 hx (hb hby dp23_19_32) rfl ?_
    show Gs p e below s _ _ _ T7 m 33 #[rv a, iv (0 : Int32)] [(.int (0 : Int32)), (.ref aT), (.int (I (0 : Int32))), (.int (0 : Int32)), (.ref a)]
    obtain ⟨cl8, Ar8, qk8, Sz8, qz8, Ha8, Gf8⟩ := id VT1
    have in8 := inb_of (j := (0 : Int32)) Sz8 ⟨by decide, by decide⟩
    refine Goes.st (fun tg kg => X7.daload hx (j := (0 : Int32)) (v := (.double (D (0 : Int32)))) (by rw [e7]; exact Ar8.1) (State.isArrayOf_alike hZ.alike Ar8.2.1) Ar8.2.2 in8 (Ha8.at in8 (get_dls i4_0)) (g := (mkF m 33 #[rv a, iv (0 : Int32)] [(.int (0 : Int32)), (.ref aT), (.int (I (0 : Int32))), (.int (0 : Int32)), (.ref a)])) rfl rfl (hb hby dp23_19_33) tg kg) ?_
    have HR9 : HR Z h0 a aI aT aP kI kT kP I D P (3 : Int32) o := ⟨E1, FI1, FT1, FP1, FS1, FO1, VI1, VT1, VP1⟩
    obtain ⟨cc10, qa10, qb10⟩ := Exa.cell E1
    obtain ⟨_, _, ⟨T10, L10, k10, n10⟩, -, X10, ⟨Lc10, hQ10, l10, y10, z10⟩, st10⟩ := X7.privateBack hx (y := mN8) hown (mvT hZ (hwk hw 96 rfl)) (mvT hZ (hwk hw 97 rfl)) (selP (y := mN8) (as := #[]) (mvT hZ (hwk hw 1 rfl)) (mvP hZ (hwk hw 98 rfl)) (mvT hZ (hwk hw 97 rfl)) (by decide)) (Cond.privateMethod_at (mvP hZ (hwk hw 98 rfl) (args := #[]))) (mvT hZ (hwk hw 99 rfl)) (by decide) (backOf (W := 0) (rmD30 l Z a0 hw [] a aI aT aP kI kT kP I D P o (I (0 : Int32)) (D (0 : Int32)) S h0 n0 Z0 hB HR9 (hI.1 _ i4_0) (hol_open hI) (hI.2.1 _ i4_0 (by decide))) hZ (hwk hw 99 rfl) (hwk hw 2 rfl) (by decide) (by decide)) (g := (mkF m 34 #[rv a, iv (0 : Int32)] [(.double (D (0 : Int32))), (.int (I (0 : Int32))), (.int (0 : Int32)), (.ref a)])) rfl (by rw [hml]; rfl) (Steps.refl _) (a := a) (by rw [e7]; exact qa10) qb10 (argsL := [(.int (0 : Int32)), (.int (I (0 : Int32))), (.double (D (0 : Int32)))]) (rest := []) (lenOf pd__IID_V_e64 rfl) rfl (by show 2 * 0 + _ ≤ _; exact Nat.le_of_eq rfl) (hb hby dp23_19_34) (fun _ _ => ⟨rfl, e7, (by decide : 0 + 0 ≤ 0), (by decide : 0 + 0 ≤ 0)⟩)
    dsimp only [Pt.U, Pt.locs, Pt.cells, Pt.slots] at X10 l10 y10 z10 st10 hQ10
    subst l10 y10 z10
    obtain ⟨I10, D10, P10, rfl, N10q, K10, HQ10, inv10⟩ := hQ10
    have KK11 := K0.trans K10 (allS (Or.inl (List.mem_of_getElem? (i := 0) rfl)) (allS (Or.inl (List.mem_of_getElem? (i := 1) rfl)) (allS (Or.inl (List.mem_of_getElem? (i := 2) rfl)) (allS (Or.inl (List.mem_of_getElem? (i := 3) rfl)) all0))))
    have Z10 : n0 ≤ T10.heap.size := Nat.le_trans Z0 K10.1
    obtain ⟨E12, FI12, FT12, FP12, FS12, FO12, VI12, VT12, VP12⟩ := id HQ10
    have N10 := Fr.app N0 N10q
    refine Goes.sts st10 ?_
    show Gs p e below s _ _ _ T10 m 37 #[rv a, iv (0 : Int32)] []
    refine Goes.st (fun tg kg => XS.iinc X10.here hx rfl (hb hby dp23_19_37) rfl (l' := #[rv a, iv (-1 : Int32)]) rfl kg) ?_
    show Gs p e below s _ _ _ T10 m 40 #[rv a, iv (-1 : Int32)] []
    refine ggoto X10 hx (pc' := 16) (hb hby dp23_19_40) (by decide) (by decide) ?_
    show Gs p e below s _ _ _ T10 m 16 #[rv a, iv (-1 : Int32)] []
    refine giloadN X10 hx (hb hby dp23_19_16) rfl ?_
    show Gs p e below s _ _ _ T10 m 17 #[rv a, iv (-1 : Int32)] [(.int (-1 : Int32))]
    refine gifYes X10 hx (pc' := 43) (hb hby dp23_19_17) (by decide) (by decide) (by decide) ?_
    show Gs p e below s _ _ _ T10 m 43 #[rv a, iv (-1 : Int32)] []
    refine galoadN X10 hx (hb hby dp23_19_43) rfl rfl ?_
    refine giconst X10 hx (hb hby dp23_19_44) ?_
    obtain ⟨T13, h13, X13, e13, W13, st13⟩ := putFN X10 hx hZ hown (hwk hw 9 rfl) Via.refl rfl FO12 E12 (Or.inl (hwk hw 10 rfl)) (hwk hw 1 rfl) (ty := .boolean) (v' := (.int (1 : Int32))) (by decide) rfl (by decide) (g := (mkF m 45 #[rv a, iv (-1 : Int32)] [(.int (1 : Int32)), (.ref a)])) rfl rfl (hb hby dp23_19_45)
    have N13 := Fr.snoc X13 N10 la
    have G13 := FO12.same W13
    refine Goes.st st13 ?_
    have KK14 := KK11.wr W13 (Or.inl (List.mem_of_getElem? (i := 0) rfl))
    have Z13 : n0 ≤ h13.size := by have := W13.size; have := Z10; omega
    show Gs p e below s _ _ _ T13 m 48 #[rv a, iv (-1 : Int32)] []
    have f15 := (E12.wr W13)
    have f16 := (FI12.other W13 (Or.inr (slot_ne (Or.inr (hwk hw 13 rfl)) (Or.inl (hwk hw 10 rfl)) (by decide) (t := (.array .int)) (t' := .boolean) (by decide) (by decide))))
    have f17 := (FT12.other W13 (Or.inr (slot_ne (Or.inr (hwk hw 16 rfl)) (Or.inl (hwk hw 10 rfl)) (by decide) (t := (.array .double)) (t' := .boolean) (by decide) (by decide))))
    have f18 := (FP12.other W13 (Or.inr (slot_ne (Or.inr (hwk hw 18 rfl)) (Or.inl (hwk hw 10 rfl)) (by decide) (t := (.array .int)) (t' := .boolean) (by decide) (by decide))))
    have f19 := (FS12.other W13 (Or.inr (slot_ne (Or.inl (hwk hw 30 rfl)) (Or.inl (hwk hw 10 rfl)) (by decide) (t := .int) (t' := .boolean) (by decide) (by decide))))
    have f20 := (VI12.other W13 (Ne.symm naI))
    have f21 := (VT12.other W13 (Ne.symm naT))
    have f22 := (VP12.other W13 (Ne.symm naP))
    have HR23 : HR Z h13 a aI aT aP kI kT kP I10 D10 P10 (3 : Int32) (1 : Int32) := ⟨f15, f16, f17, f18, f19, G13, f20, f21, f22⟩
    refine Goes.retV X13 hx hlk hret (hb hby dp23_19_48) ?_ (by decide) (by decide)
    rw [e13]
    exact ⟨I10, D10, P10, (1 : Int32), rfl, N13, KK14, HR23, inv10, (by decide)⟩
  · refine gifYes X2 hx (pc' := 48) (hb hby dp23_19_4) ((if0 _ _).trans (feq c3).2) (by decide) (by decide) ?_
    show Gs p e below s _ _ _ T2 m 48 #[rv a, .unset] []
    have HR24 : HR Z h0 a aI aT aP kI kT kP I D P (3 : Int32) o := ⟨E1, FI1, FT1, FP1, FS1, FO1, VI1, VT1, VP1⟩
    refine Goes.retV X2 hx hlk hret (hb hby dp23_19_48) ?_ (by decide) (by decide)
    rw [e2]
    exact ⟨I, D, P, o, rfl, N0, K0, HR24, hI, c3⟩
theorem ef_F3 (m : MethodId) (x0 : Addr) : entryFrame m #[(.ref x0)] 1 = mkF m 0 #[rv x0] [] := by first | (simp [entryFrame, mkF, argsToLocals, Value.category]; done) | rfl
def QF3 (Z : State) (a aI aT aP : Addr) (kI kT kP : ClassId) (I : Int32 → Int32) (D : Int32 → UInt64) (P : Int32 → Int32) (o : Int32) (S : Int32 → Prop) (h0 : Heap) (n0 : Nat) (v : Option Value) (h : Heap) (L : List Loc) : Prop := ∃ (I1 : Int32 → Int32) (D1 : Int32 → UInt64) (P1 : Int32 → Int32) (o1 x1 : Int32), v = some (.int x1) ∧ Fr n0 L ∧ Keep h0 h [a, aI, aT, aP] ∧ HR Z h a aI aT aP kI kT kP I1 D1 P1 (3 : Int32) o1 ∧ Inv (3 : Int32) S I1 P1 ∧ ¬ o1 = (0 : Int32)
set_option maxRecDepth 65536 in
set_option maxHeartbeats 40000000 in
theorem rmF3 (l : Launch) (Z : State) (a0 : Array Value) (hw : ∀ d ∈ tables_1, d.before a0 Z = true) (ws : List Jvm.Cond) (a aI aT aP : Addr) (kI kT kP : ClassId) (I : Int32 → Int32) (D : Int32 → UInt64) (P : Int32 → Int32) (o : Int32) (S : Int32 → Prop) (h0 : Heap) (n0 : Nat) (Z0 : n0 ≤ h0.size) (hB : HB n0 a aI aT aP) (hR : HR Z h0 a aI aT aP kI kT kP I D P (3 : Int32) o) (hI : Inv (3 : Int32) S I P) :
    MetFree l mN13 (head1 (Jvm.Cond.code mN13 prog_23_method_8_code 1 (some .int) :: ws) ({ frames := 3, cells := 0, slots := 0, locals := 50 } : Room)) (fun aa U => aa = #[(.ref a)] ∧ Z.Warmed39 U.vm ∧ U.heap = h0) (fun _ _ _ _ _ => True) (fun _ u1_ o_ u2_ => ∃ v_ l_, o_ = .returned v_ ∧ QF3 Z a aI aT aP kI kT kP I D P o S h0 n0 v_ u2_.heap l_ ∧ FrameEnd u1_ o_ u2_ l_ ({ frames := 3, cells := 0, slots := 0, locals := 50 } : Room).cells ({ frames := 3, cells := 0, slots := 0, locals := 50 } : Room).slots) := by
  refine MetFree.of_bodySF (plainFor_of_name pn_com_example_redoubt_redoubt_engine_IndexHeap) hisR ?_
  intro p e s m args below meth c s₁ Bd hml0 hP hK
  obtain ⟨rfl, hZ, hh⟩ := hP
  have hx := Bd.exec
  have hby := Bd.bytes
  have hlk := BodyLoose.notSynchronized Bd
  have hret := Bd.returns
  have hml : c.maxLocals = 1 := hml0
  have hown : s.vm.findClass "com/example/redoubt/redoubt/engine/IndexHeap" = some m.cls := findClass_of_methodNamed Bd.named
  have hnm := (name_of_methodNamed Bd.named Bd.method).1
  have X0 : Stand p l e ({ frames := 3, cells := 0, slots := 0, locals := 50 } : Room) s m #[(.ref a)] below meth c s₁ [] 0 0 := Stand.of_body Bd
  have e0 : s₁.heap = h0 := by rw [← hh, Bd.state]; rfl
  have N0 := Fr.nil n0
  refine Goes.st (s := s) (Q := QF3 Z a aI aT aP kI kT kP I D P o S h0 n0) (cs := ({ frames := 3, cells := 0, slots := 0, locals := 50 } : Room).cells) (ss := ({ frames := 3, cells := 0, slots := 0, locals := 50 } : Room).slots) (fun tg kg => castTop (ef_F3 m a) kg) ?_
  obtain ⟨la, lI, lT, lP, naI, naT, naP, nIT, nIP, nTP⟩ := id hB
  obtain ⟨E1, FI1, FT1, FP1, FS1, FO1, VI1, VT1, VP1⟩ := id hR
  have K0 : Keep h0 h0 [a, aI, aT, aP] := Keep.refl _ _
  show Gs p e below s _ _ _ s₁ m 0 #[rv a] []
  refine galoadN X0 hx (hb hby dp23_8_0) rfl rfl ?_
  obtain ⟨T2, X2, e2, st2⟩ := getF X0 hx hZ hown (host := "") (Or.inl (hwk hw 29 rfl)) Via.refl e0 FS1 (g := (mkF m 1 #[rv a] [(.ref a)])) rfl rfl (hb hby dp23_8_1)
  refine Goes.st st2 ?_
  show Gs p e below s _ _ _ T2 m 4 #[rv a] [(.int (3 : Int32))]
  refine gifYes X2 hx (pc' := 17) (hb hby dp23_8_4) (by decide) (by decide) (by decide) ?_
  show Gs p e below s _ _ _ T2 m 17 #[rv a] []
  refine galoadN X2 hx (hb hby dp23_8_17) rfl rfl ?_
  have HR3 : HR Z h0 a aI aT aP kI kT kP I D P (3 : Int32) o := ⟨E1, FI1, FT1, FP1, FS1, FO1, VI1, VT1, VP1⟩
  obtain ⟨cc4, qa4, qb4⟩ := Exa.cell E1
  obtain ⟨_, _, ⟨T4, L4, k4, n4⟩, -, X4, ⟨Lc4, hQ4, l4, y4, z4⟩, st4⟩ := X2.privateBack hx (y := mN12) hown (mvT hZ (hwk hw 92 rfl)) (mvT hZ (hwk hw 93 rfl)) (selP (y := mN12) (as := #[]) (mvT hZ (hwk hw 1 rfl)) (mvP hZ (hwk hw 94 rfl)) (mvT hZ (hwk hw 93 rfl)) (by decide)) (Cond.privateMethod_at (mvP hZ (hwk hw 94 rfl) (args := #[]))) (mvT hZ (hwk hw 95 rfl)) (by decide) (backOf (W := 0) (rmO3 l Z a0 hw [] a aI aT aP kI kT kP I D P o S h0 n0 Z0 hB HR3 hI) hZ (hwk hw 95 rfl) (hwk hw 2 rfl) (by decide) (by decide)) (g := (mkF m 18 #[rv a] [(.ref a)])) rfl (by rw [hml]; rfl) (Steps.refl _) (a := a) (by rw [e2]; exact qa4) qb4 (argsL := []) (rest := []) (lenOf pd___V_566 rfl) rfl (by show 2 * 0 + _ ≤ _; exact Nat.le_of_eq rfl) (hb hby dp23_8_18) (fun _ _ => ⟨rfl, e2, (by decide : 0 + 0 ≤ 0), (by decide : 0 + 0 ≤ 0)⟩)
  dsimp only [Pt.U, Pt.locs, Pt.cells, Pt.slots] at X4 l4 y4 z4 st4 hQ4
  subst l4 y4 z4
  obtain ⟨I4, D4, P4, o4, rfl, N4q, K4, HQ4, inv4, ho4⟩ := hQ4
  have KK5 := K0.trans K4 (allS (Or.inl (List.mem_of_getElem? (i := 0) rfl)) (allS (Or.inl (List.mem_of_getElem? (i := 1) rfl)) (allS (Or.inl (List.mem_of_getElem? (i := 2) rfl)) (allS (Or.inl (List.mem_of_getElem? (i := 3) rfl)) all0))))
  have Z4 : n0 ≤ T4.heap.size := Nat.le_trans Z0 K4.1
  obtain ⟨E6, FI6, FT6, FP6, FS6, FO6, VI6, VT6, VP6⟩ := id HQ4
  have N4 := Fr.app N0 N4q
  refine Goes.sts st4 ?_
  show Gs p e below s _ _ _ T4 m 21 #[rv a] []
  refine galoadN X4 hx (hb hby dp23_8_21) rfl rfl ?_
  obtain ⟨T7, X7, e7, st7⟩ := getF X4 hx hZ hown (host := "") (Or.inl (hwk hw 12 rfl)) Via.refl rfl FI6 (g := (mkF m 22 #[rv a] [(.ref a)])) rfl rfl (hb hby dp23_8_22)
  refine Goes.st st7 ?_
  refine giconst X7 hx (hb hby dp23_8_25) ?_
  show Gs p e below s _ _ _ T7 m 26 #[rv a] [(.int (0 : Int32)), (.ref aI)]
  obtain ⟨cl8, Ar8, qk8, Sz8, qz8, Ha8, Gf8⟩ := id VI6
  have in8 := inb_of (j := (0 : Int32)) Sz8 ⟨by decide, by decide⟩
  refine Goes.st (fun tg kg => X7.iaload hx (j := (0 : Int32)) (v := (.int (I4 (0 : Int32)))) (by rw [e7]; exact Ar8.1) (State.isArrayOf_alike hZ.alike Ar8.2.1) Ar8.2.2 in8 (Ha8.at in8 (get_lst i4_0)) (g := (mkF m 26 #[rv a] [(.int (0 : Int32)), (.ref aI)])) rfl rfl (hb hby dp23_8_26) tg kg) ?_
  show Gs p e below s _ _ _ T7 m 27 #[rv a] [(.int (I4 (0 : Int32)))]
  have HR9 : HR Z T4.heap a aI aT aP kI kT kP I4 D4 P4 (3 : Int32) o4 := ⟨E6, FI6, FT6, FP6, FS6, FO6, VI6, VT6, VP6⟩
  refine Goes.retI X7 hx hlk hret (hb hby dp23_8_27) ?_ (by decide) (by decide)
  rw [e7]
  exact ⟨I4, D4, P4, o4, (I4 (0 : Int32)), rfl, N4, KK5, HR9, inv4, ho4⟩
theorem ef_R3 (m : MethodId) (x0 : Addr) (x1 : Int32) : entryFrame m #[(.ref x0), (.int x1)] 5 = mkF m 0 #[rv x0, iv x1, .unset, .unset, .unset] [] := by first | (simp [entryFrame, mkF, argsToLocals, Value.category]; done) | rfl
def QR3 (Z : State) (a aI aT aP : Addr) (kI kT kP : ClassId) (I : Int32 → Int32) (D : Int32 → UInt64) (P : Int32 → Int32) (o : Int32) (S : Int32 → Prop) (h0 : Heap) (n0 : Nat) (v : Option Value) (h : Heap) (L : List Loc) : Prop := ∃ (I1 : Int32 → Int32) (D1 : Int32 → UInt64) (P1 : Int32 → Int32), v = none ∧ Fr n0 L ∧ Keep h0 h [a, aI, aT, aP] ∧ HR Z h a aI aT aP kI kT kP I1 D1 P1 (2 : Int32) o ∧ Inv (2 : Int32) S I1 P1
set_option maxRecDepth 65536 in
set_option maxHeartbeats 40000000 in
theorem rmR3 (l : Launch) (Z : State) (a0 : Array Value) (hw : ∀ d ∈ tables_1, d.before a0 Z = true) (ws : List Jvm.Cond) (a aI aT aP : Addr) (kI kT kP : ClassId) (I : Int32 → Int32) (D : Int32 → UInt64) (P : Int32 → Int32) (o : Int32) (S : Int32 → Prop) (h0 : Heap) (n0 : Nat) (Z0 : n0 ≤ h0.size) (hB : HB n0 a aI aT aP) (hR : HR Z h0 a aI aT aP kI kT kP I D P (3 : Int32) o) (hI : Inv (3 : Int32) S I P) (ho : ¬ o = (0 : Int32)) :
    MetFree l mN14 (head1 (Jvm.Cond.code mN14 prog_23_method_21_code 5 none :: ws) ({ frames := 2, cells := 0, slots := 0, locals := 37 } : Room)) (fun aa U => aa = #[(.ref a), (.int (0 : Int32))] ∧ Z.Warmed39 U.vm ∧ U.heap = h0) (fun _ _ _ _ _ => True) (fun _ u1_ o_ u2_ => ∃ v_ l_, o_ = .returned v_ ∧ QR3 Z a aI aT aP kI kT kP I D P o S h0 n0 v_ u2_.heap l_ ∧ FrameEnd u1_ o_ u2_ l_ ({ frames := 2, cells := 0, slots := 0, locals := 37 } : Room).cells ({ frames := 2, cells := 0, slots := 0, locals := 37 } : Room).slots) := by
  refine MetFree.of_bodySF (plainFor_of_name pn_com_example_redoubt_redoubt_engine_IndexHeap) hisR ?_
  intro p e s m args below meth c s₁ Bd hml0 hP hK
  obtain ⟨rfl, hZ, hh⟩ := hP
  have hx := Bd.exec
  have hby := Bd.bytes
  have hlk := BodyLoose.notSynchronized Bd
  have hret := Bd.returns
  have hml : c.maxLocals = 5 := hml0
  have hown : s.vm.findClass "com/example/redoubt/redoubt/engine/IndexHeap" = some m.cls := findClass_of_methodNamed Bd.named
  have hnm := (name_of_methodNamed Bd.named Bd.method).1
  have X0 : Stand p l e ({ frames := 2, cells := 0, slots := 0, locals := 37 } : Room) s m #[(.ref a), (.int (0 : Int32))] below meth c s₁ [] 0 0 := Stand.of_body Bd
  have e0 : s₁.heap = h0 := by rw [← hh, Bd.state]; rfl
  have N0 := Fr.nil n0
  refine Goes.st (s := s) (Q := QR3 Z a aI aT aP kI kT kP I D P o S h0 n0) (cs := ({ frames := 2, cells := 0, slots := 0, locals := 37 } : Room).cells) (ss := ({ frames := 2, cells := 0, slots := 0, locals := 37 } : Room).slots) (fun tg kg => castTop (ef_R3 m a (0 : Int32)) kg) ?_
  obtain ⟨la, lI, lT, lP, naI, naT, naP, nIT, nIP, nTP⟩ := id hB
  obtain ⟨E1, FI1, FT1, FP1, FS1, FO1, VI1, VT1, VP1⟩ := id hR
  have K0 : Keep h0 h0 [a, aI, aT, aP] := Keep.refl _ _
  show Gs p e below s _ _ _ s₁ m 0 #[rv a, iv (0 : Int32), .unset, .unset, .unset] []
  refine galoadN X0 hx (hb hby dp23_21_0) rfl rfl ?_
  obtain ⟨T2, X2, e2, st2⟩ := getF X0 hx hZ hown (host := "") (Or.inl (hwk hw 17 rfl)) Via.refl e0 FP1 (g := (mkF m 1 #[rv a, iv (0 : Int32), .unset, .unset, .unset] [(.ref a)])) rfl rfl (hb hby dp23_21_1)
  refine Goes.st st2 ?_
  refine galoadN X2 hx (hb hby dp23_21_4) rfl rfl ?_
  obtain ⟨T3, X3, e3, st3⟩ := getF X2 hx hZ hown (host := "") (Or.inl (hwk hw 12 rfl)) Via.refl e2 FI1 (g := (mkF m 5 #[rv a, iv (0 : Int32), .unset, .unset, .unset] [(.ref a), (.ref aP)])) rfl rfl (hb hby dp23_21_5)
  refine Goes.st st3 ?_
  refine giloadN X3 hx (hb hby dp23_21_8) rfl ?_
  show Gs p e below s _ _ _ T3 m 9 #[rv a, iv (0 : Int32), .unset, .unset, .unset] [(.int (0 : Int32)), (.ref aI), (.ref aP)]
  obtain ⟨cl4, Ar4, qk4, Sz4, qz4, Ha4, Gf4⟩ := id VI1
  have in4 := inb_of (j := (0 : Int32)) Sz4 ⟨by decide, by decide⟩
  refine Goes.st (fun tg kg => X3.iaload hx (j := (0 : Int32)) (v := (.int (I (0 : Int32)))) (by rw [e3]; exact Ar4.1) (State.isArrayOf_alike hZ.alike Ar4.2.1) Ar4.2.2 in4 (Ha4.at in4 (get_lst i4_0)) (g := (mkF m 9 #[rv a, iv (0 : Int32), .unset, .unset, .unset] [(.int (0 : Int32)), (.ref aI), (.ref aP)])) rfl rfl (hb hby dp23_21_9) tg kg) ?_
  refine giconst X3 hx (hb hby dp23_21_10) ?_
  show Gs p e below s _ _ _ T3 m 11 #[rv a, iv (0 : Int32), .unset, .unset, .unset] [(.int (-1 : Int32)), (.int (I (0 : Int32))), (.ref aP)]
  obtain ⟨cl5, Ar5, qk5, Sz5, qz5, Ha5, Gf5⟩ := id VP1
  obtain ⟨T5, h5, X5, e5, W5, st5⟩ := stI X3 hx hZ e3 Ar5 (inb_of Sz5 (own_in (hI.1 _ i4_0))) (g := (mkF m 11 #[rv a, iv (0 : Int32), .unset, .unset, .unset] [(.int (-1 : Int32)), (.int (I (0 : Int32))), (.ref aP)])) rfl rfl (hb hby dp23_21_11)
  have N5 := Fr.snoc X5 N0 lP
  have V5 : Arv Z h5 aP kP .int (4 : Int32) (lst (upd P (I (0 : Int32)) (-1 : Int32))) (.int (0 : Int32)) := setI Ar5 qk5 Sz5 qz5 Ha5 Gf5 W5 (hI.1 _ i4_0)
  refine Goes.st st5 ?_
  have KK6 := K0.wr W5 (Or.inl (List.mem_of_getElem? (i := 3) rfl))
  have Z5 : n0 ≤ h5.size := by have := W5.size; have := Z0; omega
  show Gs p e below s _ _ _ T5 m 12 #[rv a, iv (0 : Int32), .unset, .unset, .unset] []
  refine galoadN X5 hx (hb hby dp23_21_12) rfl rfl ?_
  refine gdup X5 hx (hb hby dp23_21_13) trivial rfl ?_
  have f8 := (FS1.other W5 (Or.inl naP))
  obtain ⟨T7, X7, e7, st7⟩ := getF X5 hx hZ hown (host := "") (Or.inl (hwk hw 29 rfl)) Via.refl e5 f8 (g := (mkF m 14 #[rv a, iv (0 : Int32), .unset, .unset, .unset] [(.ref a), (.ref a)])) rfl rfl (hb hby dp23_21_14)
  refine Goes.st st7 ?_
  refine giconst X7 hx (hb hby dp23_21_17) ?_
  refine gisub X7 hx (hb hby dp23_21_18) trivial ?_
  show Gs p e below s _ _ _ T7 m 19 #[rv a, iv (0 : Int32), .unset, .unset, .unset] [(.int ((3 : Int32) - (1 : Int32))), (.ref a)]
  rw [show ((3 : Int32) - (1 : Int32)) = (2 : Int32) from by decide]
  show Gs p e below s _ _ _ T7 m 19 #[rv a, iv (0 : Int32), .unset, .unset, .unset] [(.int (2 : Int32)), (.ref a)]
  have f10 := (E1.wr W5)
  obtain ⟨T9, h9, X9, e9, W9, st9⟩ := putF X7 hx hZ hown (host := "") (Or.inl (hwk hw 29 rfl)) Via.refl e7 f8 f10 (Or.inl (hwk hw 30 rfl)) (hwk hw 1 rfl) (ty := .int) (by decide) rfl rfl (g := (mkF m 19 #[rv a, iv (0 : Int32), .unset, .unset, .unset] [(.int (2 : Int32)), (.ref a)])) rfl rfl (hb hby dp23_21_19)
  have N9 := Fr.snoc X9 N5 la
  have G9 := f8.same W9
  refine Goes.st st9 ?_
  have KK11 := KK6.wr W9 (Or.inl (List.mem_of_getElem? (i := 0) rfl))
  have Z9 : n0 ≤ h9.size := by have := W9.size; have := Z5; omega
  show Gs p e below s _ _ _ T9 m 22 #[rv a, iv (0 : Int32), .unset, .unset, .unset] []
  refine giloadN X9 hx (hb hby dp23_21_22) rfl ?_
  refine galoadN X9 hx (hb hby dp23_21_23) rfl rfl ?_
  obtain ⟨T12, X12, e12, st12⟩ := getF X9 hx hZ hown (host := "") (Or.inl (hwk hw 29 rfl)) Via.refl e9 G9 (g := (mkF m 24 #[rv a, iv (0 : Int32), .unset, .unset, .unset] [(.ref a), (.int (0 : Int32))])) rfl rfl (hb hby dp23_21_24)
  refine Goes.st st12 ?_
  show Gs p e below s _ _ _ T12 m 27 #[rv a, iv (0 : Int32), .unset, .unset, .unset] [(.int (2 : Int32)), (.int (0 : Int32))]
  refine gicmpNo X12 hx (hb hby dp23_21_27) (by decide) ?_
  show Gs p e below s _ _ _ T12 m 30 #[rv a, iv (0 : Int32), .unset, .unset, .unset] []
  refine galoadN X12 hx (hb hby dp23_21_30) rfl rfl ?_
  have f14 := ((FI1.other W5 (Or.inl naP)).other W9 (Or.inr (slot_ne (Or.inr (hwk hw 13 rfl)) (Or.inl (hwk hw 30 rfl)) (by decide) (t := (.array .int)) (t' := .int) (by decide) (by decide))))
  obtain ⟨T13, X13, e13, st13⟩ := getF X12 hx hZ hown (host := "") (Or.inl (hwk hw 12 rfl)) Via.refl e12 f14 (g := (mkF m 31 #[rv a, iv (0 : Int32), .unset, .unset, .unset] [(.ref a)])) rfl rfl (hb hby dp23_21_31)
  refine Goes.st st13 ?_
  refine galoadN X13 hx (hb hby dp23_21_34) rfl rfl ?_
  obtain ⟨T15, X15, e15, st15⟩ := getF X13 hx hZ hown (host := "") (Or.inl (hwk hw 29 rfl)) Via.refl e13 G9 (g := (mkF m 35 #[rv a, iv (0 : Int32), .unset, .unset, .unset] [(.ref a), (.ref aI)])) rfl rfl (hb hby dp23_21_35)
  refine Goes.st st15 ?_
  show Gs p e below s _ _ _ T15 m 38 #[rv a, iv (0 : Int32), .unset, .unset, .unset] [(.int (2 : Int32)), (.ref aI)]
  have f16 := ((VI1.other W5 nIP).other W9 (Ne.symm naI))
  obtain ⟨cl17, Ar17, qk17, Sz17, qz17, Ha17, Gf17⟩ := id f16
  have in17 := inb_of (j := (2 : Int32)) Sz17 ⟨by decide, by decide⟩
  refine Goes.st (fun tg kg => X15.iaload hx (j := (2 : Int32)) (v := (.int (I (2 : Int32)))) (by rw [e15]; exact Ar17.1) (State.isArrayOf_alike hZ.alike Ar17.2.1) Ar17.2.2 in17 (Ha17.at in17 (get_lst i4_2)) (g := (mkF m 38 #[rv a, iv (0 : Int32), .unset, .unset, .unset] [(.int (2 : Int32)), (.ref aI)])) rfl rfl (hb hby dp23_21_38) tg kg) ?_
  refine gistoreN X15 hx (hb hby dp23_21_39) trivial (l' := #[rv a, iv (0 : Int32), iv (I (2 : Int32)), .unset, .unset]) rfl ?_
  refine galoadN X15 hx (hb hby dp23_21_40) rfl rfl ?_
  have f19 := ((FT1.other W5 (Or.inl naP)).other W9 (Or.inr (slot_ne (Or.inr (hwk hw 16 rfl)) (Or.inl (hwk hw 30 rfl)) (by decide) (t := (.array .double)) (t' := .int) (by decide) (by decide))))
  obtain ⟨T18, X18, e18, st18⟩ := getF X15 hx hZ hown (host := "") (Or.inl (hwk hw 15 rfl)) Via.refl e15 f19 (g := (mkF m 41 #[rv a, iv (0 : Int32), iv (I (2 : Int32)), .unset, .unset] [(.ref a)])) rfl rfl (hb hby dp23_21_41)
  refine Goes.st st18 ?_
  refine galoadN X18 hx (hb hby dp23_21_44) rfl rfl ?_
  show Gs p e below s _ _ _ T18 m 45 #[rv a, iv (0 : Int32), iv (I (2 : Int32)), .unset, .unset] [(.ref a), (.ref aT)]
  obtain ⟨T20, X20, e20, st20⟩ := getF X18 hx hZ hown (host := "") (Or.inl (hwk hw 29 rfl)) Via.refl e18 G9 (g := (mkF m 45 #[rv a, iv (0 : Int32), iv (I (2 : Int32)), .unset, .unset] [(.ref a), (.ref aT)])) rfl rfl (hb hby dp23_21_45)
  refine Goes.st st20 ?_
  show Gs p e below s _ _ _ T20 m 48 #[rv a, iv (0 : Int32), iv (I (2 : Int32)), .unset, .unset] [(.int (2 : Int32)), (.ref aT)]
  have f21 := ((VT1.other W5 nTP).other W9 (Ne.symm naT))
  obtain ⟨cl22, Ar22, qk22, Sz22, qz22, Ha22, Gf22⟩ := id f21
  have in22 := inb_of (j := (2 : Int32)) Sz22 ⟨by decide, by decide⟩
  refine Goes.st (fun tg kg => X20.daload hx (j := (2 : Int32)) (v := (.double (D (2 : Int32)))) (by rw [e20]; exact Ar22.1) (State.isArrayOf_alike hZ.alike Ar22.2.1) Ar22.2.2 in22 (Ha22.at in22 (get_dls i4_2)) (g := (mkF m 48 #[rv a, iv (0 : Int32), iv (I (2 : Int32)), .unset, .unset] [(.int (2 : Int32)), (.ref aT)])) rfl rfl (hb hby dp23_21_48) tg kg) ?_
  refine gdstoreN X20 hx (hb hby dp23_21_49) trivial (l' := #[rv a, iv (0 : Int32), iv (I (2 : Int32)), .val (.double (D (2 : Int32))), .second]) rfl ?_
  refine galoadN X20 hx (hb hby dp23_21_50) rfl rfl ?_
  have f24 := ((FO1.other W5 (Or.inl naP)).other W9 (Or.inr (slot_ne (Or.inl (hwk hw 10 rfl)) (Or.inl (hwk hw 30 rfl)) (by decide) (t := .boolean) (t' := .int) (by decide) (by decide))))
  obtain ⟨T23, X23, e23, st23⟩ := getF X20 hx hZ hown (host := "") (Or.inl (hwk hw 9 rfl)) Via.refl e20 f24 (g := (mkF m 51 #[rv a, iv (0 : Int32), iv (I (2 : Int32)), .val (.double (D (2 : Int32))), .second] [(.ref a)])) rfl rfl (hb hby dp23_21_51)
  refine Goes.st st23 ?_
  show Gs p e below s _ _ _ T23 m 54 #[rv a, iv (0 : Int32), iv (I (2 : Int32)), .val (.double (D (2 : Int32))), .second] [(.int o)]
  refine gifNo X23 hx (hb hby dp23_21_54) ((if0 _ _).trans (feq ho).1) ?_
  show Gs p e below s _ _ _ T23 m 57 #[rv a, iv (0 : Int32), iv (I (2 : Int32)), .val (.double (D (2 : Int32))), .second] []
  refine galoadN X23 hx (hb hby dp23_21_57) rfl rfl ?_
  refine giloadN X23 hx (hb hby dp23_21_58) rfl ?_
  refine giloadN X23 hx (hb hby dp23_21_59) rfl ?_
  refine gdloadN X23 hx (hb hby dp23_21_60) rfl ?_
  have f25 := (f10.wr W9)
  have f26 := ((FP1.other W5 (Or.inl naP)).other W9 (Or.inr (slot_ne (Or.inr (hwk hw 18 rfl)) (Or.inl (hwk hw 30 rfl)) (by decide) (t := (.array .int)) (t' := .int) (by decide) (by decide))))
  have f27 := (V5.other W9 (Ne.symm naP))
  have HR28 : HR Z h9 a aI aT aP kI kT kP I D (upd P (I (0 : Int32)) (-1 : Int32)) (2 : Int32) o := ⟨f25, f14, f19, f26, G9, f24, f16, f21, f27⟩
  obtain ⟨cc29, qa29, qb29⟩ := Exa.cell f25
  obtain ⟨_, _, ⟨T29, L29, k29, n29⟩, -, X29, ⟨Lc29, hQ29, l29, y29, z29⟩, st29⟩ := X23.privateBack hx (y := mN8) hown (mvT hZ (hwk hw 96 rfl)) (mvT hZ (hwk hw 97 rfl)) (selP (y := mN8) (as := #[]) (mvT hZ (hwk hw 1 rfl)) (mvP hZ (hwk hw 98 rfl)) (mvT hZ (hwk hw 97 rfl)) (by decide)) (Cond.privateMethod_at (mvP hZ (hwk hw 98 rfl) (args := #[]))) (mvT hZ (hwk hw 99 rfl)) (by decide) (backOf (W := 0) (rmD20 l Z a0 hw [] a aI aT aP kI kT kP I D (upd P (I (0 : Int32)) (-1 : Int32)) o (I (2 : Int32)) (D (2 : Int32)) S h9 n0 Z9 hB HR28 (hI.1 _ i4_2) (hol_cut (n := (3 : Int32)) (n' := (2 : Int32)) hI (fun j hj h => by rcases hj with rfl | rfl | rfl | rfl <;> revert h <;> decide) (fun j hj h h2 => by rcases hj with rfl | rfl | rfl | rfl <;> revert h h2 <;> decide)) (hI.2.1 _ i4_2 (by decide))) hZ (hwk hw 99 rfl) (hwk hw 2 rfl) (by decide) (by decide)) (g := (mkF m 61 #[rv a, iv (0 : Int32), iv (I (2 : Int32)), .val (.double (D (2 : Int32))), .second] [(.double (D (2 : Int32))), (.int (I (2 : Int32))), (.int (0 : Int32)), (.ref a)])) rfl (by rw [hml]; rfl) (Steps.refl _) (a := a) (by rw [e23]; exact qa29) qb29 (argsL := [(.int (0 : Int32)), (.int (I (2 : Int32))), (.double (D (2 : Int32)))]) (rest := []) (lenOf pd__IID_V_e64 rfl) rfl (by show 2 * 0 + _ ≤ _; exact Nat.le_of_eq rfl) (hb hby dp23_21_61) (fun _ _ => ⟨rfl, e23, (by decide : 0 + 0 ≤ 0), (by decide : 0 + 0 ≤ 0)⟩)
  dsimp only [Pt.U, Pt.locs, Pt.cells, Pt.slots] at X29 l29 y29 z29 st29 hQ29
  subst l29 y29 z29
  obtain ⟨I29, D29, P29, rfl, N29q, K29, HQ29, inv29⟩ := hQ29
  have KK30 := KK11.trans K29 (allS (Or.inl (List.mem_of_getElem? (i := 0) rfl)) (allS (Or.inl (List.mem_of_getElem? (i := 1) rfl)) (allS (Or.inl (List.mem_of_getElem? (i := 2) rfl)) (allS (Or.inl (List.mem_of_getElem? (i := 3) rfl)) all0))))
  have Z29 : n0 ≤ T29.heap.size := Nat.le_trans Z9 K29.1
  obtain ⟨E31, FI31, FT31, FP31, FS31, FO31, VI31, VT31, VP31⟩ := id HQ29
  have N29 := Fr.app N9 N29q
  refine Goes.sts st29 ?_
  show Gs p e below s _ _ _ T29 m 64 #[rv a, iv (0 : Int32), iv (I (2 : Int32)), .val (.double (D (2 : Int32))), .second] []
  refine galoadN X29 hx (hb hby dp23_21_64) rfl rfl ?_
  obtain ⟨T32, X32, e32, st32⟩ := getF X29 hx hZ hown (host := "") (Or.inl (hwk hw 12 rfl)) Via.refl rfl FI31 (g := (mkF m 65 #[rv a, iv (0 : Int32), iv (I (2 : Int32)), .val (.double (D (2 : Int32))), .second] [(.ref a)])) rfl rfl (hb hby dp23_21_65)
  refine Goes.st st32 ?_
  refine giloadN X32 hx (hb hby dp23_21_68) rfl ?_
  show Gs p e below s _ _ _ T32 m 69 #[rv a, iv (0 : Int32), iv (I (2 : Int32)), .val (.double (D (2 : Int32))), .second] [(.int (0 : Int32)), (.ref aI)]
  obtain ⟨cl33, Ar33, qk33, Sz33, qz33, Ha33, Gf33⟩ := id VI31
  have in33 := inb_of (j := (0 : Int32)) Sz33 ⟨by decide, by decide⟩
  refine Goes.st (fun tg kg => X32.iaload hx (j := (0 : Int32)) (v := (.int (I29 (0 : Int32)))) (by rw [e32]; exact Ar33.1) (State.isArrayOf_alike hZ.alike Ar33.2.1) Ar33.2.2 in33 (Ha33.at in33 (get_lst i4_0)) (g := (mkF m 69 #[rv a, iv (0 : Int32), iv (I (2 : Int32)), .val (.double (D (2 : Int32))), .second] [(.int (0 : Int32)), (.ref aI)])) rfl rfl (hb hby dp23_21_69) tg kg) ?_
  refine giloadN X32 hx (hb hby dp23_21_70) rfl ?_
  show Gs p e below s _ _ _ T32 m 71 #[rv a, iv (0 : Int32), iv (I (2 : Int32)), .val (.double (D (2 : Int32))), .second] [(.int (I (2 : Int32))), (.int (I29 (0 : Int32)))]
  by_cases c34 : (I29 (0 : Int32)) = (I (2 : Int32))
  · refine gicmpNo X32 hx (hb hby dp23_21_71) (teq c34).2 ?_
    show Gs p e below s _ _ _ T32 m 74 #[rv a, iv (0 : Int32), iv (I (2 : Int32)), .val (.double (D (2 : Int32))), .second] []
    refine galoadN X32 hx (hb hby dp23_21_74) rfl rfl ?_
    refine giloadN X32 hx (hb hby dp23_21_75) rfl ?_
    refine giloadN X32 hx (hb hby dp23_21_76) rfl ?_
    refine gdloadN X32 hx (hb hby dp23_21_77) rfl ?_
    have HR35 : HR Z T29.heap a aI aT aP kI kT kP I29 D29 P29 (2 : Int32) o := ⟨E31, FI31, FT31, FP31, FS31, FO31, VI31, VT31, VP31⟩
    have ho36 : Hol (2 : Int32) 0 (I (2 : Int32)) S I29 P29 := by have q := hol_open (t := 0) inv29; rw [c34] at q; exact q
    obtain ⟨cc37, qa37, qb37⟩ := Exa.cell E31
    obtain ⟨_, _, ⟨T37, L37, k37, n37⟩, -, X37, ⟨Lc37, hQ37, l37, y37, z37⟩, st37⟩ := X32.privateBack hx (y := mN7) hown (mvT hZ (hwk hw 61 rfl)) (mvT hZ (hwk hw 62 rfl)) (selP (y := mN7) (as := #[]) (mvT hZ (hwk hw 1 rfl)) (mvP hZ (hwk hw 63 rfl)) (mvT hZ (hwk hw 62 rfl)) (by decide)) (Cond.privateMethod_at (mvP hZ (hwk hw 63 rfl) (args := #[]))) (mvT hZ (hwk hw 64 rfl)) (by decide) (backOf (W := 0) (rmU0 l Z a0 hw [] a aI aT aP kI kT kP I29 D29 P29 (2 : Int32) o (I (2 : Int32)) (D (2 : Int32)) S T29.heap n0 Z29 hB HR35 (hI.1 _ i4_2) ho36 (hI.2.1 _ i4_2 (by decide)) (by decide)) hZ (hwk hw 64 rfl) (hwk hw 2 rfl) (by decide) (by decide)) (g := (mkF m 78 #[rv a, iv (0 : Int32), iv (I (2 : Int32)), .val (.double (D (2 : Int32))), .second] [(.double (D (2 : Int32))), (.int (I (2 : Int32))), (.int (0 : Int32)), (.ref a)])) rfl (by rw [hml]; rfl) (Steps.refl _) (a := a) (by rw [e32]; exact qa37) qb37 (argsL := [(.int (0 : Int32)), (.int (I (2 : Int32))), (.double (D (2 : Int32)))]) (rest := []) (lenOf pd__IID_V_e64 rfl) rfl (by show 2 * 0 + _ ≤ _; exact Nat.le_of_eq rfl) (hb hby dp23_21_78) (fun _ _ => ⟨rfl, e32, (by decide : 0 + 0 ≤ 0), (by decide : 0 + 0 ≤ 0)⟩)
    dsimp only [Pt.U, Pt.locs, Pt.cells, Pt.slots] at X37 l37 y37 z37 st37 hQ37
    subst l37 y37 z37
    obtain ⟨I37, D37, P37, rfl, N37q, K37, HQ37, inv37⟩ := hQ37
    have KK38 := KK30.trans K37 (allS (Or.inl (List.mem_of_getElem? (i := 0) rfl)) (allS (Or.inl (List.mem_of_getElem? (i := 1) rfl)) (allS (Or.inl (List.mem_of_getElem? (i := 2) rfl)) (allS (Or.inl (List.mem_of_getElem? (i := 3) rfl)) all0))))
    have Z37 : n0 ≤ T37.heap.size := Nat.le_trans Z29 K37.1
    obtain ⟨E39, FI39, FT39, FP39, FS39, FO39, VI39, VT39, VP39⟩ := id HQ37
    have N37 := Fr.app N29 N37q
    refine Goes.sts st37 ?_
    show Gs p e below s _ _ _ T37 m 81 #[rv a, iv (0 : Int32), iv (I (2 : Int32)), .val (.double (D (2 : Int32))), .second] []
    refine ggoto X37 hx (pc' := 91) (hb hby dp23_21_81) (by decide) (by decide) ?_
    show Gs p e below s _ _ _ T37 m 91 #[rv a, iv (0 : Int32), iv (I (2 : Int32)), .val (.double (D (2 : Int32))), .second] []
    have HR40 : HR Z T37.heap a aI aT aP kI kT kP I37 D37 P37 (2 : Int32) o := ⟨E39, FI39, FT39, FP39, FS39, FO39, VI39, VT39, VP39⟩
    refine Goes.retV X37 hx hlk hret (hb hby dp23_21_91) ?_ (by decide) (by decide)
    exact ⟨I37, D37, P37, rfl, N37, KK38, HR40, inv37⟩
  · refine gicmpYes X32 hx (pc' := 91) (hb hby dp23_21_71) (feq c34).2 (by decide) (by decide) ?_
    show Gs p e below s _ _ _ T32 m 91 #[rv a, iv (0 : Int32), iv (I (2 : Int32)), .val (.double (D (2 : Int32))), .second] []
    have HR41 : HR Z T29.heap a aI aT aP kI kT kP I29 D29 P29 (2 : Int32) o := ⟨E31, FI31, FT31, FP31, FS31, FO31, VI31, VT31, VP31⟩
    refine Goes.retV X32 hx hlk hret (hb hby dp23_21_91) ?_ (by decide) (by decide)
    rw [e32]
    exact ⟨I29, D29, P29, rfl, N29, KK30, HR41, inv29⟩
theorem ef_P3 (m : MethodId) (x0 : Addr) : entryFrame m #[(.ref x0)] 2 = mkF m 0 #[rv x0, .unset] [] := by first | (simp [entryFrame, mkF, argsToLocals, Value.category]; done) | rfl
def QP3 (Z : State) (a aI aT aP : Addr) (kI kT kP : ClassId) (I : Int32 → Int32) (D : Int32 → UInt64) (P : Int32 → Int32) (o : Int32) (S : Int32 → Prop) (h0 : Heap) (n0 : Nat) (v : Option Value) (h : Heap) (L : List Loc) : Prop := ∃ (I1 : Int32 → Int32) (D1 : Int32 → UInt64) (P1 : Int32 → Int32) (o1 x1 : Int32), v = some (.int x1) ∧ Fr n0 L ∧ Keep h0 h [a, aI, aT, aP] ∧ HR Z h a aI aT aP kI kT kP I1 D1 P1 (2 : Int32) o1 ∧ Inv (2 : Int32) S I1 P1
set_option maxRecDepth 65536 in
set_option maxHeartbeats 40000000 in
theorem rmP3 (l : Launch) (Z : State) (a0 : Array Value) (hw : ∀ d ∈ tables_1, d.before a0 Z = true) (ws : List Jvm.Cond) (a aI aT aP : Addr) (kI kT kP : ClassId) (I : Int32 → Int32) (D : Int32 → UInt64) (P : Int32 → Int32) (o : Int32) (S : Int32 → Prop) (h0 : Heap) (n0 : Nat) (Z0 : n0 ≤ h0.size) (hB : HB n0 a aI aT aP) (hR : HR Z h0 a aI aT aP kI kT kP I D P (3 : Int32) o) (hI : Inv (3 : Int32) S I P) :
    MetFree l mN15 (head1 (Jvm.Cond.code mN15 prog_23_method_13_code 2 (some .int) :: ws) ({ frames := 4, cells := 0, slots := 0, locals := 62 } : Room)) (fun aa U => aa = #[(.ref a)] ∧ Z.Warmed39 U.vm ∧ U.heap = h0) (fun _ _ _ _ _ => True) (fun _ u1_ o_ u2_ => ∃ v_ l_, o_ = .returned v_ ∧ QP3 Z a aI aT aP kI kT kP I D P o S h0 n0 v_ u2_.heap l_ ∧ FrameEnd u1_ o_ u2_ l_ ({ frames := 4, cells := 0, slots := 0, locals := 62 } : Room).cells ({ frames := 4, cells := 0, slots := 0, locals := 62 } : Room).slots) := by
  refine MetFree.of_bodySF (plainFor_of_name pn_com_example_redoubt_redoubt_engine_IndexHeap) hisR ?_
  intro p e s m args below meth c s₁ Bd hml0 hP hK
  obtain ⟨rfl, hZ, hh⟩ := hP
  have hx := Bd.exec
  have hby := Bd.bytes
  have hlk := BodyLoose.notSynchronized Bd
  have hret := Bd.returns
  have hml : c.maxLocals = 2 := hml0
  have hown : s.vm.findClass "com/example/redoubt/redoubt/engine/IndexHeap" = some m.cls := findClass_of_methodNamed Bd.named
  have hnm := (name_of_methodNamed Bd.named Bd.method).1
  have X0 : Stand p l e ({ frames := 4, cells := 0, slots := 0, locals := 62 } : Room) s m #[(.ref a)] below meth c s₁ [] 0 0 := Stand.of_body Bd
  have e0 : s₁.heap = h0 := by rw [← hh, Bd.state]; rfl
  have N0 := Fr.nil n0
  refine Goes.st (s := s) (Q := QP3 Z a aI aT aP kI kT kP I D P o S h0 n0) (cs := ({ frames := 4, cells := 0, slots := 0, locals := 62 } : Room).cells) (ss := ({ frames := 4, cells := 0, slots := 0, locals := 62 } : Room).slots) (fun tg kg => castTop (ef_P3 m a) kg) ?_
  obtain ⟨la, lI, lT, lP, naI, naT, naP, nIT, nIP, nTP⟩ := id hB
  obtain ⟨E1, FI1, FT1, FP1, FS1, FO1, VI1, VT1, VP1⟩ := id hR
  have K0 : Keep h0 h0 [a, aI, aT, aP] := Keep.refl _ _
  show Gs p e below s _ _ _ s₁ m 0 #[rv a, .unset] []
  refine galoadN X0 hx (hb hby dp23_13_0) rfl rfl ?_
  have HR2 : HR Z h0 a aI aT aP kI kT kP I D P (3 : Int32) o := ⟨E1, FI1, FT1, FP1, FS1, FO1, VI1, VT1, VP1⟩
  obtain ⟨cq3, kq3, qa3, qb3, qc3⟩ := isOf hZ e0 E1
  obtain ⟨_, _, ⟨T3, L3, k3, n3⟩, -, X3, ⟨Lc3, hQ3, l3, y3, z3⟩, st3⟩ := X0.virtualBack hx (y := mN13) (z := mN13) hown (mvT hZ (hwk hw 87 rfl)) (mvT hZ (hwk hw 88 rfl)) (notFace_of_selects (args := #[]) (mvT hZ (hwk hw 90 rfl))) (mvT hZ (hwk hw 90 rfl)) (mvT hZ (hwk hw 89 rfl)) (by decide) (backOf (W := 0) (rmF3 l Z a0 hw [] a aI aT aP kI kT kP I D P o S h0 n0 Z0 hB HR2 hI) hZ (hwk hw 91 rfl) (hwk hw 2 rfl) (by decide) (by decide)) qa3 qc3 (g := (mkF m 1 #[rv a, .unset] [(.ref a)])) rfl (by rw [hml]; rfl) (Steps.refl _) (argsL := []) (rest := []) (lenOf pd___I_4f1 rfl) rfl (by show 2 * 0 + _ ≤ _; exact Nat.le_of_eq rfl) (hb hby dp23_13_1) (fun _ _ => ⟨rfl, e0, (by decide : 0 + 0 ≤ 0), (by decide : 0 + 0 ≤ 0)⟩)
  dsimp only [Pt.U, Pt.locs, Pt.cells, Pt.slots] at X3 l3 y3 z3 st3 hQ3
  subst l3 y3 z3
  obtain ⟨I3, D3, P3, o3, xr3, rfl, N3q, K3, HQ3, inv3, ho3⟩ := hQ3
  have KK4 := K0.trans K3 (allS (Or.inl (List.mem_of_getElem? (i := 0) rfl)) (allS (Or.inl (List.mem_of_getElem? (i := 1) rfl)) (allS (Or.inl (List.mem_of_getElem? (i := 2) rfl)) (allS (Or.inl (List.mem_of_getElem? (i := 3) rfl)) all0))))
  have Z3 : n0 ≤ T3.heap.size := Nat.le_trans Z0 K3.1
  obtain ⟨E5, FI5, FT5, FP5, FS5, FO5, VI5, VT5, VP5⟩ := id HQ3
  have N3 := Fr.app N0 N3q
  refine Goes.sts st3 ?_
  show Gs p e below s _ _ _ T3 m 4 #[rv a, .unset] [(.int xr3)]
  refine gistoreN X3 hx (hb hby dp23_13_4) trivial (l' := #[rv a, iv xr3]) rfl ?_
  refine galoadN X3 hx (hb hby dp23_13_5) rfl rfl ?_
  refine giconst X3 hx (hb hby dp23_13_6) ?_
  have HR6 : HR Z T3.heap a aI aT aP kI kT kP I3 D3 P3 (3 : Int32) o3 := ⟨E5, FI5, FT5, FP5, FS5, FO5, VI5, VT5, VP5⟩
  obtain ⟨cc7, qa7, qb7⟩ := Exa.cell E5
  obtain ⟨_, _, ⟨T7, L7, k7, n7⟩, -, X7, ⟨Lc7, hQ7, l7, y7, z7⟩, st7⟩ := X3.privateBack hx (y := mN14) hown (mvT hZ (hwk hw 100 rfl)) (mvT hZ (hwk hw 101 rfl)) (selP (y := mN14) (as := #[]) (mvT hZ (hwk hw 1 rfl)) (mvP hZ (hwk hw 102 rfl)) (mvT hZ (hwk hw 101 rfl)) (by decide)) (Cond.privateMethod_at (mvP hZ (hwk hw 102 rfl) (args := #[]))) (mvT hZ (hwk hw 103 rfl)) (by decide) (backOf (W := 0) (rmR3 l Z a0 hw [] a aI aT aP kI kT kP I3 D3 P3 o3 S T3.heap n0 Z3 hB HR6 inv3 ho3) hZ (hwk hw 103 rfl) (hwk hw 2 rfl) (by decide) (by decide)) (g := (mkF m 7 #[rv a, iv xr3] [(.int (0 : Int32)), (.ref a)])) rfl (by rw [hml]; rfl) (Steps.refl _) (a := a) qa7 qb7 (argsL := [(.int (0 : Int32))]) (rest := []) (lenOf pd__I_V_82d rfl) rfl (by show 2 * 0 + _ ≤ _; exact Nat.le_of_eq rfl) (hb hby dp23_13_7) (fun _ _ => ⟨rfl, rfl, (by decide : 0 + 0 ≤ 0), (by decide : 0 + 0 ≤ 0)⟩)
  dsimp only [Pt.U, Pt.locs, Pt.cells, Pt.slots] at X7 l7 y7 z7 st7 hQ7
  subst l7 y7 z7
  obtain ⟨I7, D7, P7, rfl, N7q, K7, HQ7, inv7⟩ := hQ7
  have KK8 := KK4.trans K7 (allS (Or.inl (List.mem_of_getElem? (i := 0) rfl)) (allS (Or.inl (List.mem_of_getElem? (i := 1) rfl)) (allS (Or.inl (List.mem_of_getElem? (i := 2) rfl)) (allS (Or.inl (List.mem_of_getElem? (i := 3) rfl)) all0))))
  have Z7 : n0 ≤ T7.heap.size := Nat.le_trans Z3 K7.1
  obtain ⟨E9, FI9, FT9, FP9, FS9, FO9, VI9, VT9, VP9⟩ := id HQ7
  have N7 := Fr.app N3 N7q
  refine Goes.sts st7 ?_
  show Gs p e below s _ _ _ T7 m 10 #[rv a, iv xr3] []
  refine giloadN X7 hx (hb hby dp23_13_10) rfl ?_
  show Gs p e below s _ _ _ T7 m 11 #[rv a, iv xr3] [(.int xr3)]
  have HR10 : HR Z T7.heap a aI aT aP kI kT kP I7 D7 P7 (2 : Int32) o3 := ⟨E9, FI9, FT9, FP9, FS9, FO9, VI9, VT9, VP9⟩
  refine Goes.retI X7 hx hlk hret (hb hby dp23_13_11) ?_ (by decide) (by decide)
  exact ⟨I7, D7, P7, o3, xr3, rfl, N7, KK8, HR10, inv7⟩
theorem ef_O4 (m : MethodId) (x0 : Addr) : entryFrame m #[(.ref x0)] 2 = mkF m 0 #[rv x0, .unset] [] := by first | (simp [entryFrame, mkF, argsToLocals, Value.category]; done) | rfl
def QO4 (Z : State) (a aI aT aP : Addr) (kI kT kP : ClassId) (I : Int32 → Int32) (D : Int32 → UInt64) (P : Int32 → Int32) (o : Int32) (S : Int32 → Prop) (h0 : Heap) (n0 : Nat) (v : Option Value) (h : Heap) (L : List Loc) : Prop := ∃ (I1 : Int32 → Int32) (D1 : Int32 → UInt64) (P1 : Int32 → Int32) (o1 : Int32), v = none ∧ Fr n0 L ∧ Keep h0 h [a, aI, aT, aP] ∧ HR Z h a aI aT aP kI kT kP I1 D1 P1 (4 : Int32) o1 ∧ Inv (4 : Int32) S I1 P1 ∧ ¬ o1 = (0 : Int32)
set_option maxRecDepth 65536 in
set_option maxHeartbeats 40000000 in
theorem rmO4 (l : Launch) (Z : State) (a0 : Array Value) (hw : ∀ d ∈ tables_1, d.before a0 Z = true) (ws : List Jvm.Cond) (a aI aT aP : Addr) (kI kT kP : ClassId) (I : Int32 → Int32) (D : Int32 → UInt64) (P : Int32 → Int32) (o : Int32) (S : Int32 → Prop) (h0 : Heap) (n0 : Nat) (Z0 : n0 ≤ h0.size) (hB : HB n0 a aI aT aP) (hR : HR Z h0 a aI aT aP kI kT kP I D P (4 : Int32) o) (hI : Inv (4 : Int32) S I P) :
    MetFree l mN12 (head1 (Jvm.Cond.code mN12 prog_23_method_19_code 2 none :: ws) ({ frames := 2, cells := 0, slots := 0, locals := 37 } : Room)) (fun aa U => aa = #[(.ref a)] ∧ Z.Warmed39 U.vm ∧ U.heap = h0) (fun _ _ _ _ _ => True) (fun _ u1_ o_ u2_ => ∃ v_ l_, o_ = .returned v_ ∧ QO4 Z a aI aT aP kI kT kP I D P o S h0 n0 v_ u2_.heap l_ ∧ FrameEnd u1_ o_ u2_ l_ ({ frames := 2, cells := 0, slots := 0, locals := 37 } : Room).cells ({ frames := 2, cells := 0, slots := 0, locals := 37 } : Room).slots) := by
  refine MetFree.of_bodySF (plainFor_of_name pn_com_example_redoubt_redoubt_engine_IndexHeap) hisR ?_
  intro p e s m args below meth c s₁ Bd hml0 hP hK
  obtain ⟨rfl, hZ, hh⟩ := hP
  have hx := Bd.exec
  have hby := Bd.bytes
  have hlk := BodyLoose.notSynchronized Bd
  have hret := Bd.returns
  have hml : c.maxLocals = 2 := hml0
  have hown : s.vm.findClass "com/example/redoubt/redoubt/engine/IndexHeap" = some m.cls := findClass_of_methodNamed Bd.named
  have hnm := (name_of_methodNamed Bd.named Bd.method).1
  have X0 : Stand p l e ({ frames := 2, cells := 0, slots := 0, locals := 37 } : Room) s m #[(.ref a)] below meth c s₁ [] 0 0 := Stand.of_body Bd
  have e0 : s₁.heap = h0 := by rw [← hh, Bd.state]; rfl
  have N0 := Fr.nil n0
  refine Goes.st (s := s) (Q := QO4 Z a aI aT aP kI kT kP I D P o S h0 n0) (cs := ({ frames := 2, cells := 0, slots := 0, locals := 37 } : Room).cells) (ss := ({ frames := 2, cells := 0, slots := 0, locals := 37 } : Room).slots) (fun tg kg => castTop (ef_O4 m a) kg) ?_
  obtain ⟨la, lI, lT, lP, naI, naT, naP, nIT, nIP, nTP⟩ := id hB
  obtain ⟨E1, FI1, FT1, FP1, FS1, FO1, VI1, VT1, VP1⟩ := id hR
  have K0 : Keep h0 h0 [a, aI, aT, aP] := Keep.refl _ _
  show Gs p e below s _ _ _ s₁ m 0 #[rv a, .unset] []
  refine galoadN X0 hx (hb hby dp23_19_0) rfl rfl ?_
  obtain ⟨T2, X2, e2, st2⟩ := getF X0 hx hZ hown (host := "") (Or.inl (hwk hw 9 rfl)) Via.refl e0 FO1 (g := (mkF m 1 #[rv a, .unset] [(.ref a)])) rfl rfl (hb hby dp23_19_1)
  refine Goes.st st2 ?_
  show Gs p e below s _ _ _ T2 m 4 #[rv a, .unset] [(.int o)]
  by_cases c3 : o = (0 : Int32)
  · refine gifNo X2 hx (hb hby dp23_19_4) ((if0 _ _).trans (teq c3).2) ?_
    show Gs p e below s _ _ _ T2 m 7 #[rv a, .unset] []
    refine galoadN X2 hx (hb hby dp23_19_7) rfl rfl ?_
    obtain ⟨T4, X4, e4, st4⟩ := getF X2 hx hZ hown (host := "") (Or.inl (hwk hw 29 rfl)) Via.refl e2 FS1 (g := (mkF m 8 #[rv a, .unset] [(.ref a)])) rfl rfl (hb hby dp23_19_8)
    refine Goes.st st4 ?_
    refine giconst X4 hx (hb hby dp23_19_11) ?_
    show Gs p e below s _ _ _ T4 m 12 #[rv a, .unset] [(.int (2 : Int32)), (.int (4 : Int32))]
    refine Goes.st (fun tg kg => XS.idiv X4.here hx rfl (hb hby dp23_19_12) rfl (by decide) kg) ?_
    show Gs p e below s _ _ _ T4 m 13 #[rv a, .unset] [(.int ((4 : Int32) / (2 : Int32)))]
    rw [show ((4 : Int32) / (2 : Int32)) = (2 : Int32) from by decide]
    show Gs p e below s _ _ _ T4 m 13 #[rv a, .unset] [(.int (2 : Int32))]
    refine giconst X4 hx (hb hby dp23_19_13) ?_
    refine gisub X4 hx (hb hby dp23_19_14) trivial ?_
    show Gs p e below s _ _ _ T4 m 15 #[rv a, .unset] [(.int ((2 : Int32) - (1 : Int32)))]
    rw [show ((2 : Int32) - (1 : Int32)) = (1 : Int32) from by decide]
    show Gs p e below s _ _ _ T4 m 15 #[rv a, .unset] [(.int (1 : Int32))]
    refine gistoreN X4 hx (hb hby dp23_19_15) trivial (l' := #[rv a, iv (1 : Int32)]) rfl ?_
    refine giloadN X4 hx (hb hby dp23_19_16) rfl ?_
    show Gs p e below s _ _ _ T4 m 17 #[rv a, iv (1 : Int32)] [(.int (1 : Int32))]
    refine gifNo X4 hx (hb hby dp23_19_17) (by decide) ?_
    show Gs p e below s _ _ _ T4 m 20 #[rv a, iv (1 : Int32)] []
    refine galoadN X4 hx (hb hby dp23_19_20) rfl rfl ?_
    refine giloadN X4 hx (hb hby dp23_19_21) rfl ?_
    refine galoadN X4 hx (hb hby dp23_19_22) rfl rfl ?_
    obtain ⟨T5, X5, e5, st5⟩ := getF X4 hx hZ hown (host := "") (Or.inl (hwk hw 12 rfl)) Via.refl e4 FI1 (g := (mkF m 23 #[rv a, iv (1 : Int32)] [(.ref a), (.int (1 : Int32)), (.ref a)])) rfl rfl (hb hby dp23_19_23)
    refine Goes.st st5 ?_
    refine giloadN X5 hx (hb hby dp23_19_26) rfl ?_
    show Gs p e below s _ _ _ T5 m 27 #[rv a, iv (1 : Int32)] [(.int (1 : Int32)), (.ref aI), (.int (1 : Int32)), (.ref a)]
    obtain ⟨cl6, Ar6, qk6, Sz6, qz6, Ha6, Gf6⟩ := id VI1
    have in6 := inb_of (j := (1 : Int32)) Sz6 ⟨by decide, by decide⟩
    refine Goes.st (fun tg kg => X5.iaload hx (j := (1 : Int32)) (v := (.int (I (1 : Int32)))) (by rw [e5]; exact Ar6.1) (State.isArrayOf_alike hZ.alike Ar6.2.1) Ar6.2.2 in6 (Ha6.at in6 (get_lst i4_1)) (g := (mkF m 27 #[rv a, iv (1 : Int32)] [(.int (1 : Int32)), (.ref aI), (.int (1 : Int32)), (.ref a)])) rfl rfl (hb hby dp23_19_27) tg kg) ?_
    refine galoadN X5 hx (hb hby dp23_19_28) rfl rfl ?_
    obtain ⟨T7, X7, e7, st7⟩ := getF X5 hx hZ hown (host := "") (Or.inl (hwk hw 15 rfl)) Via.refl e5 FT1 (g := (mkF m 29 #[rv a, iv (1 : Int32)] [(.ref a), (.int (I (1 : Int32))), (.int (1 : Int32)), (.ref a)])) rfl rfl (hb hby dp23_19_29)
    refine Goes.st st7 ?_
    refine giloadN X7 hx (hb hby dp23_19_32) rfl ?_
    show Gs p e below s _ _ _ T7 m 33 #[rv a, iv (1 : Int32)] [(.int (1 : Int32)), (.ref aT), (.int (I (1 : Int32))), (.int (1 : Int32)), (.ref a)]
    obtain ⟨cl8, Ar8, qk8, Sz8, qz8, Ha8, Gf8⟩ := id VT1
    have in8 := inb_of (j := (1 : Int32)) Sz8 ⟨by decide, by decide⟩
    refine Goes.st (fun tg kg => X7.daload hx (j := (1 : Int32)) (v := (.double (D (1 : Int32)))) (by rw [e7]; exact Ar8.1) (State.isArrayOf_alike hZ.alike Ar8.2.1) Ar8.2.2 in8 (Ha8.at in8 (get_dls i4_1)) (g := (mkF m 33 #[rv a, iv (1 : Int32)] [(.int (1 : Int32)), (.ref aT), (.int (I (1 : Int32))), (.int (1 : Int32)), (.ref a)])) rfl rfl (hb hby dp23_19_33) tg kg) ?_
    have HR9 : HR Z h0 a aI aT aP kI kT kP I D P (4 : Int32) o := ⟨E1, FI1, FT1, FP1, FS1, FO1, VI1, VT1, VP1⟩
    obtain ⟨cc10, qa10, qb10⟩ := Exa.cell E1
    obtain ⟨_, _, ⟨T10, L10, k10, n10⟩, -, X10, ⟨Lc10, hQ10, l10, y10, z10⟩, st10⟩ := X7.privateBack hx (y := mN8) hown (mvT hZ (hwk hw 96 rfl)) (mvT hZ (hwk hw 97 rfl)) (selP (y := mN8) (as := #[]) (mvT hZ (hwk hw 1 rfl)) (mvP hZ (hwk hw 98 rfl)) (mvT hZ (hwk hw 97 rfl)) (by decide)) (Cond.privateMethod_at (mvP hZ (hwk hw 98 rfl) (args := #[]))) (mvT hZ (hwk hw 99 rfl)) (by decide) (backOf (W := 0) (rmD41 l Z a0 hw [] a aI aT aP kI kT kP I D P o (I (1 : Int32)) (D (1 : Int32)) S h0 n0 Z0 hB HR9 (hI.1 _ i4_1) (hol_open hI) (hI.2.1 _ i4_1 (by decide))) hZ (hwk hw 99 rfl) (hwk hw 2 rfl) (by decide) (by decide)) (g := (mkF m 34 #[rv a, iv (1 : Int32)] [(.double (D (1 : Int32))), (.int (I (1 : Int32))), (.int (1 : Int32)), (.ref a)])) rfl (by rw [hml]; rfl) (Steps.refl _) (a := a) (by rw [e7]; exact qa10) qb10 (argsL := [(.int (1 : Int32)), (.int (I (1 : Int32))), (.double (D (1 : Int32)))]) (rest := []) (lenOf pd__IID_V_e64 rfl) rfl (by show 2 * 0 + _ ≤ _; exact Nat.le_of_eq rfl) (hb hby dp23_19_34) (fun _ _ => ⟨rfl, e7, (by decide : 0 + 0 ≤ 0), (by decide : 0 + 0 ≤ 0)⟩)
    dsimp only [Pt.U, Pt.locs, Pt.cells, Pt.slots] at X10 l10 y10 z10 st10 hQ10
    subst l10 y10 z10
    obtain ⟨I10, D10, P10, rfl, N10q, K10, HQ10, inv10⟩ := hQ10
    have KK11 := K0.trans K10 (allS (Or.inl (List.mem_of_getElem? (i := 0) rfl)) (allS (Or.inl (List.mem_of_getElem? (i := 1) rfl)) (allS (Or.inl (List.mem_of_getElem? (i := 2) rfl)) (allS (Or.inl (List.mem_of_getElem? (i := 3) rfl)) all0))))
    have Z10 : n0 ≤ T10.heap.size := Nat.le_trans Z0 K10.1
    obtain ⟨E12, FI12, FT12, FP12, FS12, FO12, VI12, VT12, VP12⟩ := id HQ10
    have N10 := Fr.app N0 N10q
    refine Goes.sts st10 ?_
    show Gs p e below s _ _ _ T10 m 37 #[rv a, iv (1 : Int32)] []
    refine Goes.st (fun tg kg => XS.iinc X10.here hx rfl (hb hby dp23_19_37) rfl (l' := #[rv a, iv (0 : Int32)]) rfl kg) ?_
    show Gs p e below s _ _ _ T10 m 40 #[rv a, iv (0 : Int32)] []
    refine ggoto X10 hx (pc' := 16) (hb hby dp23_19_40) (by decide) (by decide) ?_
    show Gs p e below s _ _ _ T10 m 16 #[rv a, iv (0 : Int32)] []
    refine giloadN X10 hx (hb hby dp23_19_16) rfl ?_
    show Gs p e below s _ _ _ T10 m 17 #[rv a, iv (0 : Int32)] [(.int (0 : Int32))]
    refine gifNo X10 hx (hb hby dp23_19_17) (by decide) ?_
    show Gs p e below s _ _ _ T10 m 20 #[rv a, iv (0 : Int32)] []
    refine galoadN X10 hx (hb hby dp23_19_20) rfl rfl ?_
    refine giloadN X10 hx (hb hby dp23_19_21) rfl ?_
    refine galoadN X10 hx (hb hby dp23_19_22) rfl rfl ?_
    obtain ⟨T13, X13, e13, st13⟩ := getF X10 hx hZ hown (host := "") (Or.inl (hwk hw 12 rfl)) Via.refl rfl FI12 (g := (mkF m 23 #[rv a, iv (0 : Int32)] [(.ref a), (.int (0 : Int32)), (.ref a)])) rfl rfl (hb hby dp23_19_23)
    refine Goes.st st13 ?_
    refine giloadN X13 hx (hb hby dp23_19_26) rfl ?_
    show Gs p e below s _ _ _ T13 m 27 #[rv a, iv (0 : Int32)] [(.int (0 : Int32)), (.ref aI), (.int (0 : Int32)), (.ref a)]
    obtain ⟨cl14, Ar14, qk14, Sz14, qz14, Ha14, Gf14⟩ := id VI12
    have in14 := inb_of (j := (0 : Int32)) Sz14 ⟨by decide, by decide⟩
    refine Goes.st (fun tg kg => X13.iaload hx (j := (0 : Int32)) (v := (.int (I10 (0 : Int32)))) (by rw [e13]; exact Ar14.1) (State.isArrayOf_alike hZ.alike Ar14.2.1) Ar14.2.2 in14 (Ha14.at in14 (get_lst i4_0)) (g := (mkF m 27 #[rv a, iv (0 : Int32)] [(.int (0 : Int32)), (.ref aI), (.int (0 : Int32)), (.ref a)])) rfl rfl (hb hby dp23_19_27) tg kg) ?_
    refine galoadN X13 hx (hb hby dp23_19_28) rfl rfl ?_
    obtain ⟨T15, X15, e15, st15⟩ := getF X13 hx hZ hown (host := "") (Or.inl (hwk hw 15 rfl)) Via.refl e13 FT12 (g := (mkF m 29 #[rv a, iv (0 : Int32)] [(.ref a), (.int (I10 (0 : Int32))), (.int (0 : Int32)), (.ref a)])) rfl rfl (hb hby dp23_19_29)
    refine Goes.st st15 ?_
    refine giloadN X15 hx (hb hby dp23_19_32) rfl ?_
    show Gs p e below s _ _ _ T15 m 33 #[rv a, iv (0 : Int32)] [(.int (0 : Int32)), (.ref aT), (.int (I10 (0 : Int32))), (.int (0 : Int32)), (.ref a)]
    obtain ⟨cl16, Ar16, qk16, Sz16, qz16, Ha16, Gf16⟩ := id VT12
    have in16 := inb_of (j := (0 : Int32)) Sz16 ⟨by decide, by decide⟩
    refine Goes.st (fun tg kg => X15.daload hx (j := (0 : Int32)) (v := (.double (D10 (0 : Int32)))) (by rw [e15]; exact Ar16.1) (State.isArrayOf_alike hZ.alike Ar16.2.1) Ar16.2.2 in16 (Ha16.at in16 (get_dls i4_0)) (g := (mkF m 33 #[rv a, iv (0 : Int32)] [(.int (0 : Int32)), (.ref aT), (.int (I10 (0 : Int32))), (.int (0 : Int32)), (.ref a)])) rfl rfl (hb hby dp23_19_33) tg kg) ?_
    have HR17 : HR Z T10.heap a aI aT aP kI kT kP I10 D10 P10 (4 : Int32) o := ⟨E12, FI12, FT12, FP12, FS12, FO12, VI12, VT12, VP12⟩
    obtain ⟨cc18, qa18, qb18⟩ := Exa.cell E12
    obtain ⟨_, _, ⟨T18, L18, k18, n18⟩, -, X18, ⟨Lc18, hQ18, l18, y18, z18⟩, st18⟩ := X15.privateBack hx (y := mN8) hown (mvT hZ (hwk hw 96 rfl)) (mvT hZ (hwk hw 97 rfl)) (selP (y := mN8) (as := #[]) (mvT hZ (hwk hw 1 rfl)) (mvP hZ (hwk hw 98 rfl)) (mvT hZ (hwk hw 97 rfl)) (by decide)) (Cond.privateMethod_at (mvP hZ (hwk hw 98 rfl) (args := #[]))) (mvT hZ (hwk hw 99 rfl)) (by decide) (backOf (W := 0) (rmD40 l Z a0 hw [] a aI aT aP kI kT kP I10 D10 P10 o (I10 (0 : Int32)) (D10 (0 : Int32)) S T10.heap n0 Z10 hB HR17 (inv10.1 _ i4_0) (hol_open inv10) (inv10.2.1 _ i4_0 (by decide))) hZ (hwk hw 99 rfl) (hwk hw 2 rfl) (by decide) (by decide)) (g := (mkF m 34 #[rv a, iv (0 : Int32)] [(.double (D10 (0 : Int32))), (.int (I10 (0 : Int32))), (.int (0 : Int32)), (.ref a)])) rfl (by rw [hml]; rfl) (Steps.refl _) (a := a) (by rw [e15]; exact qa18) qb18 (argsL := [(.int (0 : Int32)), (.int (I10 (0 : Int32))), (.double (D10 (0 : Int32)))]) (rest := []) (lenOf pd__IID_V_e64 rfl) rfl (by show 2 * 0 + _ ≤ _; exact Nat.le_of_eq rfl) (hb hby dp23_19_34) (fun _ _ => ⟨rfl, e15, (by decide : 0 + 0 ≤ 0), (by decide : 0 + 0 ≤ 0)⟩)
    dsimp only [Pt.U, Pt.locs, Pt.cells, Pt.slots] at X18 l18 y18 z18 st18 hQ18
    subst l18 y18 z18
    obtain ⟨I18, D18, P18, rfl, N18q, K18, HQ18, inv18⟩ := hQ18
    have KK19 := KK11.trans K18 (allS (Or.inl (List.mem_of_getElem? (i := 0) rfl)) (allS (Or.inl (List.mem_of_getElem? (i := 1) rfl)) (allS (Or.inl (List.mem_of_getElem? (i := 2) rfl)) (allS (Or.inl (List.mem_of_getElem? (i := 3) rfl)) all0))))
    have Z18 : n0 ≤ T18.heap.size := Nat.le_trans Z10 K18.1
    obtain ⟨E20, FI20, FT20, FP20, FS20, FO20, VI20, VT20, VP20⟩ := id HQ18
    have N18 := Fr.app N10 N18q
    refine Goes.sts st18 ?_
    show Gs p e below s _ _ _ T18 m 37 #[rv a, iv (0 : Int32)] []
    refine Goes.st (fun tg kg => XS.iinc X18.here hx rfl (hb hby dp23_19_37) rfl (l' := #[rv a, iv (-1 : Int32)]) rfl kg) ?_
    show Gs p e below s _ _ _ T18 m 40 #[rv a, iv (-1 : Int32)] []
    refine ggoto X18 hx (pc' := 16) (hb hby dp23_19_40) (by decide) (by decide) ?_
    show Gs p e below s _ _ _ T18 m 16 #[rv a, iv (-1 : Int32)] []
    refine giloadN X18 hx (hb hby dp23_19_16) rfl ?_
    show Gs p e below s _ _ _ T18 m 17 #[rv a, iv (-1 : Int32)] [(.int (-1 : Int32))]
    refine gifYes X18 hx (pc' := 43) (hb hby dp23_19_17) (by decide) (by decide) (by decide) ?_
    show Gs p e below s _ _ _ T18 m 43 #[rv a, iv (-1 : Int32)] []
    refine galoadN X18 hx (hb hby dp23_19_43) rfl rfl ?_
    refine giconst X18 hx (hb hby dp23_19_44) ?_
    obtain ⟨T21, h21, X21, e21, W21, st21⟩ := putFN X18 hx hZ hown (hwk hw 9 rfl) Via.refl rfl FO20 E20 (Or.inl (hwk hw 10 rfl)) (hwk hw 1 rfl) (ty := .boolean) (v' := (.int (1 : Int32))) (by decide) rfl (by decide) (g := (mkF m 45 #[rv a, iv (-1 : Int32)] [(.int (1 : Int32)), (.ref a)])) rfl rfl (hb hby dp23_19_45)
    have N21 := Fr.snoc X21 N18 la
    have G21 := FO20.same W21
    refine Goes.st st21 ?_
    have KK22 := KK19.wr W21 (Or.inl (List.mem_of_getElem? (i := 0) rfl))
    have Z21 : n0 ≤ h21.size := by have := W21.size; have := Z18; omega
    show Gs p e below s _ _ _ T21 m 48 #[rv a, iv (-1 : Int32)] []
    have f23 := (E20.wr W21)
    have f24 := (FI20.other W21 (Or.inr (slot_ne (Or.inr (hwk hw 13 rfl)) (Or.inl (hwk hw 10 rfl)) (by decide) (t := (.array .int)) (t' := .boolean) (by decide) (by decide))))
    have f25 := (FT20.other W21 (Or.inr (slot_ne (Or.inr (hwk hw 16 rfl)) (Or.inl (hwk hw 10 rfl)) (by decide) (t := (.array .double)) (t' := .boolean) (by decide) (by decide))))
    have f26 := (FP20.other W21 (Or.inr (slot_ne (Or.inr (hwk hw 18 rfl)) (Or.inl (hwk hw 10 rfl)) (by decide) (t := (.array .int)) (t' := .boolean) (by decide) (by decide))))
    have f27 := (FS20.other W21 (Or.inr (slot_ne (Or.inl (hwk hw 30 rfl)) (Or.inl (hwk hw 10 rfl)) (by decide) (t := .int) (t' := .boolean) (by decide) (by decide))))
    have f28 := (VI20.other W21 (Ne.symm naI))
    have f29 := (VT20.other W21 (Ne.symm naT))
    have f30 := (VP20.other W21 (Ne.symm naP))
    have HR31 : HR Z h21 a aI aT aP kI kT kP I18 D18 P18 (4 : Int32) (1 : Int32) := ⟨f23, f24, f25, f26, f27, G21, f28, f29, f30⟩
    refine Goes.retV X21 hx hlk hret (hb hby dp23_19_48) ?_ (by decide) (by decide)
    rw [e21]
    exact ⟨I18, D18, P18, (1 : Int32), rfl, N21, KK22, HR31, inv18, (by decide)⟩
  · refine gifYes X2 hx (pc' := 48) (hb hby dp23_19_4) ((if0 _ _).trans (feq c3).2) (by decide) (by decide) ?_
    show Gs p e below s _ _ _ T2 m 48 #[rv a, .unset] []
    have HR32 : HR Z h0 a aI aT aP kI kT kP I D P (4 : Int32) o := ⟨E1, FI1, FT1, FP1, FS1, FO1, VI1, VT1, VP1⟩
    refine Goes.retV X2 hx hlk hret (hb hby dp23_19_48) ?_ (by decide) (by decide)
    rw [e2]
    exact ⟨I, D, P, o, rfl, N0, K0, HR32, hI, c3⟩
theorem ef_F4 (m : MethodId) (x0 : Addr) : entryFrame m #[(.ref x0)] 1 = mkF m 0 #[rv x0] [] := by first | (simp [entryFrame, mkF, argsToLocals, Value.category]; done) | rfl
def QF4 (Z : State) (a aI aT aP : Addr) (kI kT kP : ClassId) (I : Int32 → Int32) (D : Int32 → UInt64) (P : Int32 → Int32) (o : Int32) (S : Int32 → Prop) (h0 : Heap) (n0 : Nat) (v : Option Value) (h : Heap) (L : List Loc) : Prop := ∃ (I1 : Int32 → Int32) (D1 : Int32 → UInt64) (P1 : Int32 → Int32) (o1 x1 : Int32), v = some (.int x1) ∧ Fr n0 L ∧ Keep h0 h [a, aI, aT, aP] ∧ HR Z h a aI aT aP kI kT kP I1 D1 P1 (4 : Int32) o1 ∧ Inv (4 : Int32) S I1 P1 ∧ ¬ o1 = (0 : Int32)
set_option maxRecDepth 65536 in
set_option maxHeartbeats 40000000 in
theorem rmF4 (l : Launch) (Z : State) (a0 : Array Value) (hw : ∀ d ∈ tables_1, d.before a0 Z = true) (ws : List Jvm.Cond) (a aI aT aP : Addr) (kI kT kP : ClassId) (I : Int32 → Int32) (D : Int32 → UInt64) (P : Int32 → Int32) (o : Int32) (S : Int32 → Prop) (h0 : Heap) (n0 : Nat) (Z0 : n0 ≤ h0.size) (hB : HB n0 a aI aT aP) (hR : HR Z h0 a aI aT aP kI kT kP I D P (4 : Int32) o) (hI : Inv (4 : Int32) S I P) :
    MetFree l mN13 (head1 (Jvm.Cond.code mN13 prog_23_method_8_code 1 (some .int) :: ws) ({ frames := 3, cells := 0, slots := 0, locals := 50 } : Room)) (fun aa U => aa = #[(.ref a)] ∧ Z.Warmed39 U.vm ∧ U.heap = h0) (fun _ _ _ _ _ => True) (fun _ u1_ o_ u2_ => ∃ v_ l_, o_ = .returned v_ ∧ QF4 Z a aI aT aP kI kT kP I D P o S h0 n0 v_ u2_.heap l_ ∧ FrameEnd u1_ o_ u2_ l_ ({ frames := 3, cells := 0, slots := 0, locals := 50 } : Room).cells ({ frames := 3, cells := 0, slots := 0, locals := 50 } : Room).slots) := by
  refine MetFree.of_bodySF (plainFor_of_name pn_com_example_redoubt_redoubt_engine_IndexHeap) hisR ?_
  intro p e s m args below meth c s₁ Bd hml0 hP hK
  obtain ⟨rfl, hZ, hh⟩ := hP
  have hx := Bd.exec
  have hby := Bd.bytes
  have hlk := BodyLoose.notSynchronized Bd
  have hret := Bd.returns
  have hml : c.maxLocals = 1 := hml0
  have hown : s.vm.findClass "com/example/redoubt/redoubt/engine/IndexHeap" = some m.cls := findClass_of_methodNamed Bd.named
  have hnm := (name_of_methodNamed Bd.named Bd.method).1
  have X0 : Stand p l e ({ frames := 3, cells := 0, slots := 0, locals := 50 } : Room) s m #[(.ref a)] below meth c s₁ [] 0 0 := Stand.of_body Bd
  have e0 : s₁.heap = h0 := by rw [← hh, Bd.state]; rfl
  have N0 := Fr.nil n0
  refine Goes.st (s := s) (Q := QF4 Z a aI aT aP kI kT kP I D P o S h0 n0) (cs := ({ frames := 3, cells := 0, slots := 0, locals := 50 } : Room).cells) (ss := ({ frames := 3, cells := 0, slots := 0, locals := 50 } : Room).slots) (fun tg kg => castTop (ef_F4 m a) kg) ?_
  obtain ⟨la, lI, lT, lP, naI, naT, naP, nIT, nIP, nTP⟩ := id hB
  obtain ⟨E1, FI1, FT1, FP1, FS1, FO1, VI1, VT1, VP1⟩ := id hR
  have K0 : Keep h0 h0 [a, aI, aT, aP] := Keep.refl _ _
  show Gs p e below s _ _ _ s₁ m 0 #[rv a] []
  refine galoadN X0 hx (hb hby dp23_8_0) rfl rfl ?_
  obtain ⟨T2, X2, e2, st2⟩ := getF X0 hx hZ hown (host := "") (Or.inl (hwk hw 29 rfl)) Via.refl e0 FS1 (g := (mkF m 1 #[rv a] [(.ref a)])) rfl rfl (hb hby dp23_8_1)
  refine Goes.st st2 ?_
  show Gs p e below s _ _ _ T2 m 4 #[rv a] [(.int (4 : Int32))]
  refine gifYes X2 hx (pc' := 17) (hb hby dp23_8_4) (by decide) (by decide) (by decide) ?_
  show Gs p e below s _ _ _ T2 m 17 #[rv a] []
  refine galoadN X2 hx (hb hby dp23_8_17) rfl rfl ?_
  have HR3 : HR Z h0 a aI aT aP kI kT kP I D P (4 : Int32) o := ⟨E1, FI1, FT1, FP1, FS1, FO1, VI1, VT1, VP1⟩
  obtain ⟨cc4, qa4, qb4⟩ := Exa.cell E1
  obtain ⟨_, _, ⟨T4, L4, k4, n4⟩, -, X4, ⟨Lc4, hQ4, l4, y4, z4⟩, st4⟩ := X2.privateBack hx (y := mN12) hown (mvT hZ (hwk hw 92 rfl)) (mvT hZ (hwk hw 93 rfl)) (selP (y := mN12) (as := #[]) (mvT hZ (hwk hw 1 rfl)) (mvP hZ (hwk hw 94 rfl)) (mvT hZ (hwk hw 93 rfl)) (by decide)) (Cond.privateMethod_at (mvP hZ (hwk hw 94 rfl) (args := #[]))) (mvT hZ (hwk hw 95 rfl)) (by decide) (backOf (W := 0) (rmO4 l Z a0 hw [] a aI aT aP kI kT kP I D P o S h0 n0 Z0 hB HR3 hI) hZ (hwk hw 95 rfl) (hwk hw 2 rfl) (by decide) (by decide)) (g := (mkF m 18 #[rv a] [(.ref a)])) rfl (by rw [hml]; rfl) (Steps.refl _) (a := a) (by rw [e2]; exact qa4) qb4 (argsL := []) (rest := []) (lenOf pd___V_566 rfl) rfl (by show 2 * 0 + _ ≤ _; exact Nat.le_of_eq rfl) (hb hby dp23_8_18) (fun _ _ => ⟨rfl, e2, (by decide : 0 + 0 ≤ 0), (by decide : 0 + 0 ≤ 0)⟩)
  dsimp only [Pt.U, Pt.locs, Pt.cells, Pt.slots] at X4 l4 y4 z4 st4 hQ4
  subst l4 y4 z4
  obtain ⟨I4, D4, P4, o4, rfl, N4q, K4, HQ4, inv4, ho4⟩ := hQ4
  have KK5 := K0.trans K4 (allS (Or.inl (List.mem_of_getElem? (i := 0) rfl)) (allS (Or.inl (List.mem_of_getElem? (i := 1) rfl)) (allS (Or.inl (List.mem_of_getElem? (i := 2) rfl)) (allS (Or.inl (List.mem_of_getElem? (i := 3) rfl)) all0))))
  have Z4 : n0 ≤ T4.heap.size := Nat.le_trans Z0 K4.1
  obtain ⟨E6, FI6, FT6, FP6, FS6, FO6, VI6, VT6, VP6⟩ := id HQ4
  have N4 := Fr.app N0 N4q
  refine Goes.sts st4 ?_
  show Gs p e below s _ _ _ T4 m 21 #[rv a] []
  refine galoadN X4 hx (hb hby dp23_8_21) rfl rfl ?_
  obtain ⟨T7, X7, e7, st7⟩ := getF X4 hx hZ hown (host := "") (Or.inl (hwk hw 12 rfl)) Via.refl rfl FI6 (g := (mkF m 22 #[rv a] [(.ref a)])) rfl rfl (hb hby dp23_8_22)
  refine Goes.st st7 ?_
  refine giconst X7 hx (hb hby dp23_8_25) ?_
  show Gs p e below s _ _ _ T7 m 26 #[rv a] [(.int (0 : Int32)), (.ref aI)]
  obtain ⟨cl8, Ar8, qk8, Sz8, qz8, Ha8, Gf8⟩ := id VI6
  have in8 := inb_of (j := (0 : Int32)) Sz8 ⟨by decide, by decide⟩
  refine Goes.st (fun tg kg => X7.iaload hx (j := (0 : Int32)) (v := (.int (I4 (0 : Int32)))) (by rw [e7]; exact Ar8.1) (State.isArrayOf_alike hZ.alike Ar8.2.1) Ar8.2.2 in8 (Ha8.at in8 (get_lst i4_0)) (g := (mkF m 26 #[rv a] [(.int (0 : Int32)), (.ref aI)])) rfl rfl (hb hby dp23_8_26) tg kg) ?_
  show Gs p e below s _ _ _ T7 m 27 #[rv a] [(.int (I4 (0 : Int32)))]
  have HR9 : HR Z T4.heap a aI aT aP kI kT kP I4 D4 P4 (4 : Int32) o4 := ⟨E6, FI6, FT6, FP6, FS6, FO6, VI6, VT6, VP6⟩
  refine Goes.retI X7 hx hlk hret (hb hby dp23_8_27) ?_ (by decide) (by decide)
  rw [e7]
  exact ⟨I4, D4, P4, o4, (I4 (0 : Int32)), rfl, N4, KK5, HR9, inv4, ho4⟩
theorem ef_R4 (m : MethodId) (x0 : Addr) (x1 : Int32) : entryFrame m #[(.ref x0), (.int x1)] 5 = mkF m 0 #[rv x0, iv x1, .unset, .unset, .unset] [] := by first | (simp [entryFrame, mkF, argsToLocals, Value.category]; done) | rfl
def QR4 (Z : State) (a aI aT aP : Addr) (kI kT kP : ClassId) (I : Int32 → Int32) (D : Int32 → UInt64) (P : Int32 → Int32) (o : Int32) (S : Int32 → Prop) (h0 : Heap) (n0 : Nat) (v : Option Value) (h : Heap) (L : List Loc) : Prop := ∃ (I1 : Int32 → Int32) (D1 : Int32 → UInt64) (P1 : Int32 → Int32), v = none ∧ Fr n0 L ∧ Keep h0 h [a, aI, aT, aP] ∧ HR Z h a aI aT aP kI kT kP I1 D1 P1 (3 : Int32) o ∧ Inv (3 : Int32) S I1 P1
set_option maxRecDepth 65536 in
set_option maxHeartbeats 40000000 in
theorem rmR4 (l : Launch) (Z : State) (a0 : Array Value) (hw : ∀ d ∈ tables_1, d.before a0 Z = true) (ws : List Jvm.Cond) (a aI aT aP : Addr) (kI kT kP : ClassId) (I : Int32 → Int32) (D : Int32 → UInt64) (P : Int32 → Int32) (o : Int32) (S : Int32 → Prop) (h0 : Heap) (n0 : Nat) (Z0 : n0 ≤ h0.size) (hB : HB n0 a aI aT aP) (hR : HR Z h0 a aI aT aP kI kT kP I D P (4 : Int32) o) (hI : Inv (4 : Int32) S I P) (ho : ¬ o = (0 : Int32)) :
    MetFree l mN14 (head1 (Jvm.Cond.code mN14 prog_23_method_21_code 5 none :: ws) ({ frames := 2, cells := 0, slots := 0, locals := 37 } : Room)) (fun aa U => aa = #[(.ref a), (.int (0 : Int32))] ∧ Z.Warmed39 U.vm ∧ U.heap = h0) (fun _ _ _ _ _ => True) (fun _ u1_ o_ u2_ => ∃ v_ l_, o_ = .returned v_ ∧ QR4 Z a aI aT aP kI kT kP I D P o S h0 n0 v_ u2_.heap l_ ∧ FrameEnd u1_ o_ u2_ l_ ({ frames := 2, cells := 0, slots := 0, locals := 37 } : Room).cells ({ frames := 2, cells := 0, slots := 0, locals := 37 } : Room).slots) := by
  refine MetFree.of_bodySF (plainFor_of_name pn_com_example_redoubt_redoubt_engine_IndexHeap) hisR ?_
  intro p e s m args below meth c s₁ Bd hml0 hP hK
  obtain ⟨rfl, hZ, hh⟩ := hP
  have hx := Bd.exec
  have hby := Bd.bytes
  have hlk := BodyLoose.notSynchronized Bd
  have hret := Bd.returns
  have hml : c.maxLocals = 5 := hml0
  have hown : s.vm.findClass "com/example/redoubt/redoubt/engine/IndexHeap" = some m.cls := findClass_of_methodNamed Bd.named
  have hnm := (name_of_methodNamed Bd.named Bd.method).1
  have X0 : Stand p l e ({ frames := 2, cells := 0, slots := 0, locals := 37 } : Room) s m #[(.ref a), (.int (0 : Int32))] below meth c s₁ [] 0 0 := Stand.of_body Bd
  have e0 : s₁.heap = h0 := by rw [← hh, Bd.state]; rfl
  have N0 := Fr.nil n0
  refine Goes.st (s := s) (Q := QR4 Z a aI aT aP kI kT kP I D P o S h0 n0) (cs := ({ frames := 2, cells := 0, slots := 0, locals := 37 } : Room).cells) (ss := ({ frames := 2, cells := 0, slots := 0, locals := 37 } : Room).slots) (fun tg kg => castTop (ef_R4 m a (0 : Int32)) kg) ?_
  obtain ⟨la, lI, lT, lP, naI, naT, naP, nIT, nIP, nTP⟩ := id hB
  obtain ⟨E1, FI1, FT1, FP1, FS1, FO1, VI1, VT1, VP1⟩ := id hR
  have K0 : Keep h0 h0 [a, aI, aT, aP] := Keep.refl _ _
  show Gs p e below s _ _ _ s₁ m 0 #[rv a, iv (0 : Int32), .unset, .unset, .unset] []
  refine galoadN X0 hx (hb hby dp23_21_0) rfl rfl ?_
  obtain ⟨T2, X2, e2, st2⟩ := getF X0 hx hZ hown (host := "") (Or.inl (hwk hw 17 rfl)) Via.refl e0 FP1 (g := (mkF m 1 #[rv a, iv (0 : Int32), .unset, .unset, .unset] [(.ref a)])) rfl rfl (hb hby dp23_21_1)
  refine Goes.st st2 ?_
  refine galoadN X2 hx (hb hby dp23_21_4) rfl rfl ?_
  obtain ⟨T3, X3, e3, st3⟩ := getF X2 hx hZ hown (host := "") (Or.inl (hwk hw 12 rfl)) Via.refl e2 FI1 (g := (mkF m 5 #[rv a, iv (0 : Int32), .unset, .unset, .unset] [(.ref a), (.ref aP)])) rfl rfl (hb hby dp23_21_5)
  refine Goes.st st3 ?_
  refine giloadN X3 hx (hb hby dp23_21_8) rfl ?_
  show Gs p e below s _ _ _ T3 m 9 #[rv a, iv (0 : Int32), .unset, .unset, .unset] [(.int (0 : Int32)), (.ref aI), (.ref aP)]
  obtain ⟨cl4, Ar4, qk4, Sz4, qz4, Ha4, Gf4⟩ := id VI1
  have in4 := inb_of (j := (0 : Int32)) Sz4 ⟨by decide, by decide⟩
  refine Goes.st (fun tg kg => X3.iaload hx (j := (0 : Int32)) (v := (.int (I (0 : Int32)))) (by rw [e3]; exact Ar4.1) (State.isArrayOf_alike hZ.alike Ar4.2.1) Ar4.2.2 in4 (Ha4.at in4 (get_lst i4_0)) (g := (mkF m 9 #[rv a, iv (0 : Int32), .unset, .unset, .unset] [(.int (0 : Int32)), (.ref aI), (.ref aP)])) rfl rfl (hb hby dp23_21_9) tg kg) ?_
  refine giconst X3 hx (hb hby dp23_21_10) ?_
  show Gs p e below s _ _ _ T3 m 11 #[rv a, iv (0 : Int32), .unset, .unset, .unset] [(.int (-1 : Int32)), (.int (I (0 : Int32))), (.ref aP)]
  obtain ⟨cl5, Ar5, qk5, Sz5, qz5, Ha5, Gf5⟩ := id VP1
  obtain ⟨T5, h5, X5, e5, W5, st5⟩ := stI X3 hx hZ e3 Ar5 (inb_of Sz5 (own_in (hI.1 _ i4_0))) (g := (mkF m 11 #[rv a, iv (0 : Int32), .unset, .unset, .unset] [(.int (-1 : Int32)), (.int (I (0 : Int32))), (.ref aP)])) rfl rfl (hb hby dp23_21_11)
  have N5 := Fr.snoc X5 N0 lP
  have V5 : Arv Z h5 aP kP .int (4 : Int32) (lst (upd P (I (0 : Int32)) (-1 : Int32))) (.int (0 : Int32)) := setI Ar5 qk5 Sz5 qz5 Ha5 Gf5 W5 (hI.1 _ i4_0)
  refine Goes.st st5 ?_
  have KK6 := K0.wr W5 (Or.inl (List.mem_of_getElem? (i := 3) rfl))
  have Z5 : n0 ≤ h5.size := by have := W5.size; have := Z0; omega
  show Gs p e below s _ _ _ T5 m 12 #[rv a, iv (0 : Int32), .unset, .unset, .unset] []
  refine galoadN X5 hx (hb hby dp23_21_12) rfl rfl ?_
  refine gdup X5 hx (hb hby dp23_21_13) trivial rfl ?_
  have f8 := (FS1.other W5 (Or.inl naP))
  obtain ⟨T7, X7, e7, st7⟩ := getF X5 hx hZ hown (host := "") (Or.inl (hwk hw 29 rfl)) Via.refl e5 f8 (g := (mkF m 14 #[rv a, iv (0 : Int32), .unset, .unset, .unset] [(.ref a), (.ref a)])) rfl rfl (hb hby dp23_21_14)
  refine Goes.st st7 ?_
  refine giconst X7 hx (hb hby dp23_21_17) ?_
  refine gisub X7 hx (hb hby dp23_21_18) trivial ?_
  show Gs p e below s _ _ _ T7 m 19 #[rv a, iv (0 : Int32), .unset, .unset, .unset] [(.int ((4 : Int32) - (1 : Int32))), (.ref a)]
  rw [show ((4 : Int32) - (1 : Int32)) = (3 : Int32) from by decide]
  show Gs p e below s _ _ _ T7 m 19 #[rv a, iv (0 : Int32), .unset, .unset, .unset] [(.int (3 : Int32)), (.ref a)]
  have f10 := (E1.wr W5)
  obtain ⟨T9, h9, X9, e9, W9, st9⟩ := putF X7 hx hZ hown (host := "") (Or.inl (hwk hw 29 rfl)) Via.refl e7 f8 f10 (Or.inl (hwk hw 30 rfl)) (hwk hw 1 rfl) (ty := .int) (by decide) rfl rfl (g := (mkF m 19 #[rv a, iv (0 : Int32), .unset, .unset, .unset] [(.int (3 : Int32)), (.ref a)])) rfl rfl (hb hby dp23_21_19)
  have N9 := Fr.snoc X9 N5 la
  have G9 := f8.same W9
  refine Goes.st st9 ?_
  have KK11 := KK6.wr W9 (Or.inl (List.mem_of_getElem? (i := 0) rfl))
  have Z9 : n0 ≤ h9.size := by have := W9.size; have := Z5; omega
  show Gs p e below s _ _ _ T9 m 22 #[rv a, iv (0 : Int32), .unset, .unset, .unset] []
  refine giloadN X9 hx (hb hby dp23_21_22) rfl ?_
  refine galoadN X9 hx (hb hby dp23_21_23) rfl rfl ?_
  obtain ⟨T12, X12, e12, st12⟩ := getF X9 hx hZ hown (host := "") (Or.inl (hwk hw 29 rfl)) Via.refl e9 G9 (g := (mkF m 24 #[rv a, iv (0 : Int32), .unset, .unset, .unset] [(.ref a), (.int (0 : Int32))])) rfl rfl (hb hby dp23_21_24)
  refine Goes.st st12 ?_
  show Gs p e below s _ _ _ T12 m 27 #[rv a, iv (0 : Int32), .unset, .unset, .unset] [(.int (3 : Int32)), (.int (0 : Int32))]
  refine gicmpNo X12 hx (hb hby dp23_21_27) (by decide) ?_
  show Gs p e below s _ _ _ T12 m 30 #[rv a, iv (0 : Int32), .unset, .unset, .unset] []
  refine galoadN X12 hx (hb hby dp23_21_30) rfl rfl ?_
  have f14 := ((FI1.other W5 (Or.inl naP)).other W9 (Or.inr (slot_ne (Or.inr (hwk hw 13 rfl)) (Or.inl (hwk hw 30 rfl)) (by decide) (t := (.array .int)) (t' := .int) (by decide) (by decide))))
  obtain ⟨T13, X13, e13, st13⟩ := getF X12 hx hZ hown (host := "") (Or.inl (hwk hw 12 rfl)) Via.refl e12 f14 (g := (mkF m 31 #[rv a, iv (0 : Int32), .unset, .unset, .unset] [(.ref a)])) rfl rfl (hb hby dp23_21_31)
  refine Goes.st st13 ?_
  refine galoadN X13 hx (hb hby dp23_21_34) rfl rfl ?_
  obtain ⟨T15, X15, e15, st15⟩ := getF X13 hx hZ hown (host := "") (Or.inl (hwk hw 29 rfl)) Via.refl e13 G9 (g := (mkF m 35 #[rv a, iv (0 : Int32), .unset, .unset, .unset] [(.ref a), (.ref aI)])) rfl rfl (hb hby dp23_21_35)
  refine Goes.st st15 ?_
  show Gs p e below s _ _ _ T15 m 38 #[rv a, iv (0 : Int32), .unset, .unset, .unset] [(.int (3 : Int32)), (.ref aI)]
  have f16 := ((VI1.other W5 nIP).other W9 (Ne.symm naI))
  obtain ⟨cl17, Ar17, qk17, Sz17, qz17, Ha17, Gf17⟩ := id f16
  have in17 := inb_of (j := (3 : Int32)) Sz17 ⟨by decide, by decide⟩
  refine Goes.st (fun tg kg => X15.iaload hx (j := (3 : Int32)) (v := (.int (I (3 : Int32)))) (by rw [e15]; exact Ar17.1) (State.isArrayOf_alike hZ.alike Ar17.2.1) Ar17.2.2 in17 (Ha17.at in17 (get_lst i4_3)) (g := (mkF m 38 #[rv a, iv (0 : Int32), .unset, .unset, .unset] [(.int (3 : Int32)), (.ref aI)])) rfl rfl (hb hby dp23_21_38) tg kg) ?_
  refine gistoreN X15 hx (hb hby dp23_21_39) trivial (l' := #[rv a, iv (0 : Int32), iv (I (3 : Int32)), .unset, .unset]) rfl ?_
  refine galoadN X15 hx (hb hby dp23_21_40) rfl rfl ?_
  have f19 := ((FT1.other W5 (Or.inl naP)).other W9 (Or.inr (slot_ne (Or.inr (hwk hw 16 rfl)) (Or.inl (hwk hw 30 rfl)) (by decide) (t := (.array .double)) (t' := .int) (by decide) (by decide))))
  obtain ⟨T18, X18, e18, st18⟩ := getF X15 hx hZ hown (host := "") (Or.inl (hwk hw 15 rfl)) Via.refl e15 f19 (g := (mkF m 41 #[rv a, iv (0 : Int32), iv (I (3 : Int32)), .unset, .unset] [(.ref a)])) rfl rfl (hb hby dp23_21_41)
  refine Goes.st st18 ?_
  refine galoadN X18 hx (hb hby dp23_21_44) rfl rfl ?_
  show Gs p e below s _ _ _ T18 m 45 #[rv a, iv (0 : Int32), iv (I (3 : Int32)), .unset, .unset] [(.ref a), (.ref aT)]
  obtain ⟨T20, X20, e20, st20⟩ := getF X18 hx hZ hown (host := "") (Or.inl (hwk hw 29 rfl)) Via.refl e18 G9 (g := (mkF m 45 #[rv a, iv (0 : Int32), iv (I (3 : Int32)), .unset, .unset] [(.ref a), (.ref aT)])) rfl rfl (hb hby dp23_21_45)
  refine Goes.st st20 ?_
  show Gs p e below s _ _ _ T20 m 48 #[rv a, iv (0 : Int32), iv (I (3 : Int32)), .unset, .unset] [(.int (3 : Int32)), (.ref aT)]
  have f21 := ((VT1.other W5 nTP).other W9 (Ne.symm naT))
  obtain ⟨cl22, Ar22, qk22, Sz22, qz22, Ha22, Gf22⟩ := id f21
  have in22 := inb_of (j := (3 : Int32)) Sz22 ⟨by decide, by decide⟩
  refine Goes.st (fun tg kg => X20.daload hx (j := (3 : Int32)) (v := (.double (D (3 : Int32)))) (by rw [e20]; exact Ar22.1) (State.isArrayOf_alike hZ.alike Ar22.2.1) Ar22.2.2 in22 (Ha22.at in22 (get_dls i4_3)) (g := (mkF m 48 #[rv a, iv (0 : Int32), iv (I (3 : Int32)), .unset, .unset] [(.int (3 : Int32)), (.ref aT)])) rfl rfl (hb hby dp23_21_48) tg kg) ?_
  refine gdstoreN X20 hx (hb hby dp23_21_49) trivial (l' := #[rv a, iv (0 : Int32), iv (I (3 : Int32)), .val (.double (D (3 : Int32))), .second]) rfl ?_
  refine galoadN X20 hx (hb hby dp23_21_50) rfl rfl ?_
  have f24 := ((FO1.other W5 (Or.inl naP)).other W9 (Or.inr (slot_ne (Or.inl (hwk hw 10 rfl)) (Or.inl (hwk hw 30 rfl)) (by decide) (t := .boolean) (t' := .int) (by decide) (by decide))))
  obtain ⟨T23, X23, e23, st23⟩ := getF X20 hx hZ hown (host := "") (Or.inl (hwk hw 9 rfl)) Via.refl e20 f24 (g := (mkF m 51 #[rv a, iv (0 : Int32), iv (I (3 : Int32)), .val (.double (D (3 : Int32))), .second] [(.ref a)])) rfl rfl (hb hby dp23_21_51)
  refine Goes.st st23 ?_
  show Gs p e below s _ _ _ T23 m 54 #[rv a, iv (0 : Int32), iv (I (3 : Int32)), .val (.double (D (3 : Int32))), .second] [(.int o)]
  refine gifNo X23 hx (hb hby dp23_21_54) ((if0 _ _).trans (feq ho).1) ?_
  show Gs p e below s _ _ _ T23 m 57 #[rv a, iv (0 : Int32), iv (I (3 : Int32)), .val (.double (D (3 : Int32))), .second] []
  refine galoadN X23 hx (hb hby dp23_21_57) rfl rfl ?_
  refine giloadN X23 hx (hb hby dp23_21_58) rfl ?_
  refine giloadN X23 hx (hb hby dp23_21_59) rfl ?_
  refine gdloadN X23 hx (hb hby dp23_21_60) rfl ?_
  have f25 := (f10.wr W9)
  have f26 := ((FP1.other W5 (Or.inl naP)).other W9 (Or.inr (slot_ne (Or.inr (hwk hw 18 rfl)) (Or.inl (hwk hw 30 rfl)) (by decide) (t := (.array .int)) (t' := .int) (by decide) (by decide))))
  have f27 := (V5.other W9 (Ne.symm naP))
  have HR28 : HR Z h9 a aI aT aP kI kT kP I D (upd P (I (0 : Int32)) (-1 : Int32)) (3 : Int32) o := ⟨f25, f14, f19, f26, G9, f24, f16, f21, f27⟩
  obtain ⟨cc29, qa29, qb29⟩ := Exa.cell f25
  obtain ⟨_, _, ⟨T29, L29, k29, n29⟩, -, X29, ⟨Lc29, hQ29, l29, y29, z29⟩, st29⟩ := X23.privateBack hx (y := mN8) hown (mvT hZ (hwk hw 96 rfl)) (mvT hZ (hwk hw 97 rfl)) (selP (y := mN8) (as := #[]) (mvT hZ (hwk hw 1 rfl)) (mvP hZ (hwk hw 98 rfl)) (mvT hZ (hwk hw 97 rfl)) (by decide)) (Cond.privateMethod_at (mvP hZ (hwk hw 98 rfl) (args := #[]))) (mvT hZ (hwk hw 99 rfl)) (by decide) (backOf (W := 0) (rmD30 l Z a0 hw [] a aI aT aP kI kT kP I D (upd P (I (0 : Int32)) (-1 : Int32)) o (I (3 : Int32)) (D (3 : Int32)) S h9 n0 Z9 hB HR28 (hI.1 _ i4_3) (hol_cut (n := (4 : Int32)) (n' := (3 : Int32)) hI (fun j hj h => by rcases hj with rfl | rfl | rfl | rfl <;> revert h <;> decide) (fun j hj h h2 => by rcases hj with rfl | rfl | rfl | rfl <;> revert h h2 <;> decide)) (hI.2.1 _ i4_3 (by decide))) hZ (hwk hw 99 rfl) (hwk hw 2 rfl) (by decide) (by decide)) (g := (mkF m 61 #[rv a, iv (0 : Int32), iv (I (3 : Int32)), .val (.double (D (3 : Int32))), .second] [(.double (D (3 : Int32))), (.int (I (3 : Int32))), (.int (0 : Int32)), (.ref a)])) rfl (by rw [hml]; rfl) (Steps.refl _) (a := a) (by rw [e23]; exact qa29) qb29 (argsL := [(.int (0 : Int32)), (.int (I (3 : Int32))), (.double (D (3 : Int32)))]) (rest := []) (lenOf pd__IID_V_e64 rfl) rfl (by show 2 * 0 + _ ≤ _; exact Nat.le_of_eq rfl) (hb hby dp23_21_61) (fun _ _ => ⟨rfl, e23, (by decide : 0 + 0 ≤ 0), (by decide : 0 + 0 ≤ 0)⟩)
  dsimp only [Pt.U, Pt.locs, Pt.cells, Pt.slots] at X29 l29 y29 z29 st29 hQ29
  subst l29 y29 z29
  obtain ⟨I29, D29, P29, rfl, N29q, K29, HQ29, inv29⟩ := hQ29
  have KK30 := KK11.trans K29 (allS (Or.inl (List.mem_of_getElem? (i := 0) rfl)) (allS (Or.inl (List.mem_of_getElem? (i := 1) rfl)) (allS (Or.inl (List.mem_of_getElem? (i := 2) rfl)) (allS (Or.inl (List.mem_of_getElem? (i := 3) rfl)) all0))))
  have Z29 : n0 ≤ T29.heap.size := Nat.le_trans Z9 K29.1
  obtain ⟨E31, FI31, FT31, FP31, FS31, FO31, VI31, VT31, VP31⟩ := id HQ29
  have N29 := Fr.app N9 N29q
  refine Goes.sts st29 ?_
  show Gs p e below s _ _ _ T29 m 64 #[rv a, iv (0 : Int32), iv (I (3 : Int32)), .val (.double (D (3 : Int32))), .second] []
  refine galoadN X29 hx (hb hby dp23_21_64) rfl rfl ?_
  obtain ⟨T32, X32, e32, st32⟩ := getF X29 hx hZ hown (host := "") (Or.inl (hwk hw 12 rfl)) Via.refl rfl FI31 (g := (mkF m 65 #[rv a, iv (0 : Int32), iv (I (3 : Int32)), .val (.double (D (3 : Int32))), .second] [(.ref a)])) rfl rfl (hb hby dp23_21_65)
  refine Goes.st st32 ?_
  refine giloadN X32 hx (hb hby dp23_21_68) rfl ?_
  show Gs p e below s _ _ _ T32 m 69 #[rv a, iv (0 : Int32), iv (I (3 : Int32)), .val (.double (D (3 : Int32))), .second] [(.int (0 : Int32)), (.ref aI)]
  obtain ⟨cl33, Ar33, qk33, Sz33, qz33, Ha33, Gf33⟩ := id VI31
  have in33 := inb_of (j := (0 : Int32)) Sz33 ⟨by decide, by decide⟩
  refine Goes.st (fun tg kg => X32.iaload hx (j := (0 : Int32)) (v := (.int (I29 (0 : Int32)))) (by rw [e32]; exact Ar33.1) (State.isArrayOf_alike hZ.alike Ar33.2.1) Ar33.2.2 in33 (Ha33.at in33 (get_lst i4_0)) (g := (mkF m 69 #[rv a, iv (0 : Int32), iv (I (3 : Int32)), .val (.double (D (3 : Int32))), .second] [(.int (0 : Int32)), (.ref aI)])) rfl rfl (hb hby dp23_21_69) tg kg) ?_
  refine giloadN X32 hx (hb hby dp23_21_70) rfl ?_
  show Gs p e below s _ _ _ T32 m 71 #[rv a, iv (0 : Int32), iv (I (3 : Int32)), .val (.double (D (3 : Int32))), .second] [(.int (I (3 : Int32))), (.int (I29 (0 : Int32)))]
  by_cases c34 : (I29 (0 : Int32)) = (I (3 : Int32))
  · refine gicmpNo X32 hx (hb hby dp23_21_71) (teq c34).2 ?_
    show Gs p e below s _ _ _ T32 m 74 #[rv a, iv (0 : Int32), iv (I (3 : Int32)), .val (.double (D (3 : Int32))), .second] []
    refine galoadN X32 hx (hb hby dp23_21_74) rfl rfl ?_
    refine giloadN X32 hx (hb hby dp23_21_75) rfl ?_
    refine giloadN X32 hx (hb hby dp23_21_76) rfl ?_
    refine gdloadN X32 hx (hb hby dp23_21_77) rfl ?_
    have HR35 : HR Z T29.heap a aI aT aP kI kT kP I29 D29 P29 (3 : Int32) o := ⟨E31, FI31, FT31, FP31, FS31, FO31, VI31, VT31, VP31⟩
    have ho36 : Hol (3 : Int32) 0 (I (3 : Int32)) S I29 P29 := by have q := hol_open (t := 0) inv29; rw [c34] at q; exact q
    obtain ⟨cc37, qa37, qb37⟩ := Exa.cell E31
    obtain ⟨_, _, ⟨T37, L37, k37, n37⟩, -, X37, ⟨Lc37, hQ37, l37, y37, z37⟩, st37⟩ := X32.privateBack hx (y := mN7) hown (mvT hZ (hwk hw 61 rfl)) (mvT hZ (hwk hw 62 rfl)) (selP (y := mN7) (as := #[]) (mvT hZ (hwk hw 1 rfl)) (mvP hZ (hwk hw 63 rfl)) (mvT hZ (hwk hw 62 rfl)) (by decide)) (Cond.privateMethod_at (mvP hZ (hwk hw 63 rfl) (args := #[]))) (mvT hZ (hwk hw 64 rfl)) (by decide) (backOf (W := 0) (rmU0 l Z a0 hw [] a aI aT aP kI kT kP I29 D29 P29 (3 : Int32) o (I (3 : Int32)) (D (3 : Int32)) S T29.heap n0 Z29 hB HR35 (hI.1 _ i4_3) ho36 (hI.2.1 _ i4_3 (by decide)) (by decide)) hZ (hwk hw 64 rfl) (hwk hw 2 rfl) (by decide) (by decide)) (g := (mkF m 78 #[rv a, iv (0 : Int32), iv (I (3 : Int32)), .val (.double (D (3 : Int32))), .second] [(.double (D (3 : Int32))), (.int (I (3 : Int32))), (.int (0 : Int32)), (.ref a)])) rfl (by rw [hml]; rfl) (Steps.refl _) (a := a) (by rw [e32]; exact qa37) qb37 (argsL := [(.int (0 : Int32)), (.int (I (3 : Int32))), (.double (D (3 : Int32)))]) (rest := []) (lenOf pd__IID_V_e64 rfl) rfl (by show 2 * 0 + _ ≤ _; exact Nat.le_of_eq rfl) (hb hby dp23_21_78) (fun _ _ => ⟨rfl, e32, (by decide : 0 + 0 ≤ 0), (by decide : 0 + 0 ≤ 0)⟩)
    dsimp only [Pt.U, Pt.locs, Pt.cells, Pt.slots] at X37 l37 y37 z37 st37 hQ37
    subst l37 y37 z37
    obtain ⟨I37, D37, P37, rfl, N37q, K37, HQ37, inv37⟩ := hQ37
    have KK38 := KK30.trans K37 (allS (Or.inl (List.mem_of_getElem? (i := 0) rfl)) (allS (Or.inl (List.mem_of_getElem? (i := 1) rfl)) (allS (Or.inl (List.mem_of_getElem? (i := 2) rfl)) (allS (Or.inl (List.mem_of_getElem? (i := 3) rfl)) all0))))
    have Z37 : n0 ≤ T37.heap.size := Nat.le_trans Z29 K37.1
    obtain ⟨E39, FI39, FT39, FP39, FS39, FO39, VI39, VT39, VP39⟩ := id HQ37
    have N37 := Fr.app N29 N37q
    refine Goes.sts st37 ?_
    show Gs p e below s _ _ _ T37 m 81 #[rv a, iv (0 : Int32), iv (I (3 : Int32)), .val (.double (D (3 : Int32))), .second] []
    refine ggoto X37 hx (pc' := 91) (hb hby dp23_21_81) (by decide) (by decide) ?_
    show Gs p e below s _ _ _ T37 m 91 #[rv a, iv (0 : Int32), iv (I (3 : Int32)), .val (.double (D (3 : Int32))), .second] []
    have HR40 : HR Z T37.heap a aI aT aP kI kT kP I37 D37 P37 (3 : Int32) o := ⟨E39, FI39, FT39, FP39, FS39, FO39, VI39, VT39, VP39⟩
    refine Goes.retV X37 hx hlk hret (hb hby dp23_21_91) ?_ (by decide) (by decide)
    exact ⟨I37, D37, P37, rfl, N37, KK38, HR40, inv37⟩
  · refine gicmpYes X32 hx (pc' := 91) (hb hby dp23_21_71) (feq c34).2 (by decide) (by decide) ?_
    show Gs p e below s _ _ _ T32 m 91 #[rv a, iv (0 : Int32), iv (I (3 : Int32)), .val (.double (D (3 : Int32))), .second] []
    have HR41 : HR Z T29.heap a aI aT aP kI kT kP I29 D29 P29 (3 : Int32) o := ⟨E31, FI31, FT31, FP31, FS31, FO31, VI31, VT31, VP31⟩
    refine Goes.retV X32 hx hlk hret (hb hby dp23_21_91) ?_ (by decide) (by decide)
    rw [e32]
    exact ⟨I29, D29, P29, rfl, N29, KK30, HR41, inv29⟩
theorem ef_P4 (m : MethodId) (x0 : Addr) : entryFrame m #[(.ref x0)] 2 = mkF m 0 #[rv x0, .unset] [] := by first | (simp [entryFrame, mkF, argsToLocals, Value.category]; done) | rfl
def QP4 (Z : State) (a aI aT aP : Addr) (kI kT kP : ClassId) (I : Int32 → Int32) (D : Int32 → UInt64) (P : Int32 → Int32) (o : Int32) (S : Int32 → Prop) (h0 : Heap) (n0 : Nat) (v : Option Value) (h : Heap) (L : List Loc) : Prop := ∃ (I1 : Int32 → Int32) (D1 : Int32 → UInt64) (P1 : Int32 → Int32) (o1 x1 : Int32), v = some (.int x1) ∧ Fr n0 L ∧ Keep h0 h [a, aI, aT, aP] ∧ HR Z h a aI aT aP kI kT kP I1 D1 P1 (3 : Int32) o1 ∧ Inv (3 : Int32) S I1 P1
set_option maxRecDepth 65536 in
set_option maxHeartbeats 40000000 in
theorem rmP4 (l : Launch) (Z : State) (a0 : Array Value) (hw : ∀ d ∈ tables_1, d.before a0 Z = true) (ws : List Jvm.Cond) (a aI aT aP : Addr) (kI kT kP : ClassId) (I : Int32 → Int32) (D : Int32 → UInt64) (P : Int32 → Int32) (o : Int32) (S : Int32 → Prop) (h0 : Heap) (n0 : Nat) (Z0 : n0 ≤ h0.size) (hB : HB n0 a aI aT aP) (hR : HR Z h0 a aI aT aP kI kT kP I D P (4 : Int32) o) (hI : Inv (4 : Int32) S I P) :
    MetFree l mN15 (head1 (Jvm.Cond.code mN15 prog_23_method_13_code 2 (some .int) :: ws) ({ frames := 4, cells := 0, slots := 0, locals := 62 } : Room)) (fun aa U => aa = #[(.ref a)] ∧ Z.Warmed39 U.vm ∧ U.heap = h0) (fun _ _ _ _ _ => True) (fun _ u1_ o_ u2_ => ∃ v_ l_, o_ = .returned v_ ∧ QP4 Z a aI aT aP kI kT kP I D P o S h0 n0 v_ u2_.heap l_ ∧ FrameEnd u1_ o_ u2_ l_ ({ frames := 4, cells := 0, slots := 0, locals := 62 } : Room).cells ({ frames := 4, cells := 0, slots := 0, locals := 62 } : Room).slots) := by
  refine MetFree.of_bodySF (plainFor_of_name pn_com_example_redoubt_redoubt_engine_IndexHeap) hisR ?_
  intro p e s m args below meth c s₁ Bd hml0 hP hK
  obtain ⟨rfl, hZ, hh⟩ := hP
  have hx := Bd.exec
  have hby := Bd.bytes
  have hlk := BodyLoose.notSynchronized Bd
  have hret := Bd.returns
  have hml : c.maxLocals = 2 := hml0
  have hown : s.vm.findClass "com/example/redoubt/redoubt/engine/IndexHeap" = some m.cls := findClass_of_methodNamed Bd.named
  have hnm := (name_of_methodNamed Bd.named Bd.method).1
  have X0 : Stand p l e ({ frames := 4, cells := 0, slots := 0, locals := 62 } : Room) s m #[(.ref a)] below meth c s₁ [] 0 0 := Stand.of_body Bd
  have e0 : s₁.heap = h0 := by rw [← hh, Bd.state]; rfl
  have N0 := Fr.nil n0
  refine Goes.st (s := s) (Q := QP4 Z a aI aT aP kI kT kP I D P o S h0 n0) (cs := ({ frames := 4, cells := 0, slots := 0, locals := 62 } : Room).cells) (ss := ({ frames := 4, cells := 0, slots := 0, locals := 62 } : Room).slots) (fun tg kg => castTop (ef_P4 m a) kg) ?_
  obtain ⟨la, lI, lT, lP, naI, naT, naP, nIT, nIP, nTP⟩ := id hB
  obtain ⟨E1, FI1, FT1, FP1, FS1, FO1, VI1, VT1, VP1⟩ := id hR
  have K0 : Keep h0 h0 [a, aI, aT, aP] := Keep.refl _ _
  show Gs p e below s _ _ _ s₁ m 0 #[rv a, .unset] []
  refine galoadN X0 hx (hb hby dp23_13_0) rfl rfl ?_
  have HR2 : HR Z h0 a aI aT aP kI kT kP I D P (4 : Int32) o := ⟨E1, FI1, FT1, FP1, FS1, FO1, VI1, VT1, VP1⟩
  obtain ⟨cq3, kq3, qa3, qb3, qc3⟩ := isOf hZ e0 E1
  obtain ⟨_, _, ⟨T3, L3, k3, n3⟩, -, X3, ⟨Lc3, hQ3, l3, y3, z3⟩, st3⟩ := X0.virtualBack hx (y := mN13) (z := mN13) hown (mvT hZ (hwk hw 87 rfl)) (mvT hZ (hwk hw 88 rfl)) (notFace_of_selects (args := #[]) (mvT hZ (hwk hw 90 rfl))) (mvT hZ (hwk hw 90 rfl)) (mvT hZ (hwk hw 89 rfl)) (by decide) (backOf (W := 0) (rmF4 l Z a0 hw [] a aI aT aP kI kT kP I D P o S h0 n0 Z0 hB HR2 hI) hZ (hwk hw 91 rfl) (hwk hw 2 rfl) (by decide) (by decide)) qa3 qc3 (g := (mkF m 1 #[rv a, .unset] [(.ref a)])) rfl (by rw [hml]; rfl) (Steps.refl _) (argsL := []) (rest := []) (lenOf pd___I_4f1 rfl) rfl (by show 2 * 0 + _ ≤ _; exact Nat.le_of_eq rfl) (hb hby dp23_13_1) (fun _ _ => ⟨rfl, e0, (by decide : 0 + 0 ≤ 0), (by decide : 0 + 0 ≤ 0)⟩)
  dsimp only [Pt.U, Pt.locs, Pt.cells, Pt.slots] at X3 l3 y3 z3 st3 hQ3
  subst l3 y3 z3
  obtain ⟨I3, D3, P3, o3, xr3, rfl, N3q, K3, HQ3, inv3, ho3⟩ := hQ3
  have KK4 := K0.trans K3 (allS (Or.inl (List.mem_of_getElem? (i := 0) rfl)) (allS (Or.inl (List.mem_of_getElem? (i := 1) rfl)) (allS (Or.inl (List.mem_of_getElem? (i := 2) rfl)) (allS (Or.inl (List.mem_of_getElem? (i := 3) rfl)) all0))))
  have Z3 : n0 ≤ T3.heap.size := Nat.le_trans Z0 K3.1
  obtain ⟨E5, FI5, FT5, FP5, FS5, FO5, VI5, VT5, VP5⟩ := id HQ3
  have N3 := Fr.app N0 N3q
  refine Goes.sts st3 ?_
  show Gs p e below s _ _ _ T3 m 4 #[rv a, .unset] [(.int xr3)]
  refine gistoreN X3 hx (hb hby dp23_13_4) trivial (l' := #[rv a, iv xr3]) rfl ?_
  refine galoadN X3 hx (hb hby dp23_13_5) rfl rfl ?_
  refine giconst X3 hx (hb hby dp23_13_6) ?_
  have HR6 : HR Z T3.heap a aI aT aP kI kT kP I3 D3 P3 (4 : Int32) o3 := ⟨E5, FI5, FT5, FP5, FS5, FO5, VI5, VT5, VP5⟩
  obtain ⟨cc7, qa7, qb7⟩ := Exa.cell E5
  obtain ⟨_, _, ⟨T7, L7, k7, n7⟩, -, X7, ⟨Lc7, hQ7, l7, y7, z7⟩, st7⟩ := X3.privateBack hx (y := mN14) hown (mvT hZ (hwk hw 100 rfl)) (mvT hZ (hwk hw 101 rfl)) (selP (y := mN14) (as := #[]) (mvT hZ (hwk hw 1 rfl)) (mvP hZ (hwk hw 102 rfl)) (mvT hZ (hwk hw 101 rfl)) (by decide)) (Cond.privateMethod_at (mvP hZ (hwk hw 102 rfl) (args := #[]))) (mvT hZ (hwk hw 103 rfl)) (by decide) (backOf (W := 0) (rmR4 l Z a0 hw [] a aI aT aP kI kT kP I3 D3 P3 o3 S T3.heap n0 Z3 hB HR6 inv3 ho3) hZ (hwk hw 103 rfl) (hwk hw 2 rfl) (by decide) (by decide)) (g := (mkF m 7 #[rv a, iv xr3] [(.int (0 : Int32)), (.ref a)])) rfl (by rw [hml]; rfl) (Steps.refl _) (a := a) qa7 qb7 (argsL := [(.int (0 : Int32))]) (rest := []) (lenOf pd__I_V_82d rfl) rfl (by show 2 * 0 + _ ≤ _; exact Nat.le_of_eq rfl) (hb hby dp23_13_7) (fun _ _ => ⟨rfl, rfl, (by decide : 0 + 0 ≤ 0), (by decide : 0 + 0 ≤ 0)⟩)
  dsimp only [Pt.U, Pt.locs, Pt.cells, Pt.slots] at X7 l7 y7 z7 st7 hQ7
  subst l7 y7 z7
  obtain ⟨I7, D7, P7, rfl, N7q, K7, HQ7, inv7⟩ := hQ7
  have KK8 := KK4.trans K7 (allS (Or.inl (List.mem_of_getElem? (i := 0) rfl)) (allS (Or.inl (List.mem_of_getElem? (i := 1) rfl)) (allS (Or.inl (List.mem_of_getElem? (i := 2) rfl)) (allS (Or.inl (List.mem_of_getElem? (i := 3) rfl)) all0))))
  have Z7 : n0 ≤ T7.heap.size := Nat.le_trans Z3 K7.1
  obtain ⟨E9, FI9, FT9, FP9, FS9, FO9, VI9, VT9, VP9⟩ := id HQ7
  have N7 := Fr.app N3 N7q
  refine Goes.sts st7 ?_
  show Gs p e below s _ _ _ T7 m 10 #[rv a, iv xr3] []
  refine giloadN X7 hx (hb hby dp23_13_10) rfl ?_
  show Gs p e below s _ _ _ T7 m 11 #[rv a, iv xr3] [(.int xr3)]
  have HR10 : HR Z T7.heap a aI aT aP kI kT kP I7 D7 P7 (3 : Int32) o3 := ⟨E9, FI9, FT9, FP9, FS9, FO9, VI9, VT9, VP9⟩
  refine Goes.retI X7 hx hlk hret (hb hby dp23_13_11) ?_ (by decide) (by decide)
  exact ⟨I7, D7, P7, o3, xr3, rfl, N7, KK8, HR10, inv7⟩
theorem dp23_15_0 : decode prog_23_method_15_code 0 = .ok (.iconst 0, 1) := by decide +kernel
theorem dp23_15_1 : decode prog_23_method_15_code 1 = .ok (.istore_n 1, 1) := by decide +kernel
theorem dp23_15_2 : decode prog_23_method_15_code 2 = .ok (.iload_n 1, 1) := by decide +kernel
theorem dp23_15_3 : decode prog_23_method_15_code 3 = .ok (.aload_n 0, 1) := by decide +kernel
theorem dp23_15_4 : decode prog_23_method_15_code 4 = .ok (.getfield 30, 3) := by decide +kernel
theorem dp23_15_7 : decode prog_23_method_15_code 7 = .ok (.if_icmp .ge 21, 3) := by decide +kernel
theorem dp23_15_10 : decode prog_23_method_15_code 10 = .ok (.aload_n 0, 1) := by decide +kernel
theorem dp23_15_11 : decode prog_23_method_15_code 11 = .ok (.getfield 21, 3) := by decide +kernel
theorem dp23_15_14 : decode prog_23_method_15_code 14 = .ok (.aload_n 0, 1) := by decide +kernel
theorem dp23_15_15 : decode prog_23_method_15_code 15 = .ok (.getfield 13, 3) := by decide +kernel
theorem dp23_15_18 : decode prog_23_method_15_code 18 = .ok (.iload_n 1, 1) := by decide +kernel
theorem dp23_15_19 : decode prog_23_method_15_code 19 = .ok (.iaload, 1) := by decide +kernel
theorem dp23_15_20 : decode prog_23_method_15_code 20 = .ok (.iconst (-1), 1) := by decide +kernel
theorem dp23_15_21 : decode prog_23_method_15_code 21 = .ok (.iastore, 1) := by decide +kernel
theorem dp23_15_22 : decode prog_23_method_15_code 22 = .ok (.iinc 1 1, 3) := by decide +kernel
theorem dp23_15_25 : decode prog_23_method_15_code 25 = .ok (.goto (-23), 3) := by decide +kernel
theorem dp23_15_28 : decode prog_23_method_15_code 28 = .ok (.aload_n 0, 1) := by decide +kernel
theorem dp23_15_29 : decode prog_23_method_15_code 29 = .ok (.iconst 0, 1) := by decide +kernel
theorem dp23_15_30 : decode prog_23_method_15_code 30 = .ok (.putfield 30, 3) := by decide +kernel
theorem dp23_15_33 : decode prog_23_method_15_code 33 = .ok (.aload_n 0, 1) := by decide +kernel
theorem dp23_15_34 : decode prog_23_method_15_code 34 = .ok (.iconst 1, 1) := by decide +kernel
theorem dp23_15_35 : decode prog_23_method_15_code 35 = .ok (.putfield 7, 3) := by decide +kernel
theorem dp23_15_38 : decode prog_23_method_15_code 38 = .ok (.return_, 1) := by decide +kernel
theorem ef_C0 (m : MethodId) (x0 : Addr) : entryFrame m #[(.ref x0)] 2 = mkF m 0 #[rv x0, .unset] [] := by first | (simp [entryFrame, mkF, argsToLocals, Value.category]; done) | rfl
def QC0 (Z : State) (a aI aT aP : Addr) (kI kT kP : ClassId) (I : Int32 → Int32) (D : Int32 → UInt64) (P : Int32 → Int32) (o : Int32) (S : Int32 → Prop) (h0 : Heap) (n0 : Nat) (v : Option Value) (h : Heap) (L : List Loc) : Prop := v = none ∧ Fr n0 L ∧ Keep h0 h [a, aI, aT, aP] ∧ HR Z h a aI aT aP kI kT kP I D (fun _ => -1) 0 1
set_option maxRecDepth 65536 in
set_option maxHeartbeats 40000000 in
theorem rmC0 (l : Launch) (Z : State) (a0 : Array Value) (hw : ∀ d ∈ tables_1, d.before a0 Z = true) (ws : List Jvm.Cond) (a aI aT aP : Addr) (kI kT kP : ClassId) (I : Int32 → Int32) (D : Int32 → UInt64) (P : Int32 → Int32) (o : Int32) (S : Int32 → Prop) (h0 : Heap) (n0 : Nat) (Z0 : n0 ≤ h0.size) (hB : HB n0 a aI aT aP) (hR : HR Z h0 a aI aT aP kI kT kP I D P (0 : Int32) o) (hI : Inv (0 : Int32) S I P) :
    MetFree l mN16 (head1 (Jvm.Cond.code mN16 prog_23_method_15_code 2 none :: ws) ({ frames := 0, cells := 0, slots := 0, locals := 0 } : Room)) (fun aa U => aa = #[(.ref a)] ∧ Z.Warmed39 U.vm ∧ U.heap = h0) (fun _ _ _ _ _ => True) (fun _ u1_ o_ u2_ => ∃ v_ l_, o_ = .returned v_ ∧ QC0 Z a aI aT aP kI kT kP I D P o S h0 n0 v_ u2_.heap l_ ∧ FrameEnd u1_ o_ u2_ l_ ({ frames := 0, cells := 0, slots := 0, locals := 0 } : Room).cells ({ frames := 0, cells := 0, slots := 0, locals := 0 } : Room).slots) := by
  refine MetFree.of_bodySF (plainFor_of_name pn_com_example_redoubt_redoubt_engine_IndexHeap) hisR ?_
  intro p e s m args below meth c s₁ Bd hml0 hP hK
  obtain ⟨rfl, hZ, hh⟩ := hP
  have hx := Bd.exec
  have hby := Bd.bytes
  have hlk := BodyLoose.notSynchronized Bd
  have hret := Bd.returns
  have hml : c.maxLocals = 2 := hml0
  have hown : s.vm.findClass "com/example/redoubt/redoubt/engine/IndexHeap" = some m.cls := findClass_of_methodNamed Bd.named
  have hnm := (name_of_methodNamed Bd.named Bd.method).1
  have X0 : Stand p l e ({ frames := 0, cells := 0, slots := 0, locals := 0 } : Room) s m #[(.ref a)] below meth c s₁ [] 0 0 := Stand.of_body Bd
  have e0 : s₁.heap = h0 := by rw [← hh, Bd.state]; rfl
  have N0 := Fr.nil n0
  refine Goes.st (s := s) (Q := QC0 Z a aI aT aP kI kT kP I D P o S h0 n0) (cs := ({ frames := 0, cells := 0, slots := 0, locals := 0 } : Room).cells) (ss := ({ frames := 0, cells := 0, slots := 0, locals := 0 } : Room).slots) (fun tg kg => castTop (ef_C0 m a) kg) ?_
  obtain ⟨la, lI, lT, lP, naI, naT, naP, nIT, nIP, nTP⟩ := id hB
  obtain ⟨E1, FI1, FT1, FP1, FS1, FO1, VI1, VT1, VP1⟩ := id hR
  have K0 : Keep h0 h0 [a, aI, aT, aP] := Keep.refl _ _
  show Gs p e below s _ _ _ s₁ m 0 #[rv a, .unset] []
  refine giconst X0 hx (hb hby dp23_15_0) ?_
  refine gistoreN X0 hx (hb hby dp23_15_1) trivial (l' := #[rv a, iv (0 : Int32)]) rfl ?_
  refine giloadN X0 hx (hb hby dp23_15_2) rfl ?_
  refine galoadN X0 hx (hb hby dp23_15_3) rfl rfl ?_
  obtain ⟨T2, X2, e2, st2⟩ := getF X0 hx hZ hown (host := "") (Or.inl (hwk hw 29 rfl)) Via.refl e0 FS1 (g := (mkF m 4 #[rv a, iv (0 : Int32)] [(.ref a), (.int (0 : Int32))])) rfl rfl (hb hby dp23_15_4)
  refine Goes.st st2 ?_
  show Gs p e below s _ _ _ T2 m 7 #[rv a, iv (0 : Int32)] [(.int (0 : Int32)), (.int (0 : Int32))]
  refine gicmpYes X2 hx (pc' := 28) (hb hby dp23_15_7) (by decide) (by decide) (by decide) ?_
  show Gs p e below s _ _ _ T2 m 28 #[rv a, iv (0 : Int32)] []
  refine galoadN X2 hx (hb hby dp23_15_28) rfl rfl ?_
  refine giconst X2 hx (hb hby dp23_15_29) ?_
  obtain ⟨T3, h3, X3, e3, W3, st3⟩ := putF X2 hx hZ hown (host := "") (Or.inl (hwk hw 29 rfl)) Via.refl e2 FS1 E1 (Or.inl (hwk hw 30 rfl)) (hwk hw 1 rfl) (ty := .int) (by decide) rfl rfl (g := (mkF m 30 #[rv a, iv (0 : Int32)] [(.int (0 : Int32)), (.ref a)])) rfl rfl (hb hby dp23_15_30)
  have N3 := Fr.snoc X3 N0 la
  have G3 := FS1.same W3
  refine Goes.st st3 ?_
  have KK4 := K0.wr W3 (Or.inl (List.mem_of_getElem? (i := 0) rfl))
  have Z3 : n0 ≤ h3.size := by have := W3.size; have := Z0; omega
  show Gs p e below s _ _ _ T3 m 33 #[rv a, iv (0 : Int32)] []
  refine galoadN X3 hx (hb hby dp23_15_33) rfl rfl ?_
  refine giconst X3 hx (hb hby dp23_15_34) ?_
  have f6 := (FO1.other W3 (Or.inr (slot_ne (Or.inl (hwk hw 10 rfl)) (Or.inl (hwk hw 30 rfl)) (by decide) (t := .boolean) (t' := .int) (by decide) (by decide))))
  have f7 := (E1.wr W3)
  obtain ⟨T5, h5, X5, e5, W5, st5⟩ := putFN X3 hx hZ hown (hwk hw 9 rfl) Via.refl e3 f6 f7 (Or.inl (hwk hw 10 rfl)) (hwk hw 1 rfl) (ty := .boolean) (v' := (.int (1 : Int32))) (by decide) rfl (by decide) (g := (mkF m 35 #[rv a, iv (0 : Int32)] [(.int (1 : Int32)), (.ref a)])) rfl rfl (hb hby dp23_15_35)
  have N5 := Fr.snoc X5 N3 la
  have G5 := f6.same W5
  refine Goes.st st5 ?_
  have KK8 := KK4.wr W5 (Or.inl (List.mem_of_getElem? (i := 0) rfl))
  have Z5 : n0 ≤ h5.size := by have := W5.size; have := Z3; omega
  show Gs p e below s _ _ _ T5 m 38 #[rv a, iv (0 : Int32)] []
  have f9 := ((VP1.other W3 (Ne.symm naP)).other W5 (Ne.symm naP))
  have hc10 : ∀ i, In4 i → P i = (fun _ => (-1 : Int32)) i := by
    intro i hi
    rcases hI.2.2 i hi with u | ⟨j, u1, u2, rfl⟩
    · exact u
    · rcases u1 with rfl | rfl | rfl | rfl
      · exact absurd u2 (by decide)
      · exact absurd u2 (by decide)
      · exact absurd u2 (by decide)
      · exact absurd u2 (by decide)
  have VC10 : Arv Z h5 aP kP .int (4 : Int32) (lst (fun _ => -1)) (.int (0 : Int32)) := by rw [← lst_congr hc10]; exact f9
  have f11 := (f7.wr W5)
  have f12 := ((FI1.other W3 (Or.inr (slot_ne (Or.inr (hwk hw 13 rfl)) (Or.inl (hwk hw 30 rfl)) (by decide) (t := (.array .int)) (t' := .int) (by decide) (by decide)))).other W5 (Or.inr (slot_ne (Or.inr (hwk hw 13 rfl)) (Or.inl (hwk hw 10 rfl)) (by decide) (t := (.array .int)) (t' := .boolean) (by decide) (by decide))))
  have f13 := ((FT1.other W3 (Or.inr (slot_ne (Or.inr (hwk hw 16 rfl)) (Or.inl (hwk hw 30 rfl)) (by decide) (t := (.array .double)) (t' := .int) (by decide) (by decide)))).other W5 (Or.inr (slot_ne (Or.inr (hwk hw 16 rfl)) (Or.inl (hwk hw 10 rfl)) (by decide) (t := (.array .double)) (t' := .boolean) (by decide) (by decide))))
  have f14 := ((FP1.other W3 (Or.inr (slot_ne (Or.inr (hwk hw 18 rfl)) (Or.inl (hwk hw 30 rfl)) (by decide) (t := (.array .int)) (t' := .int) (by decide) (by decide)))).other W5 (Or.inr (slot_ne (Or.inr (hwk hw 18 rfl)) (Or.inl (hwk hw 10 rfl)) (by decide) (t := (.array .int)) (t' := .boolean) (by decide) (by decide))))
  have f15 := (G3.other W5 (Or.inr (slot_ne (Or.inl (hwk hw 30 rfl)) (Or.inl (hwk hw 10 rfl)) (by decide) (t := .int) (t' := .boolean) (by decide) (by decide))))
  have f16 := ((VI1.other W3 (Ne.symm naI)).other W5 (Ne.symm naI))
  have f17 := ((VT1.other W3 (Ne.symm naT)).other W5 (Ne.symm naT))
  have HR18 : HR Z h5 a aI aT aP kI kT kP I D (fun _ => -1) (0 : Int32) (1 : Int32) := ⟨f11, f12, f13, f14, f15, G5, f16, f17, VC10⟩
  refine Goes.retV X5 hx hlk hret (hb hby dp23_15_38) ?_ (by decide) (by decide)
  rw [e5]
  exact ⟨rfl, N5, KK8, HR18⟩
theorem ef_C1 (m : MethodId) (x0 : Addr) : entryFrame m #[(.ref x0)] 2 = mkF m 0 #[rv x0, .unset] [] := by first | (simp [entryFrame, mkF, argsToLocals, Value.category]; done) | rfl
def QC1 (Z : State) (a aI aT aP : Addr) (kI kT kP : ClassId) (I : Int32 → Int32) (D : Int32 → UInt64) (P : Int32 → Int32) (o : Int32) (S : Int32 → Prop) (h0 : Heap) (n0 : Nat) (v : Option Value) (h : Heap) (L : List Loc) : Prop := v = none ∧ Fr n0 L ∧ Keep h0 h [a, aI, aT, aP] ∧ HR Z h a aI aT aP kI kT kP I D (fun _ => -1) 0 1
set_option maxRecDepth 65536 in
set_option maxHeartbeats 40000000 in
theorem rmC1 (l : Launch) (Z : State) (a0 : Array Value) (hw : ∀ d ∈ tables_1, d.before a0 Z = true) (ws : List Jvm.Cond) (a aI aT aP : Addr) (kI kT kP : ClassId) (I : Int32 → Int32) (D : Int32 → UInt64) (P : Int32 → Int32) (o : Int32) (S : Int32 → Prop) (h0 : Heap) (n0 : Nat) (Z0 : n0 ≤ h0.size) (hB : HB n0 a aI aT aP) (hR : HR Z h0 a aI aT aP kI kT kP I D P (1 : Int32) o) (hI : Inv (1 : Int32) S I P) :
    MetFree l mN16 (head1 (Jvm.Cond.code mN16 prog_23_method_15_code 2 none :: ws) ({ frames := 0, cells := 0, slots := 0, locals := 0 } : Room)) (fun aa U => aa = #[(.ref a)] ∧ Z.Warmed39 U.vm ∧ U.heap = h0) (fun _ _ _ _ _ => True) (fun _ u1_ o_ u2_ => ∃ v_ l_, o_ = .returned v_ ∧ QC1 Z a aI aT aP kI kT kP I D P o S h0 n0 v_ u2_.heap l_ ∧ FrameEnd u1_ o_ u2_ l_ ({ frames := 0, cells := 0, slots := 0, locals := 0 } : Room).cells ({ frames := 0, cells := 0, slots := 0, locals := 0 } : Room).slots) := by
  refine MetFree.of_bodySF (plainFor_of_name pn_com_example_redoubt_redoubt_engine_IndexHeap) hisR ?_
  intro p e s m args below meth c s₁ Bd hml0 hP hK
  obtain ⟨rfl, hZ, hh⟩ := hP
  have hx := Bd.exec
  have hby := Bd.bytes
  have hlk := BodyLoose.notSynchronized Bd
  have hret := Bd.returns
  have hml : c.maxLocals = 2 := hml0
  have hown : s.vm.findClass "com/example/redoubt/redoubt/engine/IndexHeap" = some m.cls := findClass_of_methodNamed Bd.named
  have hnm := (name_of_methodNamed Bd.named Bd.method).1
  have X0 : Stand p l e ({ frames := 0, cells := 0, slots := 0, locals := 0 } : Room) s m #[(.ref a)] below meth c s₁ [] 0 0 := Stand.of_body Bd
  have e0 : s₁.heap = h0 := by rw [← hh, Bd.state]; rfl
  have N0 := Fr.nil n0
  refine Goes.st (s := s) (Q := QC1 Z a aI aT aP kI kT kP I D P o S h0 n0) (cs := ({ frames := 0, cells := 0, slots := 0, locals := 0 } : Room).cells) (ss := ({ frames := 0, cells := 0, slots := 0, locals := 0 } : Room).slots) (fun tg kg => castTop (ef_C1 m a) kg) ?_
  obtain ⟨la, lI, lT, lP, naI, naT, naP, nIT, nIP, nTP⟩ := id hB
  obtain ⟨E1, FI1, FT1, FP1, FS1, FO1, VI1, VT1, VP1⟩ := id hR
  have K0 : Keep h0 h0 [a, aI, aT, aP] := Keep.refl _ _
  show Gs p e below s _ _ _ s₁ m 0 #[rv a, .unset] []
  refine giconst X0 hx (hb hby dp23_15_0) ?_
  refine gistoreN X0 hx (hb hby dp23_15_1) trivial (l' := #[rv a, iv (0 : Int32)]) rfl ?_
  refine giloadN X0 hx (hb hby dp23_15_2) rfl ?_
  refine galoadN X0 hx (hb hby dp23_15_3) rfl rfl ?_
  obtain ⟨T2, X2, e2, st2⟩ := getF X0 hx hZ hown (host := "") (Or.inl (hwk hw 29 rfl)) Via.refl e0 FS1 (g := (mkF m 4 #[rv a, iv (0 : Int32)] [(.ref a), (.int (0 : Int32))])) rfl rfl (hb hby dp23_15_4)
  refine Goes.st st2 ?_
  show Gs p e below s _ _ _ T2 m 7 #[rv a, iv (0 : Int32)] [(.int (1 : Int32)), (.int (0 : Int32))]
  refine gicmpNo X2 hx (hb hby dp23_15_7) (by decide) ?_
  show Gs p e below s _ _ _ T2 m 10 #[rv a, iv (0 : Int32)] []
  refine galoadN X2 hx (hb hby dp23_15_10) rfl rfl ?_
  obtain ⟨T3, X3, e3, st3⟩ := getF X2 hx hZ hown (host := "") (Or.inl (hwk hw 17 rfl)) Via.refl e2 FP1 (g := (mkF m 11 #[rv a, iv (0 : Int32)] [(.ref a)])) rfl rfl (hb hby dp23_15_11)
  refine Goes.st st3 ?_
  refine galoadN X3 hx (hb hby dp23_15_14) rfl rfl ?_
  obtain ⟨T4, X4, e4, st4⟩ := getF X3 hx hZ hown (host := "") (Or.inl (hwk hw 12 rfl)) Via.refl e3 FI1 (g := (mkF m 15 #[rv a, iv (0 : Int32)] [(.ref a), (.ref aP)])) rfl rfl (hb hby dp23_15_15)
  refine Goes.st st4 ?_
  refine giloadN X4 hx (hb hby dp23_15_18) rfl ?_
  show Gs p e below s _ _ _ T4 m 19 #[rv a, iv (0 : Int32)] [(.int (0 : Int32)), (.ref aI), (.ref aP)]
  obtain ⟨cl5, Ar5, qk5, Sz5, qz5, Ha5, Gf5⟩ := id VI1
  have in5 := inb_of (j := (0 : Int32)) Sz5 ⟨by decide, by decide⟩
  refine Goes.st (fun tg kg => X4.iaload hx (j := (0 : Int32)) (v := (.int (I (0 : Int32)))) (by rw [e4]; exact Ar5.1) (State.isArrayOf_alike hZ.alike Ar5.2.1) Ar5.2.2 in5 (Ha5.at in5 (get_lst i4_0)) (g := (mkF m 19 #[rv a, iv (0 : Int32)] [(.int (0 : Int32)), (.ref aI), (.ref aP)])) rfl rfl (hb hby dp23_15_19) tg kg) ?_
  refine giconst X4 hx (hb hby dp23_15_20) ?_
  show Gs p e below s _ _ _ T4 m 21 #[rv a, iv (0 : Int32)] [(.int (-1 : Int32)), (.int (I (0 : Int32))), (.ref aP)]
  obtain ⟨cl6, Ar6, qk6, Sz6, qz6, Ha6, Gf6⟩ := id VP1
  obtain ⟨T6, h6, X6, e6, W6, st6⟩ := stI X4 hx hZ e4 Ar6 (inb_of Sz6 (own_in (hI.1 _ i4_0))) (g := (mkF m 21 #[rv a, iv (0 : Int32)] [(.int (-1 : Int32)), (.int (I (0 : Int32))), (.ref aP)])) rfl rfl (hb hby dp23_15_21)
  have N6 := Fr.snoc X6 N0 lP
  have V6 : Arv Z h6 aP kP .int (4 : Int32) (lst (upd P (I (0 : Int32)) (-1 : Int32))) (.int (0 : Int32)) := setI Ar6 qk6 Sz6 qz6 Ha6 Gf6 W6 (hI.1 _ i4_0)
  refine Goes.st st6 ?_
  have KK7 := K0.wr W6 (Or.inl (List.mem_of_getElem? (i := 3) rfl))
  have Z6 : n0 ≤ h6.size := by have := W6.size; have := Z0; omega
  show Gs p e below s _ _ _ T6 m 22 #[rv a, iv (0 : Int32)] []
  refine Goes.st (fun tg kg => XS.iinc X6.here hx rfl (hb hby dp23_15_22) rfl (l' := #[rv a, iv (1 : Int32)]) rfl kg) ?_
  show Gs p e below s _ _ _ T6 m 25 #[rv a, iv (1 : Int32)] []
  refine ggoto X6 hx (pc' := 2) (hb hby dp23_15_25) (by decide) (by decide) ?_
  show Gs p e below s _ _ _ T6 m 2 #[rv a, iv (1 : Int32)] []
  refine giloadN X6 hx (hb hby dp23_15_2) rfl ?_
  refine galoadN X6 hx (hb hby dp23_15_3) rfl rfl ?_
  have f9 := (FS1.other W6 (Or.inl naP))
  obtain ⟨T8, X8, e8, st8⟩ := getF X6 hx hZ hown (host := "") (Or.inl (hwk hw 29 rfl)) Via.refl e6 f9 (g := (mkF m 4 #[rv a, iv (1 : Int32)] [(.ref a), (.int (1 : Int32))])) rfl rfl (hb hby dp23_15_4)
  refine Goes.st st8 ?_
  show Gs p e below s _ _ _ T8 m 7 #[rv a, iv (1 : Int32)] [(.int (1 : Int32)), (.int (1 : Int32))]
  refine gicmpYes X8 hx (pc' := 28) (hb hby dp23_15_7) (by decide) (by decide) (by decide) ?_
  show Gs p e below s _ _ _ T8 m 28 #[rv a, iv (1 : Int32)] []
  refine galoadN X8 hx (hb hby dp23_15_28) rfl rfl ?_
  refine giconst X8 hx (hb hby dp23_15_29) ?_
  have f11 := (E1.wr W6)
  obtain ⟨T10, h10, X10, e10, W10, st10⟩ := putF X8 hx hZ hown (host := "") (Or.inl (hwk hw 29 rfl)) Via.refl e8 f9 f11 (Or.inl (hwk hw 30 rfl)) (hwk hw 1 rfl) (ty := .int) (by decide) rfl rfl (g := (mkF m 30 #[rv a, iv (1 : Int32)] [(.int (0 : Int32)), (.ref a)])) rfl rfl (hb hby dp23_15_30)
  have N10 := Fr.snoc X10 N6 la
  have G10 := f9.same W10
  refine Goes.st st10 ?_
  have KK12 := KK7.wr W10 (Or.inl (List.mem_of_getElem? (i := 0) rfl))
  have Z10 : n0 ≤ h10.size := by have := W10.size; have := Z6; omega
  show Gs p e below s _ _ _ T10 m 33 #[rv a, iv (1 : Int32)] []
  refine galoadN X10 hx (hb hby dp23_15_33) rfl rfl ?_
  refine giconst X10 hx (hb hby dp23_15_34) ?_
  have f14 := ((FO1.other W6 (Or.inl naP)).other W10 (Or.inr (slot_ne (Or.inl (hwk hw 10 rfl)) (Or.inl (hwk hw 30 rfl)) (by decide) (t := .boolean) (t' := .int) (by decide) (by decide))))
  have f15 := (f11.wr W10)
  obtain ⟨T13, h13, X13, e13, W13, st13⟩ := putFN X10 hx hZ hown (hwk hw 9 rfl) Via.refl e10 f14 f15 (Or.inl (hwk hw 10 rfl)) (hwk hw 1 rfl) (ty := .boolean) (v' := (.int (1 : Int32))) (by decide) rfl (by decide) (g := (mkF m 35 #[rv a, iv (1 : Int32)] [(.int (1 : Int32)), (.ref a)])) rfl rfl (hb hby dp23_15_35)
  have N13 := Fr.snoc X13 N10 la
  have G13 := f14.same W13
  refine Goes.st st13 ?_
  have KK16 := KK12.wr W13 (Or.inl (List.mem_of_getElem? (i := 0) rfl))
  have Z13 : n0 ≤ h13.size := by have := W13.size; have := Z10; omega
  show Gs p e below s _ _ _ T13 m 38 #[rv a, iv (1 : Int32)] []
  have f17 := ((V6.other W10 (Ne.symm naP)).other W13 (Ne.symm naP))
  have hc18 : ∀ i, In4 i → (upd P (I (0 : Int32)) (-1 : Int32)) i = (fun _ => (-1 : Int32)) i := by
    intro i hi
    rcases hI.2.2 i hi with u | ⟨j, u1, u2, rfl⟩
    · exact clr (u)
    · rcases u1 with rfl | rfl | rfl | rfl
      · exact upd_hit
      · exact absurd u2 (by decide)
      · exact absurd u2 (by decide)
      · exact absurd u2 (by decide)
  have VC18 : Arv Z h13 aP kP .int (4 : Int32) (lst (fun _ => -1)) (.int (0 : Int32)) := by rw [← lst_congr hc18]; exact f17
  have f19 := (f15.wr W13)
  have f20 := (((FI1.other W6 (Or.inl naP)).other W10 (Or.inr (slot_ne (Or.inr (hwk hw 13 rfl)) (Or.inl (hwk hw 30 rfl)) (by decide) (t := (.array .int)) (t' := .int) (by decide) (by decide)))).other W13 (Or.inr (slot_ne (Or.inr (hwk hw 13 rfl)) (Or.inl (hwk hw 10 rfl)) (by decide) (t := (.array .int)) (t' := .boolean) (by decide) (by decide))))
  have f21 := (((FT1.other W6 (Or.inl naP)).other W10 (Or.inr (slot_ne (Or.inr (hwk hw 16 rfl)) (Or.inl (hwk hw 30 rfl)) (by decide) (t := (.array .double)) (t' := .int) (by decide) (by decide)))).other W13 (Or.inr (slot_ne (Or.inr (hwk hw 16 rfl)) (Or.inl (hwk hw 10 rfl)) (by decide) (t := (.array .double)) (t' := .boolean) (by decide) (by decide))))
  have f22 := (((FP1.other W6 (Or.inl naP)).other W10 (Or.inr (slot_ne (Or.inr (hwk hw 18 rfl)) (Or.inl (hwk hw 30 rfl)) (by decide) (t := (.array .int)) (t' := .int) (by decide) (by decide)))).other W13 (Or.inr (slot_ne (Or.inr (hwk hw 18 rfl)) (Or.inl (hwk hw 10 rfl)) (by decide) (t := (.array .int)) (t' := .boolean) (by decide) (by decide))))
  have f23 := (G10.other W13 (Or.inr (slot_ne (Or.inl (hwk hw 30 rfl)) (Or.inl (hwk hw 10 rfl)) (by decide) (t := .int) (t' := .boolean) (by decide) (by decide))))
  have f24 := (((VI1.other W6 nIP).other W10 (Ne.symm naI)).other W13 (Ne.symm naI))
  have f25 := (((VT1.other W6 nTP).other W10 (Ne.symm naT)).other W13 (Ne.symm naT))
  have HR26 : HR Z h13 a aI aT aP kI kT kP I D (fun _ => -1) (0 : Int32) (1 : Int32) := ⟨f19, f20, f21, f22, f23, G13, f24, f25, VC18⟩
  refine Goes.retV X13 hx hlk hret (hb hby dp23_15_38) ?_ (by decide) (by decide)
  rw [e13]
  exact ⟨rfl, N13, KK16, HR26⟩
theorem ef_C2 (m : MethodId) (x0 : Addr) : entryFrame m #[(.ref x0)] 2 = mkF m 0 #[rv x0, .unset] [] := by first | (simp [entryFrame, mkF, argsToLocals, Value.category]; done) | rfl
def QC2 (Z : State) (a aI aT aP : Addr) (kI kT kP : ClassId) (I : Int32 → Int32) (D : Int32 → UInt64) (P : Int32 → Int32) (o : Int32) (S : Int32 → Prop) (h0 : Heap) (n0 : Nat) (v : Option Value) (h : Heap) (L : List Loc) : Prop := v = none ∧ Fr n0 L ∧ Keep h0 h [a, aI, aT, aP] ∧ HR Z h a aI aT aP kI kT kP I D (fun _ => -1) 0 1
set_option maxRecDepth 65536 in
set_option maxHeartbeats 40000000 in
theorem rmC2 (l : Launch) (Z : State) (a0 : Array Value) (hw : ∀ d ∈ tables_1, d.before a0 Z = true) (ws : List Jvm.Cond) (a aI aT aP : Addr) (kI kT kP : ClassId) (I : Int32 → Int32) (D : Int32 → UInt64) (P : Int32 → Int32) (o : Int32) (S : Int32 → Prop) (h0 : Heap) (n0 : Nat) (Z0 : n0 ≤ h0.size) (hB : HB n0 a aI aT aP) (hR : HR Z h0 a aI aT aP kI kT kP I D P (2 : Int32) o) (hI : Inv (2 : Int32) S I P) :
    MetFree l mN16 (head1 (Jvm.Cond.code mN16 prog_23_method_15_code 2 none :: ws) ({ frames := 0, cells := 0, slots := 0, locals := 0 } : Room)) (fun aa U => aa = #[(.ref a)] ∧ Z.Warmed39 U.vm ∧ U.heap = h0) (fun _ _ _ _ _ => True) (fun _ u1_ o_ u2_ => ∃ v_ l_, o_ = .returned v_ ∧ QC2 Z a aI aT aP kI kT kP I D P o S h0 n0 v_ u2_.heap l_ ∧ FrameEnd u1_ o_ u2_ l_ ({ frames := 0, cells := 0, slots := 0, locals := 0 } : Room).cells ({ frames := 0, cells := 0, slots := 0, locals := 0 } : Room).slots) := by
  refine MetFree.of_bodySF (plainFor_of_name pn_com_example_redoubt_redoubt_engine_IndexHeap) hisR ?_
  intro p e s m args below meth c s₁ Bd hml0 hP hK
  obtain ⟨rfl, hZ, hh⟩ := hP
  have hx := Bd.exec
  have hby := Bd.bytes
  have hlk := BodyLoose.notSynchronized Bd
  have hret := Bd.returns
  have hml : c.maxLocals = 2 := hml0
  have hown : s.vm.findClass "com/example/redoubt/redoubt/engine/IndexHeap" = some m.cls := findClass_of_methodNamed Bd.named
  have hnm := (name_of_methodNamed Bd.named Bd.method).1
  have X0 : Stand p l e ({ frames := 0, cells := 0, slots := 0, locals := 0 } : Room) s m #[(.ref a)] below meth c s₁ [] 0 0 := Stand.of_body Bd
  have e0 : s₁.heap = h0 := by rw [← hh, Bd.state]; rfl
  have N0 := Fr.nil n0
  refine Goes.st (s := s) (Q := QC2 Z a aI aT aP kI kT kP I D P o S h0 n0) (cs := ({ frames := 0, cells := 0, slots := 0, locals := 0 } : Room).cells) (ss := ({ frames := 0, cells := 0, slots := 0, locals := 0 } : Room).slots) (fun tg kg => castTop (ef_C2 m a) kg) ?_
  obtain ⟨la, lI, lT, lP, naI, naT, naP, nIT, nIP, nTP⟩ := id hB
  obtain ⟨E1, FI1, FT1, FP1, FS1, FO1, VI1, VT1, VP1⟩ := id hR
  have K0 : Keep h0 h0 [a, aI, aT, aP] := Keep.refl _ _
  show Gs p e below s _ _ _ s₁ m 0 #[rv a, .unset] []
  refine giconst X0 hx (hb hby dp23_15_0) ?_
  refine gistoreN X0 hx (hb hby dp23_15_1) trivial (l' := #[rv a, iv (0 : Int32)]) rfl ?_
  refine giloadN X0 hx (hb hby dp23_15_2) rfl ?_
  refine galoadN X0 hx (hb hby dp23_15_3) rfl rfl ?_
  obtain ⟨T2, X2, e2, st2⟩ := getF X0 hx hZ hown (host := "") (Or.inl (hwk hw 29 rfl)) Via.refl e0 FS1 (g := (mkF m 4 #[rv a, iv (0 : Int32)] [(.ref a), (.int (0 : Int32))])) rfl rfl (hb hby dp23_15_4)
  refine Goes.st st2 ?_
  show Gs p e below s _ _ _ T2 m 7 #[rv a, iv (0 : Int32)] [(.int (2 : Int32)), (.int (0 : Int32))]
  refine gicmpNo X2 hx (hb hby dp23_15_7) (by decide) ?_
  show Gs p e below s _ _ _ T2 m 10 #[rv a, iv (0 : Int32)] []
  refine galoadN X2 hx (hb hby dp23_15_10) rfl rfl ?_
  obtain ⟨T3, X3, e3, st3⟩ := getF X2 hx hZ hown (host := "") (Or.inl (hwk hw 17 rfl)) Via.refl e2 FP1 (g := (mkF m 11 #[rv a, iv (0 : Int32)] [(.ref a)])) rfl rfl (hb hby dp23_15_11)
  refine Goes.st st3 ?_
  refine galoadN X3 hx (hb hby dp23_15_14) rfl rfl ?_
  obtain ⟨T4, X4, e4, st4⟩ := getF X3 hx hZ hown (host := "") (Or.inl (hwk hw 12 rfl)) Via.refl e3 FI1 (g := (mkF m 15 #[rv a, iv (0 : Int32)] [(.ref a), (.ref aP)])) rfl rfl (hb hby dp23_15_15)
  refine Goes.st st4 ?_
  refine giloadN X4 hx (hb hby dp23_15_18) rfl ?_
  show Gs p e below s _ _ _ T4 m 19 #[rv a, iv (0 : Int32)] [(.int (0 : Int32)), (.ref aI), (.ref aP)]
  obtain ⟨cl5, Ar5, qk5, Sz5, qz5, Ha5, Gf5⟩ := id VI1
  have in5 := inb_of (j := (0 : Int32)) Sz5 ⟨by decide, by decide⟩
  refine Goes.st (fun tg kg => X4.iaload hx (j := (0 : Int32)) (v := (.int (I (0 : Int32)))) (by rw [e4]; exact Ar5.1) (State.isArrayOf_alike hZ.alike Ar5.2.1) Ar5.2.2 in5 (Ha5.at in5 (get_lst i4_0)) (g := (mkF m 19 #[rv a, iv (0 : Int32)] [(.int (0 : Int32)), (.ref aI), (.ref aP)])) rfl rfl (hb hby dp23_15_19) tg kg) ?_
  refine giconst X4 hx (hb hby dp23_15_20) ?_
  show Gs p e below s _ _ _ T4 m 21 #[rv a, iv (0 : Int32)] [(.int (-1 : Int32)), (.int (I (0 : Int32))), (.ref aP)]
  obtain ⟨cl6, Ar6, qk6, Sz6, qz6, Ha6, Gf6⟩ := id VP1
  obtain ⟨T6, h6, X6, e6, W6, st6⟩ := stI X4 hx hZ e4 Ar6 (inb_of Sz6 (own_in (hI.1 _ i4_0))) (g := (mkF m 21 #[rv a, iv (0 : Int32)] [(.int (-1 : Int32)), (.int (I (0 : Int32))), (.ref aP)])) rfl rfl (hb hby dp23_15_21)
  have N6 := Fr.snoc X6 N0 lP
  have V6 : Arv Z h6 aP kP .int (4 : Int32) (lst (upd P (I (0 : Int32)) (-1 : Int32))) (.int (0 : Int32)) := setI Ar6 qk6 Sz6 qz6 Ha6 Gf6 W6 (hI.1 _ i4_0)
  refine Goes.st st6 ?_
  have KK7 := K0.wr W6 (Or.inl (List.mem_of_getElem? (i := 3) rfl))
  have Z6 : n0 ≤ h6.size := by have := W6.size; have := Z0; omega
  show Gs p e below s _ _ _ T6 m 22 #[rv a, iv (0 : Int32)] []
  refine Goes.st (fun tg kg => XS.iinc X6.here hx rfl (hb hby dp23_15_22) rfl (l' := #[rv a, iv (1 : Int32)]) rfl kg) ?_
  show Gs p e below s _ _ _ T6 m 25 #[rv a, iv (1 : Int32)] []
  refine ggoto X6 hx (pc' := 2) (hb hby dp23_15_25) (by decide) (by decide) ?_
  show Gs p e below s _ _ _ T6 m 2 #[rv a, iv (1 : Int32)] []
  refine giloadN X6 hx (hb hby dp23_15_2) rfl ?_
  refine galoadN X6 hx (hb hby dp23_15_3) rfl rfl ?_
  have f9 := (FS1.other W6 (Or.inl naP))
  obtain ⟨T8, X8, e8, st8⟩ := getF X6 hx hZ hown (host := "") (Or.inl (hwk hw 29 rfl)) Via.refl e6 f9 (g := (mkF m 4 #[rv a, iv (1 : Int32)] [(.ref a), (.int (1 : Int32))])) rfl rfl (hb hby dp23_15_4)
  refine Goes.st st8 ?_
  show Gs p e below s _ _ _ T8 m 7 #[rv a, iv (1 : Int32)] [(.int (2 : Int32)), (.int (1 : Int32))]
  refine gicmpNo X8 hx (hb hby dp23_15_7) (by decide) ?_
  show Gs p e below s _ _ _ T8 m 10 #[rv a, iv (1 : Int32)] []
  refine galoadN X8 hx (hb hby dp23_15_10) rfl rfl ?_
  have f11 := (FP1.other W6 (Or.inl naP))
  obtain ⟨T10, X10, e10, st10⟩ := getF X8 hx hZ hown (host := "") (Or.inl (hwk hw 17 rfl)) Via.refl e8 f11 (g := (mkF m 11 #[rv a, iv (1 : Int32)] [(.ref a)])) rfl rfl (hb hby dp23_15_11)
  refine Goes.st st10 ?_
  refine galoadN X10 hx (hb hby dp23_15_14) rfl rfl ?_
  have f13 := (FI1.other W6 (Or.inl naP))
  obtain ⟨T12, X12, e12, st12⟩ := getF X10 hx hZ hown (host := "") (Or.inl (hwk hw 12 rfl)) Via.refl e10 f13 (g := (mkF m 15 #[rv a, iv (1 : Int32)] [(.ref a), (.ref aP)])) rfl rfl (hb hby dp23_15_15)
  refine Goes.st st12 ?_
  refine giloadN X12 hx (hb hby dp23_15_18) rfl ?_
  show Gs p e below s _ _ _ T12 m 19 #[rv a, iv (1 : Int32)] [(.int (1 : Int32)), (.ref aI), (.ref aP)]
  have f14 := (VI1.other W6 nIP)
  obtain ⟨cl15, Ar15, qk15, Sz15, qz15, Ha15, Gf15⟩ := id f14
  have in15 := inb_of (j := (1 : Int32)) Sz15 ⟨by decide, by decide⟩
  refine Goes.st (fun tg kg => X12.iaload hx (j := (1 : Int32)) (v := (.int (I (1 : Int32)))) (by rw [e12]; exact Ar15.1) (State.isArrayOf_alike hZ.alike Ar15.2.1) Ar15.2.2 in15 (Ha15.at in15 (get_lst i4_1)) (g := (mkF m 19 #[rv a, iv (1 : Int32)] [(.int (1 : Int32)), (.ref aI), (.ref aP)])) rfl rfl (hb hby dp23_15_19) tg kg) ?_
  refine giconst X12 hx (hb hby dp23_15_20) ?_
  show Gs p e below s _ _ _ T12 m 21 #[rv a, iv (1 : Int32)] [(.int (-1 : Int32)), (.int (I (1 : Int32))), (.ref aP)]
  obtain ⟨cl16, Ar16, qk16, Sz16, qz16, Ha16, Gf16⟩ := id V6
  obtain ⟨T16, h16, X16, e16, W16, st16⟩ := stI X12 hx hZ e12 Ar16 (inb_of Sz16 (own_in (hI.1 _ i4_1))) (g := (mkF m 21 #[rv a, iv (1 : Int32)] [(.int (-1 : Int32)), (.int (I (1 : Int32))), (.ref aP)])) rfl rfl (hb hby dp23_15_21)
  have N16 := Fr.snoc X16 N6 lP
  have V16 : Arv Z h16 aP kP .int (4 : Int32) (lst (upd (upd P (I (0 : Int32)) (-1 : Int32)) (I (1 : Int32)) (-1 : Int32))) (.int (0 : Int32)) := setI Ar16 qk16 Sz16 qz16 Ha16 Gf16 W16 (hI.1 _ i4_1)
  refine Goes.st st16 ?_
  have KK17 := KK7.wr W16 (Or.inl (List.mem_of_getElem? (i := 3) rfl))
  have Z16 : n0 ≤ h16.size := by have := W16.size; have := Z6; omega
  show Gs p e below s _ _ _ T16 m 22 #[rv a, iv (1 : Int32)] []
  refine Goes.st (fun tg kg => XS.iinc X16.here hx rfl (hb hby dp23_15_22) rfl (l' := #[rv a, iv (2 : Int32)]) rfl kg) ?_
  show Gs p e below s _ _ _ T16 m 25 #[rv a, iv (2 : Int32)] []
  refine ggoto X16 hx (pc' := 2) (hb hby dp23_15_25) (by decide) (by decide) ?_
  show Gs p e below s _ _ _ T16 m 2 #[rv a, iv (2 : Int32)] []
  refine giloadN X16 hx (hb hby dp23_15_2) rfl ?_
  refine galoadN X16 hx (hb hby dp23_15_3) rfl rfl ?_
  have f19 := (f9.other W16 (Or.inl naP))
  obtain ⟨T18, X18, e18, st18⟩ := getF X16 hx hZ hown (host := "") (Or.inl (hwk hw 29 rfl)) Via.refl e16 f19 (g := (mkF m 4 #[rv a, iv (2 : Int32)] [(.ref a), (.int (2 : Int32))])) rfl rfl (hb hby dp23_15_4)
  refine Goes.st st18 ?_
  show Gs p e below s _ _ _ T18 m 7 #[rv a, iv (2 : Int32)] [(.int (2 : Int32)), (.int (2 : Int32))]
  refine gicmpYes X18 hx (pc' := 28) (hb hby dp23_15_7) (by decide) (by decide) (by decide) ?_
  show Gs p e below s _ _ _ T18 m 28 #[rv a, iv (2 : Int32)] []
  refine galoadN X18 hx (hb hby dp23_15_28) rfl rfl ?_
  refine giconst X18 hx (hb hby dp23_15_29) ?_
  have f21 := ((E1.wr W6).wr W16)
  obtain ⟨T20, h20, X20, e20, W20, st20⟩ := putF X18 hx hZ hown (host := "") (Or.inl (hwk hw 29 rfl)) Via.refl e18 f19 f21 (Or.inl (hwk hw 30 rfl)) (hwk hw 1 rfl) (ty := .int) (by decide) rfl rfl (g := (mkF m 30 #[rv a, iv (2 : Int32)] [(.int (0 : Int32)), (.ref a)])) rfl rfl (hb hby dp23_15_30)
  have N20 := Fr.snoc X20 N16 la
  have G20 := f19.same W20
  refine Goes.st st20 ?_
  have KK22 := KK17.wr W20 (Or.inl (List.mem_of_getElem? (i := 0) rfl))
  have Z20 : n0 ≤ h20.size := by have := W20.size; have := Z16; omega
  show Gs p e below s _ _ _ T20 m 33 #[rv a, iv (2 : Int32)] []
  refine galoadN X20 hx (hb hby dp23_15_33) rfl rfl ?_
  refine giconst X20 hx (hb hby dp23_15_34) ?_
  have f24 := (((FO1.other W6 (Or.inl naP)).other W16 (Or.inl naP)).other W20 (Or.inr (slot_ne (Or.inl (hwk hw 10 rfl)) (Or.inl (hwk hw 30 rfl)) (by decide) (t := .boolean) (t' := .int) (by decide) (by decide))))
  have f25 := (f21.wr W20)
  obtain ⟨T23, h23, X23, e23, W23, st23⟩ := putFN X20 hx hZ hown (hwk hw 9 rfl) Via.refl e20 f24 f25 (Or.inl (hwk hw 10 rfl)) (hwk hw 1 rfl) (ty := .boolean) (v' := (.int (1 : Int32))) (by decide) rfl (by decide) (g := (mkF m 35 #[rv a, iv (2 : Int32)] [(.int (1 : Int32)), (.ref a)])) rfl rfl (hb hby dp23_15_35)
  have N23 := Fr.snoc X23 N20 la
  have G23 := f24.same W23
  refine Goes.st st23 ?_
  have KK26 := KK22.wr W23 (Or.inl (List.mem_of_getElem? (i := 0) rfl))
  have Z23 : n0 ≤ h23.size := by have := W23.size; have := Z20; omega
  show Gs p e below s _ _ _ T23 m 38 #[rv a, iv (2 : Int32)] []
  have f27 := ((V16.other W20 (Ne.symm naP)).other W23 (Ne.symm naP))
  have hc28 : ∀ i, In4 i → (upd (upd P (I (0 : Int32)) (-1 : Int32)) (I (1 : Int32)) (-1 : Int32)) i = (fun _ => (-1 : Int32)) i := by
    intro i hi
    rcases hI.2.2 i hi with u | ⟨j, u1, u2, rfl⟩
    · exact clr (clr (u))
    · rcases u1 with rfl | rfl | rfl | rfl
      · exact clr (upd_hit)
      · exact upd_hit
      · exact absurd u2 (by decide)
      · exact absurd u2 (by decide)
  have VC28 : Arv Z h23 aP kP .int (4 : Int32) (lst (fun _ => -1)) (.int (0 : Int32)) := by rw [← lst_congr hc28]; exact f27
  have f29 := (f25.wr W23)
  have f30 := (((f13.other W16 (Or.inl naP)).other W20 (Or.inr (slot_ne (Or.inr (hwk hw 13 rfl)) (Or.inl (hwk hw 30 rfl)) (by decide) (t := (.array .int)) (t' := .int) (by decide) (by decide)))).other W23 (Or.inr (slot_ne (Or.inr (hwk hw 13 rfl)) (Or.inl (hwk hw 10 rfl)) (by decide) (t := (.array .int)) (t' := .boolean) (by decide) (by decide))))
  have f31 := ((((FT1.other W6 (Or.inl naP)).other W16 (Or.inl naP)).other W20 (Or.inr (slot_ne (Or.inr (hwk hw 16 rfl)) (Or.inl (hwk hw 30 rfl)) (by decide) (t := (.array .double)) (t' := .int) (by decide) (by decide)))).other W23 (Or.inr (slot_ne (Or.inr (hwk hw 16 rfl)) (Or.inl (hwk hw 10 rfl)) (by decide) (t := (.array .double)) (t' := .boolean) (by decide) (by decide))))
  have f32 := (((f11.other W16 (Or.inl naP)).other W20 (Or.inr (slot_ne (Or.inr (hwk hw 18 rfl)) (Or.inl (hwk hw 30 rfl)) (by decide) (t := (.array .int)) (t' := .int) (by decide) (by decide)))).other W23 (Or.inr (slot_ne (Or.inr (hwk hw 18 rfl)) (Or.inl (hwk hw 10 rfl)) (by decide) (t := (.array .int)) (t' := .boolean) (by decide) (by decide))))
  have f33 := (G20.other W23 (Or.inr (slot_ne (Or.inl (hwk hw 30 rfl)) (Or.inl (hwk hw 10 rfl)) (by decide) (t := .int) (t' := .boolean) (by decide) (by decide))))
  have f34 := (((f14.other W16 nIP).other W20 (Ne.symm naI)).other W23 (Ne.symm naI))
  have f35 := ((((VT1.other W6 nTP).other W16 nTP).other W20 (Ne.symm naT)).other W23 (Ne.symm naT))
  have HR36 : HR Z h23 a aI aT aP kI kT kP I D (fun _ => -1) (0 : Int32) (1 : Int32) := ⟨f29, f30, f31, f32, f33, G23, f34, f35, VC28⟩
  refine Goes.retV X23 hx hlk hret (hb hby dp23_15_38) ?_ (by decide) (by decide)
  rw [e23]
  exact ⟨rfl, N23, KK26, HR36⟩
theorem ef_C3 (m : MethodId) (x0 : Addr) : entryFrame m #[(.ref x0)] 2 = mkF m 0 #[rv x0, .unset] [] := by first | (simp [entryFrame, mkF, argsToLocals, Value.category]; done) | rfl
def QC3 (Z : State) (a aI aT aP : Addr) (kI kT kP : ClassId) (I : Int32 → Int32) (D : Int32 → UInt64) (P : Int32 → Int32) (o : Int32) (S : Int32 → Prop) (h0 : Heap) (n0 : Nat) (v : Option Value) (h : Heap) (L : List Loc) : Prop := v = none ∧ Fr n0 L ∧ Keep h0 h [a, aI, aT, aP] ∧ HR Z h a aI aT aP kI kT kP I D (fun _ => -1) 0 1
set_option maxRecDepth 65536 in
set_option maxHeartbeats 40000000 in
theorem rmC3 (l : Launch) (Z : State) (a0 : Array Value) (hw : ∀ d ∈ tables_1, d.before a0 Z = true) (ws : List Jvm.Cond) (a aI aT aP : Addr) (kI kT kP : ClassId) (I : Int32 → Int32) (D : Int32 → UInt64) (P : Int32 → Int32) (o : Int32) (S : Int32 → Prop) (h0 : Heap) (n0 : Nat) (Z0 : n0 ≤ h0.size) (hB : HB n0 a aI aT aP) (hR : HR Z h0 a aI aT aP kI kT kP I D P (3 : Int32) o) (hI : Inv (3 : Int32) S I P) :
    MetFree l mN16 (head1 (Jvm.Cond.code mN16 prog_23_method_15_code 2 none :: ws) ({ frames := 0, cells := 0, slots := 0, locals := 0 } : Room)) (fun aa U => aa = #[(.ref a)] ∧ Z.Warmed39 U.vm ∧ U.heap = h0) (fun _ _ _ _ _ => True) (fun _ u1_ o_ u2_ => ∃ v_ l_, o_ = .returned v_ ∧ QC3 Z a aI aT aP kI kT kP I D P o S h0 n0 v_ u2_.heap l_ ∧ FrameEnd u1_ o_ u2_ l_ ({ frames := 0, cells := 0, slots := 0, locals := 0 } : Room).cells ({ frames := 0, cells := 0, slots := 0, locals := 0 } : Room).slots) := by
  refine MetFree.of_bodySF (plainFor_of_name pn_com_example_redoubt_redoubt_engine_IndexHeap) hisR ?_
  intro p e s m args below meth c s₁ Bd hml0 hP hK
  obtain ⟨rfl, hZ, hh⟩ := hP
  have hx := Bd.exec
  have hby := Bd.bytes
  have hlk := BodyLoose.notSynchronized Bd
  have hret := Bd.returns
  have hml : c.maxLocals = 2 := hml0
  have hown : s.vm.findClass "com/example/redoubt/redoubt/engine/IndexHeap" = some m.cls := findClass_of_methodNamed Bd.named
  have hnm := (name_of_methodNamed Bd.named Bd.method).1
  have X0 : Stand p l e ({ frames := 0, cells := 0, slots := 0, locals := 0 } : Room) s m #[(.ref a)] below meth c s₁ [] 0 0 := Stand.of_body Bd
  have e0 : s₁.heap = h0 := by rw [← hh, Bd.state]; rfl
  have N0 := Fr.nil n0
  refine Goes.st (s := s) (Q := QC3 Z a aI aT aP kI kT kP I D P o S h0 n0) (cs := ({ frames := 0, cells := 0, slots := 0, locals := 0 } : Room).cells) (ss := ({ frames := 0, cells := 0, slots := 0, locals := 0 } : Room).slots) (fun tg kg => castTop (ef_C3 m a) kg) ?_
  obtain ⟨la, lI, lT, lP, naI, naT, naP, nIT, nIP, nTP⟩ := id hB
  obtain ⟨E1, FI1, FT1, FP1, FS1, FO1, VI1, VT1, VP1⟩ := id hR
  have K0 : Keep h0 h0 [a, aI, aT, aP] := Keep.refl _ _
  show Gs p e below s _ _ _ s₁ m 0 #[rv a, .unset] []
  refine giconst X0 hx (hb hby dp23_15_0) ?_
  refine gistoreN X0 hx (hb hby dp23_15_1) trivial (l' := #[rv a, iv (0 : Int32)]) rfl ?_
  refine giloadN X0 hx (hb hby dp23_15_2) rfl ?_
  refine galoadN X0 hx (hb hby dp23_15_3) rfl rfl ?_
  obtain ⟨T2, X2, e2, st2⟩ := getF X0 hx hZ hown (host := "") (Or.inl (hwk hw 29 rfl)) Via.refl e0 FS1 (g := (mkF m 4 #[rv a, iv (0 : Int32)] [(.ref a), (.int (0 : Int32))])) rfl rfl (hb hby dp23_15_4)
  refine Goes.st st2 ?_
  show Gs p e below s _ _ _ T2 m 7 #[rv a, iv (0 : Int32)] [(.int (3 : Int32)), (.int (0 : Int32))]
  refine gicmpNo X2 hx (hb hby dp23_15_7) (by decide) ?_
  show Gs p e below s _ _ _ T2 m 10 #[rv a, iv (0 : Int32)] []
  refine galoadN X2 hx (hb hby dp23_15_10) rfl rfl ?_
  obtain ⟨T3, X3, e3, st3⟩ := getF X2 hx hZ hown (host := "") (Or.inl (hwk hw 17 rfl)) Via.refl e2 FP1 (g := (mkF m 11 #[rv a, iv (0 : Int32)] [(.ref a)])) rfl rfl (hb hby dp23_15_11)
  refine Goes.st st3 ?_
  refine galoadN X3 hx (hb hby dp23_15_14) rfl rfl ?_
  obtain ⟨T4, X4, e4, st4⟩ := getF X3 hx hZ hown (host := "") (Or.inl (hwk hw 12 rfl)) Via.refl e3 FI1 (g := (mkF m 15 #[rv a, iv (0 : Int32)] [(.ref a), (.ref aP)])) rfl rfl (hb hby dp23_15_15)
  refine Goes.st st4 ?_
  refine giloadN X4 hx (hb hby dp23_15_18) rfl ?_
  show Gs p e below s _ _ _ T4 m 19 #[rv a, iv (0 : Int32)] [(.int (0 : Int32)), (.ref aI), (.ref aP)]
  obtain ⟨cl5, Ar5, qk5, Sz5, qz5, Ha5, Gf5⟩ := id VI1
  have in5 := inb_of (j := (0 : Int32)) Sz5 ⟨by decide, by decide⟩
  refine Goes.st (fun tg kg => X4.iaload hx (j := (0 : Int32)) (v := (.int (I (0 : Int32)))) (by rw [e4]; exact Ar5.1) (State.isArrayOf_alike hZ.alike Ar5.2.1) Ar5.2.2 in5 (Ha5.at in5 (get_lst i4_0)) (g := (mkF m 19 #[rv a, iv (0 : Int32)] [(.int (0 : Int32)), (.ref aI), (.ref aP)])) rfl rfl (hb hby dp23_15_19) tg kg) ?_
  refine giconst X4 hx (hb hby dp23_15_20) ?_
  show Gs p e below s _ _ _ T4 m 21 #[rv a, iv (0 : Int32)] [(.int (-1 : Int32)), (.int (I (0 : Int32))), (.ref aP)]
  obtain ⟨cl6, Ar6, qk6, Sz6, qz6, Ha6, Gf6⟩ := id VP1
  obtain ⟨T6, h6, X6, e6, W6, st6⟩ := stI X4 hx hZ e4 Ar6 (inb_of Sz6 (own_in (hI.1 _ i4_0))) (g := (mkF m 21 #[rv a, iv (0 : Int32)] [(.int (-1 : Int32)), (.int (I (0 : Int32))), (.ref aP)])) rfl rfl (hb hby dp23_15_21)
  have N6 := Fr.snoc X6 N0 lP
  have V6 : Arv Z h6 aP kP .int (4 : Int32) (lst (upd P (I (0 : Int32)) (-1 : Int32))) (.int (0 : Int32)) := setI Ar6 qk6 Sz6 qz6 Ha6 Gf6 W6 (hI.1 _ i4_0)
  refine Goes.st st6 ?_
  have KK7 := K0.wr W6 (Or.inl (List.mem_of_getElem? (i := 3) rfl))
  have Z6 : n0 ≤ h6.size := by have := W6.size; have := Z0; omega
  show Gs p e below s _ _ _ T6 m 22 #[rv a, iv (0 : Int32)] []
  refine Goes.st (fun tg kg => XS.iinc X6.here hx rfl (hb hby dp23_15_22) rfl (l' := #[rv a, iv (1 : Int32)]) rfl kg) ?_
  show Gs p e below s _ _ _ T6 m 25 #[rv a, iv (1 : Int32)] []
  refine ggoto X6 hx (pc' := 2) (hb hby dp23_15_25) (by decide) (by decide) ?_
  show Gs p e below s _ _ _ T6 m 2 #[rv a, iv (1 : Int32)] []
  refine giloadN X6 hx (hb hby dp23_15_2) rfl ?_
  refine galoadN X6 hx (hb hby dp23_15_3) rfl rfl ?_
  have f9 := (FS1.other W6 (Or.inl naP))
  obtain ⟨T8, X8, e8, st8⟩ := getF X6 hx hZ hown (host := "") (Or.inl (hwk hw 29 rfl)) Via.refl e6 f9 (g := (mkF m 4 #[rv a, iv (1 : Int32)] [(.ref a), (.int (1 : Int32))])) rfl rfl (hb hby dp23_15_4)
  refine Goes.st st8 ?_
  show Gs p e below s _ _ _ T8 m 7 #[rv a, iv (1 : Int32)] [(.int (3 : Int32)), (.int (1 : Int32))]
  refine gicmpNo X8 hx (hb hby dp23_15_7) (by decide) ?_
  show Gs p e below s _ _ _ T8 m 10 #[rv a, iv (1 : Int32)] []
  refine galoadN X8 hx (hb hby dp23_15_10) rfl rfl ?_
  have f11 := (FP1.other W6 (Or.inl naP))
  obtain ⟨T10, X10, e10, st10⟩ := getF X8 hx hZ hown (host := "") (Or.inl (hwk hw 17 rfl)) Via.refl e8 f11 (g := (mkF m 11 #[rv a, iv (1 : Int32)] [(.ref a)])) rfl rfl (hb hby dp23_15_11)
  refine Goes.st st10 ?_
  refine galoadN X10 hx (hb hby dp23_15_14) rfl rfl ?_
  have f13 := (FI1.other W6 (Or.inl naP))
  obtain ⟨T12, X12, e12, st12⟩ := getF X10 hx hZ hown (host := "") (Or.inl (hwk hw 12 rfl)) Via.refl e10 f13 (g := (mkF m 15 #[rv a, iv (1 : Int32)] [(.ref a), (.ref aP)])) rfl rfl (hb hby dp23_15_15)
  refine Goes.st st12 ?_
  refine giloadN X12 hx (hb hby dp23_15_18) rfl ?_
  show Gs p e below s _ _ _ T12 m 19 #[rv a, iv (1 : Int32)] [(.int (1 : Int32)), (.ref aI), (.ref aP)]
  have f14 := (VI1.other W6 nIP)
  obtain ⟨cl15, Ar15, qk15, Sz15, qz15, Ha15, Gf15⟩ := id f14
  have in15 := inb_of (j := (1 : Int32)) Sz15 ⟨by decide, by decide⟩
  refine Goes.st (fun tg kg => X12.iaload hx (j := (1 : Int32)) (v := (.int (I (1 : Int32)))) (by rw [e12]; exact Ar15.1) (State.isArrayOf_alike hZ.alike Ar15.2.1) Ar15.2.2 in15 (Ha15.at in15 (get_lst i4_1)) (g := (mkF m 19 #[rv a, iv (1 : Int32)] [(.int (1 : Int32)), (.ref aI), (.ref aP)])) rfl rfl (hb hby dp23_15_19) tg kg) ?_
  refine giconst X12 hx (hb hby dp23_15_20) ?_
  show Gs p e below s _ _ _ T12 m 21 #[rv a, iv (1 : Int32)] [(.int (-1 : Int32)), (.int (I (1 : Int32))), (.ref aP)]
  obtain ⟨cl16, Ar16, qk16, Sz16, qz16, Ha16, Gf16⟩ := id V6
  obtain ⟨T16, h16, X16, e16, W16, st16⟩ := stI X12 hx hZ e12 Ar16 (inb_of Sz16 (own_in (hI.1 _ i4_1))) (g := (mkF m 21 #[rv a, iv (1 : Int32)] [(.int (-1 : Int32)), (.int (I (1 : Int32))), (.ref aP)])) rfl rfl (hb hby dp23_15_21)
  have N16 := Fr.snoc X16 N6 lP
  have V16 : Arv Z h16 aP kP .int (4 : Int32) (lst (upd (upd P (I (0 : Int32)) (-1 : Int32)) (I (1 : Int32)) (-1 : Int32))) (.int (0 : Int32)) := setI Ar16 qk16 Sz16 qz16 Ha16 Gf16 W16 (hI.1 _ i4_1)
  refine Goes.st st16 ?_
  have KK17 := KK7.wr W16 (Or.inl (List.mem_of_getElem? (i := 3) rfl))
  have Z16 : n0 ≤ h16.size := by have := W16.size; have := Z6; omega
  show Gs p e below s _ _ _ T16 m 22 #[rv a, iv (1 : Int32)] []
  refine Goes.st (fun tg kg => XS.iinc X16.here hx rfl (hb hby dp23_15_22) rfl (l' := #[rv a, iv (2 : Int32)]) rfl kg) ?_
  show Gs p e below s _ _ _ T16 m 25 #[rv a, iv (2 : Int32)] []
  refine ggoto X16 hx (pc' := 2) (hb hby dp23_15_25) (by decide) (by decide) ?_
  show Gs p e below s _ _ _ T16 m 2 #[rv a, iv (2 : Int32)] []
  refine giloadN X16 hx (hb hby dp23_15_2) rfl ?_
  refine galoadN X16 hx (hb hby dp23_15_3) rfl rfl ?_
  have f19 := (f9.other W16 (Or.inl naP))
  obtain ⟨T18, X18, e18, st18⟩ := getF X16 hx hZ hown (host := "") (Or.inl (hwk hw 29 rfl)) Via.refl e16 f19 (g := (mkF m 4 #[rv a, iv (2 : Int32)] [(.ref a), (.int (2 : Int32))])) rfl rfl (hb hby dp23_15_4)
  refine Goes.st st18 ?_
  show Gs p e below s _ _ _ T18 m 7 #[rv a, iv (2 : Int32)] [(.int (3 : Int32)), (.int (2 : Int32))]
  refine gicmpNo X18 hx (hb hby dp23_15_7) (by decide) ?_
  show Gs p e below s _ _ _ T18 m 10 #[rv a, iv (2 : Int32)] []
  refine galoadN X18 hx (hb hby dp23_15_10) rfl rfl ?_
  have f21 := (f11.other W16 (Or.inl naP))
  obtain ⟨T20, X20, e20, st20⟩ := getF X18 hx hZ hown (host := "") (Or.inl (hwk hw 17 rfl)) Via.refl e18 f21 (g := (mkF m 11 #[rv a, iv (2 : Int32)] [(.ref a)])) rfl rfl (hb hby dp23_15_11)
  refine Goes.st st20 ?_
  refine galoadN X20 hx (hb hby dp23_15_14) rfl rfl ?_
  have f23 := (f13.other W16 (Or.inl naP))
  obtain ⟨T22, X22, e22, st22⟩ := getF X20 hx hZ hown (host := "") (Or.inl (hwk hw 12 rfl)) Via.refl e20 f23 (g := (mkF m 15 #[rv a, iv (2 : Int32)] [(.ref a), (.ref aP)])) rfl rfl (hb hby dp23_15_15)
  refine Goes.st st22 ?_
  refine giloadN X22 hx (hb hby dp23_15_18) rfl ?_
  show Gs p e below s _ _ _ T22 m 19 #[rv a, iv (2 : Int32)] [(.int (2 : Int32)), (.ref aI), (.ref aP)]
  have f24 := (f14.other W16 nIP)
  obtain ⟨cl25, Ar25, qk25, Sz25, qz25, Ha25, Gf25⟩ := id f24
  have in25 := inb_of (j := (2 : Int32)) Sz25 ⟨by decide, by decide⟩
  refine Goes.st (fun tg kg => X22.iaload hx (j := (2 : Int32)) (v := (.int (I (2 : Int32)))) (by rw [e22]; exact Ar25.1) (State.isArrayOf_alike hZ.alike Ar25.2.1) Ar25.2.2 in25 (Ha25.at in25 (get_lst i4_2)) (g := (mkF m 19 #[rv a, iv (2 : Int32)] [(.int (2 : Int32)), (.ref aI), (.ref aP)])) rfl rfl (hb hby dp23_15_19) tg kg) ?_
  refine giconst X22 hx (hb hby dp23_15_20) ?_
  show Gs p e below s _ _ _ T22 m 21 #[rv a, iv (2 : Int32)] [(.int (-1 : Int32)), (.int (I (2 : Int32))), (.ref aP)]
  obtain ⟨cl26, Ar26, qk26, Sz26, qz26, Ha26, Gf26⟩ := id V16
  obtain ⟨T26, h26, X26, e26, W26, st26⟩ := stI X22 hx hZ e22 Ar26 (inb_of Sz26 (own_in (hI.1 _ i4_2))) (g := (mkF m 21 #[rv a, iv (2 : Int32)] [(.int (-1 : Int32)), (.int (I (2 : Int32))), (.ref aP)])) rfl rfl (hb hby dp23_15_21)
  have N26 := Fr.snoc X26 N16 lP
  have V26 : Arv Z h26 aP kP .int (4 : Int32) (lst (upd (upd (upd P (I (0 : Int32)) (-1 : Int32)) (I (1 : Int32)) (-1 : Int32)) (I (2 : Int32)) (-1 : Int32))) (.int (0 : Int32)) := setI Ar26 qk26 Sz26 qz26 Ha26 Gf26 W26 (hI.1 _ i4_2)
  refine Goes.st st26 ?_
  have KK27 := KK17.wr W26 (Or.inl (List.mem_of_getElem? (i := 3) rfl))
  have Z26 : n0 ≤ h26.size := by have := W26.size; have := Z16; omega
  show Gs p e below s _ _ _ T26 m 22 #[rv a, iv (2 : Int32)] []
  refine Goes.st (fun tg kg => XS.iinc X26.here hx rfl (hb hby dp23_15_22) rfl (l' := #[rv a, iv (3 : Int32)]) rfl kg) ?_
  show Gs p e below s _ _ _ T26 m 25 #[rv a, iv (3 : Int32)] []
  refine ggoto X26 hx (pc' := 2) (hb hby dp23_15_25) (by decide) (by decide) ?_
  show Gs p e below s _ _ _ T26 m 2 #[rv a, iv (3 : Int32)] []
  refine giloadN X26 hx (hb hby dp23_15_2) rfl ?_
  refine galoadN X26 hx (hb hby dp23_15_3) rfl rfl ?_
  have f29 := (f19.other W26 (Or.inl naP))
  obtain ⟨T28, X28, e28, st28⟩ := getF X26 hx hZ hown (host := "") (Or.inl (hwk hw 29 rfl)) Via.refl e26 f29 (g := (mkF m 4 #[rv a, iv (3 : Int32)] [(.ref a), (.int (3 : Int32))])) rfl rfl (hb hby dp23_15_4)
  refine Goes.st st28 ?_
  show Gs p e below s _ _ _ T28 m 7 #[rv a, iv (3 : Int32)] [(.int (3 : Int32)), (.int (3 : Int32))]
  refine gicmpYes X28 hx (pc' := 28) (hb hby dp23_15_7) (by decide) (by decide) (by decide) ?_
  show Gs p e below s _ _ _ T28 m 28 #[rv a, iv (3 : Int32)] []
  refine galoadN X28 hx (hb hby dp23_15_28) rfl rfl ?_
  refine giconst X28 hx (hb hby dp23_15_29) ?_
  have f31 := (((E1.wr W6).wr W16).wr W26)
  obtain ⟨T30, h30, X30, e30, W30, st30⟩ := putF X28 hx hZ hown (host := "") (Or.inl (hwk hw 29 rfl)) Via.refl e28 f29 f31 (Or.inl (hwk hw 30 rfl)) (hwk hw 1 rfl) (ty := .int) (by decide) rfl rfl (g := (mkF m 30 #[rv a, iv (3 : Int32)] [(.int (0 : Int32)), (.ref a)])) rfl rfl (hb hby dp23_15_30)
  have N30 := Fr.snoc X30 N26 la
  have G30 := f29.same W30
  refine Goes.st st30 ?_
  have KK32 := KK27.wr W30 (Or.inl (List.mem_of_getElem? (i := 0) rfl))
  have Z30 : n0 ≤ h30.size := by have := W30.size; have := Z26; omega
  show Gs p e below s _ _ _ T30 m 33 #[rv a, iv (3 : Int32)] []
  refine galoadN X30 hx (hb hby dp23_15_33) rfl rfl ?_
  refine giconst X30 hx (hb hby dp23_15_34) ?_
  have f34 := ((((FO1.other W6 (Or.inl naP)).other W16 (Or.inl naP)).other W26 (Or.inl naP)).other W30 (Or.inr (slot_ne (Or.inl (hwk hw 10 rfl)) (Or.inl (hwk hw 30 rfl)) (by decide) (t := .boolean) (t' := .int) (by decide) (by decide))))
  have f35 := (f31.wr W30)
  obtain ⟨T33, h33, X33, e33, W33, st33⟩ := putFN X30 hx hZ hown (hwk hw 9 rfl) Via.refl e30 f34 f35 (Or.inl (hwk hw 10 rfl)) (hwk hw 1 rfl) (ty := .boolean) (v' := (.int (1 : Int32))) (by decide) rfl (by decide) (g := (mkF m 35 #[rv a, iv (3 : Int32)] [(.int (1 : Int32)), (.ref a)])) rfl rfl (hb hby dp23_15_35)
  have N33 := Fr.snoc X33 N30 la
  have G33 := f34.same W33
  refine Goes.st st33 ?_
  have KK36 := KK32.wr W33 (Or.inl (List.mem_of_getElem? (i := 0) rfl))
  have Z33 : n0 ≤ h33.size := by have := W33.size; have := Z30; omega
  show Gs p e below s _ _ _ T33 m 38 #[rv a, iv (3 : Int32)] []
  have f37 := ((V26.other W30 (Ne.symm naP)).other W33 (Ne.symm naP))
  have hc38 : ∀ i, In4 i → (upd (upd (upd P (I (0 : Int32)) (-1 : Int32)) (I (1 : Int32)) (-1 : Int32)) (I (2 : Int32)) (-1 : Int32)) i = (fun _ => (-1 : Int32)) i := by
    intro i hi
    rcases hI.2.2 i hi with u | ⟨j, u1, u2, rfl⟩
    · exact clr (clr (clr (u)))
    · rcases u1 with rfl | rfl | rfl | rfl
      · exact clr (clr (upd_hit))
      · exact clr (upd_hit)
      · exact upd_hit
      · exact absurd u2 (by decide)
  have VC38 : Arv Z h33 aP kP .int (4 : Int32) (lst (fun _ => -1)) (.int (0 : Int32)) := by rw [← lst_congr hc38]; exact f37
  have f39 := (f35.wr W33)
  have f40 := (((f23.other W26 (Or.inl naP)).other W30 (Or.inr (slot_ne (Or.inr (hwk hw 13 rfl)) (Or.inl (hwk hw 30 rfl)) (by decide) (t := (.array .int)) (t' := .int) (by decide) (by decide)))).other W33 (Or.inr (slot_ne (Or.inr (hwk hw 13 rfl)) (Or.inl (hwk hw 10 rfl)) (by decide) (t := (.array .int)) (t' := .boolean) (by decide) (by decide))))
  have f41 := (((((FT1.other W6 (Or.inl naP)).other W16 (Or.inl naP)).other W26 (Or.inl naP)).other W30 (Or.inr (slot_ne (Or.inr (hwk hw 16 rfl)) (Or.inl (hwk hw 30 rfl)) (by decide) (t := (.array .double)) (t' := .int) (by decide) (by decide)))).other W33 (Or.inr (slot_ne (Or.inr (hwk hw 16 rfl)) (Or.inl (hwk hw 10 rfl)) (by decide) (t := (.array .double)) (t' := .boolean) (by decide) (by decide))))
  have f42 := (((f21.other W26 (Or.inl naP)).other W30 (Or.inr (slot_ne (Or.inr (hwk hw 18 rfl)) (Or.inl (hwk hw 30 rfl)) (by decide) (t := (.array .int)) (t' := .int) (by decide) (by decide)))).other W33 (Or.inr (slot_ne (Or.inr (hwk hw 18 rfl)) (Or.inl (hwk hw 10 rfl)) (by decide) (t := (.array .int)) (t' := .boolean) (by decide) (by decide))))
  have f43 := (G30.other W33 (Or.inr (slot_ne (Or.inl (hwk hw 30 rfl)) (Or.inl (hwk hw 10 rfl)) (by decide) (t := .int) (t' := .boolean) (by decide) (by decide))))
  have f44 := (((f24.other W26 nIP).other W30 (Ne.symm naI)).other W33 (Ne.symm naI))
  have f45 := (((((VT1.other W6 nTP).other W16 nTP).other W26 nTP).other W30 (Ne.symm naT)).other W33 (Ne.symm naT))
  have HR46 : HR Z h33 a aI aT aP kI kT kP I D (fun _ => -1) (0 : Int32) (1 : Int32) := ⟨f39, f40, f41, f42, f43, G33, f44, f45, VC38⟩
  refine Goes.retV X33 hx hlk hret (hb hby dp23_15_38) ?_ (by decide) (by decide)
  rw [e33]
  exact ⟨rfl, N33, KK36, HR46⟩
theorem ef_C4 (m : MethodId) (x0 : Addr) : entryFrame m #[(.ref x0)] 2 = mkF m 0 #[rv x0, .unset] [] := by first | (simp [entryFrame, mkF, argsToLocals, Value.category]; done) | rfl
def QC4 (Z : State) (a aI aT aP : Addr) (kI kT kP : ClassId) (I : Int32 → Int32) (D : Int32 → UInt64) (P : Int32 → Int32) (o : Int32) (S : Int32 → Prop) (h0 : Heap) (n0 : Nat) (v : Option Value) (h : Heap) (L : List Loc) : Prop := v = none ∧ Fr n0 L ∧ Keep h0 h [a, aI, aT, aP] ∧ HR Z h a aI aT aP kI kT kP I D (fun _ => -1) 0 1
set_option maxRecDepth 65536 in
set_option maxHeartbeats 40000000 in
theorem rmC4 (l : Launch) (Z : State) (a0 : Array Value) (hw : ∀ d ∈ tables_1, d.before a0 Z = true) (ws : List Jvm.Cond) (a aI aT aP : Addr) (kI kT kP : ClassId) (I : Int32 → Int32) (D : Int32 → UInt64) (P : Int32 → Int32) (o : Int32) (S : Int32 → Prop) (h0 : Heap) (n0 : Nat) (Z0 : n0 ≤ h0.size) (hB : HB n0 a aI aT aP) (hR : HR Z h0 a aI aT aP kI kT kP I D P (4 : Int32) o) (hI : Inv (4 : Int32) S I P) :
    MetFree l mN16 (head1 (Jvm.Cond.code mN16 prog_23_method_15_code 2 none :: ws) ({ frames := 0, cells := 0, slots := 0, locals := 0 } : Room)) (fun aa U => aa = #[(.ref a)] ∧ Z.Warmed39 U.vm ∧ U.heap = h0) (fun _ _ _ _ _ => True) (fun _ u1_ o_ u2_ => ∃ v_ l_, o_ = .returned v_ ∧ QC4 Z a aI aT aP kI kT kP I D P o S h0 n0 v_ u2_.heap l_ ∧ FrameEnd u1_ o_ u2_ l_ ({ frames := 0, cells := 0, slots := 0, locals := 0 } : Room).cells ({ frames := 0, cells := 0, slots := 0, locals := 0 } : Room).slots) := by
  refine MetFree.of_bodySF (plainFor_of_name pn_com_example_redoubt_redoubt_engine_IndexHeap) hisR ?_
  intro p e s m args below meth c s₁ Bd hml0 hP hK
  obtain ⟨rfl, hZ, hh⟩ := hP
  have hx := Bd.exec
  have hby := Bd.bytes
  have hlk := BodyLoose.notSynchronized Bd
  have hret := Bd.returns
  have hml : c.maxLocals = 2 := hml0
  have hown : s.vm.findClass "com/example/redoubt/redoubt/engine/IndexHeap" = some m.cls := findClass_of_methodNamed Bd.named
  have hnm := (name_of_methodNamed Bd.named Bd.method).1
  have X0 : Stand p l e ({ frames := 0, cells := 0, slots := 0, locals := 0 } : Room) s m #[(.ref a)] below meth c s₁ [] 0 0 := Stand.of_body Bd
  have e0 : s₁.heap = h0 := by rw [← hh, Bd.state]; rfl
  have N0 := Fr.nil n0
  refine Goes.st (s := s) (Q := QC4 Z a aI aT aP kI kT kP I D P o S h0 n0) (cs := ({ frames := 0, cells := 0, slots := 0, locals := 0 } : Room).cells) (ss := ({ frames := 0, cells := 0, slots := 0, locals := 0 } : Room).slots) (fun tg kg => castTop (ef_C4 m a) kg) ?_
  obtain ⟨la, lI, lT, lP, naI, naT, naP, nIT, nIP, nTP⟩ := id hB
  obtain ⟨E1, FI1, FT1, FP1, FS1, FO1, VI1, VT1, VP1⟩ := id hR
  have K0 : Keep h0 h0 [a, aI, aT, aP] := Keep.refl _ _
  show Gs p e below s _ _ _ s₁ m 0 #[rv a, .unset] []
  refine giconst X0 hx (hb hby dp23_15_0) ?_
  refine gistoreN X0 hx (hb hby dp23_15_1) trivial (l' := #[rv a, iv (0 : Int32)]) rfl ?_
  refine giloadN X0 hx (hb hby dp23_15_2) rfl ?_
  refine galoadN X0 hx (hb hby dp23_15_3) rfl rfl ?_
  obtain ⟨T2, X2, e2, st2⟩ := getF X0 hx hZ hown (host := "") (Or.inl (hwk hw 29 rfl)) Via.refl e0 FS1 (g := (mkF m 4 #[rv a, iv (0 : Int32)] [(.ref a), (.int (0 : Int32))])) rfl rfl (hb hby dp23_15_4)
  refine Goes.st st2 ?_
  show Gs p e below s _ _ _ T2 m 7 #[rv a, iv (0 : Int32)] [(.int (4 : Int32)), (.int (0 : Int32))]
  refine gicmpNo X2 hx (hb hby dp23_15_7) (by decide) ?_
  show Gs p e below s _ _ _ T2 m 10 #[rv a, iv (0 : Int32)] []
  refine galoadN X2 hx (hb hby dp23_15_10) rfl rfl ?_
  obtain ⟨T3, X3, e3, st3⟩ := getF X2 hx hZ hown (host := "") (Or.inl (hwk hw 17 rfl)) Via.refl e2 FP1 (g := (mkF m 11 #[rv a, iv (0 : Int32)] [(.ref a)])) rfl rfl (hb hby dp23_15_11)
  refine Goes.st st3 ?_
  refine galoadN X3 hx (hb hby dp23_15_14) rfl rfl ?_
  obtain ⟨T4, X4, e4, st4⟩ := getF X3 hx hZ hown (host := "") (Or.inl (hwk hw 12 rfl)) Via.refl e3 FI1 (g := (mkF m 15 #[rv a, iv (0 : Int32)] [(.ref a), (.ref aP)])) rfl rfl (hb hby dp23_15_15)
  refine Goes.st st4 ?_
  refine giloadN X4 hx (hb hby dp23_15_18) rfl ?_
  show Gs p e below s _ _ _ T4 m 19 #[rv a, iv (0 : Int32)] [(.int (0 : Int32)), (.ref aI), (.ref aP)]
  obtain ⟨cl5, Ar5, qk5, Sz5, qz5, Ha5, Gf5⟩ := id VI1
  have in5 := inb_of (j := (0 : Int32)) Sz5 ⟨by decide, by decide⟩
  refine Goes.st (fun tg kg => X4.iaload hx (j := (0 : Int32)) (v := (.int (I (0 : Int32)))) (by rw [e4]; exact Ar5.1) (State.isArrayOf_alike hZ.alike Ar5.2.1) Ar5.2.2 in5 (Ha5.at in5 (get_lst i4_0)) (g := (mkF m 19 #[rv a, iv (0 : Int32)] [(.int (0 : Int32)), (.ref aI), (.ref aP)])) rfl rfl (hb hby dp23_15_19) tg kg) ?_
  refine giconst X4 hx (hb hby dp23_15_20) ?_
  show Gs p e below s _ _ _ T4 m 21 #[rv a, iv (0 : Int32)] [(.int (-1 : Int32)), (.int (I (0 : Int32))), (.ref aP)]
  obtain ⟨cl6, Ar6, qk6, Sz6, qz6, Ha6, Gf6⟩ := id VP1
  obtain ⟨T6, h6, X6, e6, W6, st6⟩ := stI X4 hx hZ e4 Ar6 (inb_of Sz6 (own_in (hI.1 _ i4_0))) (g := (mkF m 21 #[rv a, iv (0 : Int32)] [(.int (-1 : Int32)), (.int (I (0 : Int32))), (.ref aP)])) rfl rfl (hb hby dp23_15_21)
  have N6 := Fr.snoc X6 N0 lP
  have V6 : Arv Z h6 aP kP .int (4 : Int32) (lst (upd P (I (0 : Int32)) (-1 : Int32))) (.int (0 : Int32)) := setI Ar6 qk6 Sz6 qz6 Ha6 Gf6 W6 (hI.1 _ i4_0)
  refine Goes.st st6 ?_
  have KK7 := K0.wr W6 (Or.inl (List.mem_of_getElem? (i := 3) rfl))
  have Z6 : n0 ≤ h6.size := by have := W6.size; have := Z0; omega
  show Gs p e below s _ _ _ T6 m 22 #[rv a, iv (0 : Int32)] []
  refine Goes.st (fun tg kg => XS.iinc X6.here hx rfl (hb hby dp23_15_22) rfl (l' := #[rv a, iv (1 : Int32)]) rfl kg) ?_
  show Gs p e below s _ _ _ T6 m 25 #[rv a, iv (1 : Int32)] []
  refine ggoto X6 hx (pc' := 2) (hb hby dp23_15_25) (by decide) (by decide) ?_
  show Gs p e below s _ _ _ T6 m 2 #[rv a, iv (1 : Int32)] []
  refine giloadN X6 hx (hb hby dp23_15_2) rfl ?_
  refine galoadN X6 hx (hb hby dp23_15_3) rfl rfl ?_
  have f9 := (FS1.other W6 (Or.inl naP))
  obtain ⟨T8, X8, e8, st8⟩ := getF X6 hx hZ hown (host := "") (Or.inl (hwk hw 29 rfl)) Via.refl e6 f9 (g := (mkF m 4 #[rv a, iv (1 : Int32)] [(.ref a), (.int (1 : Int32))])) rfl rfl (hb hby dp23_15_4)
  refine Goes.st st8 ?_
  show Gs p e below s _ _ _ T8 m 7 #[rv a, iv (1 : Int32)] [(.int (4 : Int32)), (.int (1 : Int32))]
  refine gicmpNo X8 hx (hb hby dp23_15_7) (by decide) ?_
  show Gs p e below s _ _ _ T8 m 10 #[rv a, iv (1 : Int32)] []
  refine galoadN X8 hx (hb hby dp23_15_10) rfl rfl ?_
  have f11 := (FP1.other W6 (Or.inl naP))
  obtain ⟨T10, X10, e10, st10⟩ := getF X8 hx hZ hown (host := "") (Or.inl (hwk hw 17 rfl)) Via.refl e8 f11 (g := (mkF m 11 #[rv a, iv (1 : Int32)] [(.ref a)])) rfl rfl (hb hby dp23_15_11)
  refine Goes.st st10 ?_
  refine galoadN X10 hx (hb hby dp23_15_14) rfl rfl ?_
  have f13 := (FI1.other W6 (Or.inl naP))
  obtain ⟨T12, X12, e12, st12⟩ := getF X10 hx hZ hown (host := "") (Or.inl (hwk hw 12 rfl)) Via.refl e10 f13 (g := (mkF m 15 #[rv a, iv (1 : Int32)] [(.ref a), (.ref aP)])) rfl rfl (hb hby dp23_15_15)
  refine Goes.st st12 ?_
  refine giloadN X12 hx (hb hby dp23_15_18) rfl ?_
  show Gs p e below s _ _ _ T12 m 19 #[rv a, iv (1 : Int32)] [(.int (1 : Int32)), (.ref aI), (.ref aP)]
  have f14 := (VI1.other W6 nIP)
  obtain ⟨cl15, Ar15, qk15, Sz15, qz15, Ha15, Gf15⟩ := id f14
  have in15 := inb_of (j := (1 : Int32)) Sz15 ⟨by decide, by decide⟩
  refine Goes.st (fun tg kg => X12.iaload hx (j := (1 : Int32)) (v := (.int (I (1 : Int32)))) (by rw [e12]; exact Ar15.1) (State.isArrayOf_alike hZ.alike Ar15.2.1) Ar15.2.2 in15 (Ha15.at in15 (get_lst i4_1)) (g := (mkF m 19 #[rv a, iv (1 : Int32)] [(.int (1 : Int32)), (.ref aI), (.ref aP)])) rfl rfl (hb hby dp23_15_19) tg kg) ?_
  refine giconst X12 hx (hb hby dp23_15_20) ?_
  show Gs p e below s _ _ _ T12 m 21 #[rv a, iv (1 : Int32)] [(.int (-1 : Int32)), (.int (I (1 : Int32))), (.ref aP)]
  obtain ⟨cl16, Ar16, qk16, Sz16, qz16, Ha16, Gf16⟩ := id V6
  obtain ⟨T16, h16, X16, e16, W16, st16⟩ := stI X12 hx hZ e12 Ar16 (inb_of Sz16 (own_in (hI.1 _ i4_1))) (g := (mkF m 21 #[rv a, iv (1 : Int32)] [(.int (-1 : Int32)), (.int (I (1 : Int32))), (.ref aP)])) rfl rfl (hb hby dp23_15_21)
  have N16 := Fr.snoc X16 N6 lP
  have V16 : Arv Z h16 aP kP .int (4 : Int32) (lst (upd (upd P (I (0 : Int32)) (-1 : Int32)) (I (1 : Int32)) (-1 : Int32))) (.int (0 : Int32)) := setI Ar16 qk16 Sz16 qz16 Ha16 Gf16 W16 (hI.1 _ i4_1)
  refine Goes.st st16 ?_
  have KK17 := KK7.wr W16 (Or.inl (List.mem_of_getElem? (i := 3) rfl))
  have Z16 : n0 ≤ h16.size := by have := W16.size; have := Z6; omega
  show Gs p e below s _ _ _ T16 m 22 #[rv a, iv (1 : Int32)] []
  refine Goes.st (fun tg kg => XS.iinc X16.here hx rfl (hb hby dp23_15_22) rfl (l' := #[rv a, iv (2 : Int32)]) rfl kg) ?_
  show Gs p e below s _ _ _ T16 m 25 #[rv a, iv (2 : Int32)] []
  refine ggoto X16 hx (pc' := 2) (hb hby dp23_15_25) (by decide) (by decide) ?_
  show Gs p e below s _ _ _ T16 m 2 #[rv a, iv (2 : Int32)] []
  refine giloadN X16 hx (hb hby dp23_15_2) rfl ?_
  refine galoadN X16 hx (hb hby dp23_15_3) rfl rfl ?_
  have f19 := (f9.other W16 (Or.inl naP))
  obtain ⟨T18, X18, e18, st18⟩ := getF X16 hx hZ hown (host := "") (Or.inl (hwk hw 29 rfl)) Via.refl e16 f19 (g := (mkF m 4 #[rv a, iv (2 : Int32)] [(.ref a), (.int (2 : Int32))])) rfl rfl (hb hby dp23_15_4)
  refine Goes.st st18 ?_
  show Gs p e below s _ _ _ T18 m 7 #[rv a, iv (2 : Int32)] [(.int (4 : Int32)), (.int (2 : Int32))]
  refine gicmpNo X18 hx (hb hby dp23_15_7) (by decide) ?_
  show Gs p e below s _ _ _ T18 m 10 #[rv a, iv (2 : Int32)] []
  refine galoadN X18 hx (hb hby dp23_15_10) rfl rfl ?_
  have f21 := (f11.other W16 (Or.inl naP))
  obtain ⟨T20, X20, e20, st20⟩ := getF X18 hx hZ hown (host := "") (Or.inl (hwk hw 17 rfl)) Via.refl e18 f21 (g := (mkF m 11 #[rv a, iv (2 : Int32)] [(.ref a)])) rfl rfl (hb hby dp23_15_11)
  refine Goes.st st20 ?_
  refine galoadN X20 hx (hb hby dp23_15_14) rfl rfl ?_
  have f23 := (f13.other W16 (Or.inl naP))
  obtain ⟨T22, X22, e22, st22⟩ := getF X20 hx hZ hown (host := "") (Or.inl (hwk hw 12 rfl)) Via.refl e20 f23 (g := (mkF m 15 #[rv a, iv (2 : Int32)] [(.ref a), (.ref aP)])) rfl rfl (hb hby dp23_15_15)
  refine Goes.st st22 ?_
  refine giloadN X22 hx (hb hby dp23_15_18) rfl ?_
  show Gs p e below s _ _ _ T22 m 19 #[rv a, iv (2 : Int32)] [(.int (2 : Int32)), (.ref aI), (.ref aP)]
  have f24 := (f14.other W16 nIP)
  obtain ⟨cl25, Ar25, qk25, Sz25, qz25, Ha25, Gf25⟩ := id f24
  have in25 := inb_of (j := (2 : Int32)) Sz25 ⟨by decide, by decide⟩
  refine Goes.st (fun tg kg => X22.iaload hx (j := (2 : Int32)) (v := (.int (I (2 : Int32)))) (by rw [e22]; exact Ar25.1) (State.isArrayOf_alike hZ.alike Ar25.2.1) Ar25.2.2 in25 (Ha25.at in25 (get_lst i4_2)) (g := (mkF m 19 #[rv a, iv (2 : Int32)] [(.int (2 : Int32)), (.ref aI), (.ref aP)])) rfl rfl (hb hby dp23_15_19) tg kg) ?_
  refine giconst X22 hx (hb hby dp23_15_20) ?_
  show Gs p e below s _ _ _ T22 m 21 #[rv a, iv (2 : Int32)] [(.int (-1 : Int32)), (.int (I (2 : Int32))), (.ref aP)]
  obtain ⟨cl26, Ar26, qk26, Sz26, qz26, Ha26, Gf26⟩ := id V16
  obtain ⟨T26, h26, X26, e26, W26, st26⟩ := stI X22 hx hZ e22 Ar26 (inb_of Sz26 (own_in (hI.1 _ i4_2))) (g := (mkF m 21 #[rv a, iv (2 : Int32)] [(.int (-1 : Int32)), (.int (I (2 : Int32))), (.ref aP)])) rfl rfl (hb hby dp23_15_21)
  have N26 := Fr.snoc X26 N16 lP
  have V26 : Arv Z h26 aP kP .int (4 : Int32) (lst (upd (upd (upd P (I (0 : Int32)) (-1 : Int32)) (I (1 : Int32)) (-1 : Int32)) (I (2 : Int32)) (-1 : Int32))) (.int (0 : Int32)) := setI Ar26 qk26 Sz26 qz26 Ha26 Gf26 W26 (hI.1 _ i4_2)
  refine Goes.st st26 ?_
  have KK27 := KK17.wr W26 (Or.inl (List.mem_of_getElem? (i := 3) rfl))
  have Z26 : n0 ≤ h26.size := by have := W26.size; have := Z16; omega
  show Gs p e below s _ _ _ T26 m 22 #[rv a, iv (2 : Int32)] []
  refine Goes.st (fun tg kg => XS.iinc X26.here hx rfl (hb hby dp23_15_22) rfl (l' := #[rv a, iv (3 : Int32)]) rfl kg) ?_
  show Gs p e below s _ _ _ T26 m 25 #[rv a, iv (3 : Int32)] []
  refine ggoto X26 hx (pc' := 2) (hb hby dp23_15_25) (by decide) (by decide) ?_
  show Gs p e below s _ _ _ T26 m 2 #[rv a, iv (3 : Int32)] []
  refine giloadN X26 hx (hb hby dp23_15_2) rfl ?_
  refine galoadN X26 hx (hb hby dp23_15_3) rfl rfl ?_
  have f29 := (f19.other W26 (Or.inl naP))
  obtain ⟨T28, X28, e28, st28⟩ := getF X26 hx hZ hown (host := "") (Or.inl (hwk hw 29 rfl)) Via.refl e26 f29 (g := (mkF m 4 #[rv a, iv (3 : Int32)] [(.ref a), (.int (3 : Int32))])) rfl rfl (hb hby dp23_15_4)
  refine Goes.st st28 ?_
  show Gs p e below s _ _ _ T28 m 7 #[rv a, iv (3 : Int32)] [(.int (4 : Int32)), (.int (3 : Int32))]
  refine gicmpNo X28 hx (hb hby dp23_15_7) (by decide) ?_
  show Gs p e below s _ _ _ T28 m 10 #[rv a, iv (3 : Int32)] []
  refine galoadN X28 hx (hb hby dp23_15_10) rfl rfl ?_
  have f31 := (f21.other W26 (Or.inl naP))
  obtain ⟨T30, X30, e30, st30⟩ := getF X28 hx hZ hown (host := "") (Or.inl (hwk hw 17 rfl)) Via.refl e28 f31 (g := (mkF m 11 #[rv a, iv (3 : Int32)] [(.ref a)])) rfl rfl (hb hby dp23_15_11)
  refine Goes.st st30 ?_
  refine galoadN X30 hx (hb hby dp23_15_14) rfl rfl ?_
  have f33 := (f23.other W26 (Or.inl naP))
  obtain ⟨T32, X32, e32, st32⟩ := getF X30 hx hZ hown (host := "") (Or.inl (hwk hw 12 rfl)) Via.refl e30 f33 (g := (mkF m 15 #[rv a, iv (3 : Int32)] [(.ref a), (.ref aP)])) rfl rfl (hb hby dp23_15_15)
  refine Goes.st st32 ?_
  refine giloadN X32 hx (hb hby dp23_15_18) rfl ?_
  show Gs p e below s _ _ _ T32 m 19 #[rv a, iv (3 : Int32)] [(.int (3 : Int32)), (.ref aI), (.ref aP)]
  have f34 := (f24.other W26 nIP)
  obtain ⟨cl35, Ar35, qk35, Sz35, qz35, Ha35, Gf35⟩ := id f34
  have in35 := inb_of (j := (3 : Int32)) Sz35 ⟨by decide, by decide⟩
  refine Goes.st (fun tg kg => X32.iaload hx (j := (3 : Int32)) (v := (.int (I (3 : Int32)))) (by rw [e32]; exact Ar35.1) (State.isArrayOf_alike hZ.alike Ar35.2.1) Ar35.2.2 in35 (Ha35.at in35 (get_lst i4_3)) (g := (mkF m 19 #[rv a, iv (3 : Int32)] [(.int (3 : Int32)), (.ref aI), (.ref aP)])) rfl rfl (hb hby dp23_15_19) tg kg) ?_
  refine giconst X32 hx (hb hby dp23_15_20) ?_
  show Gs p e below s _ _ _ T32 m 21 #[rv a, iv (3 : Int32)] [(.int (-1 : Int32)), (.int (I (3 : Int32))), (.ref aP)]
  obtain ⟨cl36, Ar36, qk36, Sz36, qz36, Ha36, Gf36⟩ := id V26
  obtain ⟨T36, h36, X36, e36, W36, st36⟩ := stI X32 hx hZ e32 Ar36 (inb_of Sz36 (own_in (hI.1 _ i4_3))) (g := (mkF m 21 #[rv a, iv (3 : Int32)] [(.int (-1 : Int32)), (.int (I (3 : Int32))), (.ref aP)])) rfl rfl (hb hby dp23_15_21)
  have N36 := Fr.snoc X36 N26 lP
  have V36 : Arv Z h36 aP kP .int (4 : Int32) (lst (upd (upd (upd (upd P (I (0 : Int32)) (-1 : Int32)) (I (1 : Int32)) (-1 : Int32)) (I (2 : Int32)) (-1 : Int32)) (I (3 : Int32)) (-1 : Int32))) (.int (0 : Int32)) := setI Ar36 qk36 Sz36 qz36 Ha36 Gf36 W36 (hI.1 _ i4_3)
  refine Goes.st st36 ?_
  have KK37 := KK27.wr W36 (Or.inl (List.mem_of_getElem? (i := 3) rfl))
  have Z36 : n0 ≤ h36.size := by have := W36.size; have := Z26; omega
  show Gs p e below s _ _ _ T36 m 22 #[rv a, iv (3 : Int32)] []
  refine Goes.st (fun tg kg => XS.iinc X36.here hx rfl (hb hby dp23_15_22) rfl (l' := #[rv a, iv (4 : Int32)]) rfl kg) ?_
  show Gs p e below s _ _ _ T36 m 25 #[rv a, iv (4 : Int32)] []
  refine ggoto X36 hx (pc' := 2) (hb hby dp23_15_25) (by decide) (by decide) ?_
  show Gs p e below s _ _ _ T36 m 2 #[rv a, iv (4 : Int32)] []
  refine giloadN X36 hx (hb hby dp23_15_2) rfl ?_
  refine galoadN X36 hx (hb hby dp23_15_3) rfl rfl ?_
  have f39 := (f29.other W36 (Or.inl naP))
  obtain ⟨T38, X38, e38, st38⟩ := getF X36 hx hZ hown (host := "") (Or.inl (hwk hw 29 rfl)) Via.refl e36 f39 (g := (mkF m 4 #[rv a, iv (4 : Int32)] [(.ref a), (.int (4 : Int32))])) rfl rfl (hb hby dp23_15_4)
  refine Goes.st st38 ?_
  show Gs p e below s _ _ _ T38 m 7 #[rv a, iv (4 : Int32)] [(.int (4 : Int32)), (.int (4 : Int32))]
  refine gicmpYes X38 hx (pc' := 28) (hb hby dp23_15_7) (by decide) (by decide) (by decide) ?_
  show Gs p e below s _ _ _ T38 m 28 #[rv a, iv (4 : Int32)] []
  refine galoadN X38 hx (hb hby dp23_15_28) rfl rfl ?_
  refine giconst X38 hx (hb hby dp23_15_29) ?_
  have f41 := ((((E1.wr W6).wr W16).wr W26).wr W36)
  obtain ⟨T40, h40, X40, e40, W40, st40⟩ := putF X38 hx hZ hown (host := "") (Or.inl (hwk hw 29 rfl)) Via.refl e38 f39 f41 (Or.inl (hwk hw 30 rfl)) (hwk hw 1 rfl) (ty := .int) (by decide) rfl rfl (g := (mkF m 30 #[rv a, iv (4 : Int32)] [(.int (0 : Int32)), (.ref a)])) rfl rfl (hb hby dp23_15_30)
  have N40 := Fr.snoc X40 N36 la
  have G40 := f39.same W40
  refine Goes.st st40 ?_
  have KK42 := KK37.wr W40 (Or.inl (List.mem_of_getElem? (i := 0) rfl))
  have Z40 : n0 ≤ h40.size := by have := W40.size; have := Z36; omega
  show Gs p e below s _ _ _ T40 m 33 #[rv a, iv (4 : Int32)] []
  refine galoadN X40 hx (hb hby dp23_15_33) rfl rfl ?_
  refine giconst X40 hx (hb hby dp23_15_34) ?_
  have f44 := (((((FO1.other W6 (Or.inl naP)).other W16 (Or.inl naP)).other W26 (Or.inl naP)).other W36 (Or.inl naP)).other W40 (Or.inr (slot_ne (Or.inl (hwk hw 10 rfl)) (Or.inl (hwk hw 30 rfl)) (by decide) (t := .boolean) (t' := .int) (by decide) (by decide))))
  have f45 := (f41.wr W40)
  obtain ⟨T43, h43, X43, e43, W43, st43⟩ := putFN X40 hx hZ hown (hwk hw 9 rfl) Via.refl e40 f44 f45 (Or.inl (hwk hw 10 rfl)) (hwk hw 1 rfl) (ty := .boolean) (v' := (.int (1 : Int32))) (by decide) rfl (by decide) (g := (mkF m 35 #[rv a, iv (4 : Int32)] [(.int (1 : Int32)), (.ref a)])) rfl rfl (hb hby dp23_15_35)
  have N43 := Fr.snoc X43 N40 la
  have G43 := f44.same W43
  refine Goes.st st43 ?_
  have KK46 := KK42.wr W43 (Or.inl (List.mem_of_getElem? (i := 0) rfl))
  have Z43 : n0 ≤ h43.size := by have := W43.size; have := Z40; omega
  show Gs p e below s _ _ _ T43 m 38 #[rv a, iv (4 : Int32)] []
  have f47 := ((V36.other W40 (Ne.symm naP)).other W43 (Ne.symm naP))
  have hc48 : ∀ i, In4 i → (upd (upd (upd (upd P (I (0 : Int32)) (-1 : Int32)) (I (1 : Int32)) (-1 : Int32)) (I (2 : Int32)) (-1 : Int32)) (I (3 : Int32)) (-1 : Int32)) i = (fun _ => (-1 : Int32)) i := by
    intro i hi
    rcases hI.2.2 i hi with u | ⟨j, u1, u2, rfl⟩
    · exact clr (clr (clr (clr (u))))
    · rcases u1 with rfl | rfl | rfl | rfl
      · exact clr (clr (clr (upd_hit)))
      · exact clr (clr (upd_hit))
      · exact clr (upd_hit)
      · exact upd_hit
  have VC48 : Arv Z h43 aP kP .int (4 : Int32) (lst (fun _ => -1)) (.int (0 : Int32)) := by rw [← lst_congr hc48]; exact f47
  have f49 := (f45.wr W43)
  have f50 := (((f33.other W36 (Or.inl naP)).other W40 (Or.inr (slot_ne (Or.inr (hwk hw 13 rfl)) (Or.inl (hwk hw 30 rfl)) (by decide) (t := (.array .int)) (t' := .int) (by decide) (by decide)))).other W43 (Or.inr (slot_ne (Or.inr (hwk hw 13 rfl)) (Or.inl (hwk hw 10 rfl)) (by decide) (t := (.array .int)) (t' := .boolean) (by decide) (by decide))))
  have f51 := ((((((FT1.other W6 (Or.inl naP)).other W16 (Or.inl naP)).other W26 (Or.inl naP)).other W36 (Or.inl naP)).other W40 (Or.inr (slot_ne (Or.inr (hwk hw 16 rfl)) (Or.inl (hwk hw 30 rfl)) (by decide) (t := (.array .double)) (t' := .int) (by decide) (by decide)))).other W43 (Or.inr (slot_ne (Or.inr (hwk hw 16 rfl)) (Or.inl (hwk hw 10 rfl)) (by decide) (t := (.array .double)) (t' := .boolean) (by decide) (by decide))))
  have f52 := (((f31.other W36 (Or.inl naP)).other W40 (Or.inr (slot_ne (Or.inr (hwk hw 18 rfl)) (Or.inl (hwk hw 30 rfl)) (by decide) (t := (.array .int)) (t' := .int) (by decide) (by decide)))).other W43 (Or.inr (slot_ne (Or.inr (hwk hw 18 rfl)) (Or.inl (hwk hw 10 rfl)) (by decide) (t := (.array .int)) (t' := .boolean) (by decide) (by decide))))
  have f53 := (G40.other W43 (Or.inr (slot_ne (Or.inl (hwk hw 30 rfl)) (Or.inl (hwk hw 10 rfl)) (by decide) (t := .int) (t' := .boolean) (by decide) (by decide))))
  have f54 := (((f34.other W36 nIP).other W40 (Ne.symm naI)).other W43 (Ne.symm naI))
  have f55 := ((((((VT1.other W6 nTP).other W16 nTP).other W26 nTP).other W36 nTP).other W40 (Ne.symm naT)).other W43 (Ne.symm naT))
  have HR56 : HR Z h43 a aI aT aP kI kT kP I D (fun _ => -1) (0 : Int32) (1 : Int32) := ⟨f49, f50, f51, f52, f53, G43, f54, f55, VC48⟩
  refine Goes.retV X43 hx hlk hret (hb hby dp23_15_38) ?_ (by decide) (by decide)
  rw [e43]
  exact ⟨rfl, N43, KK46, HR56⟩
theorem dp23_2_0 : decode prog_23_method_2_code 0 = .ok (.aload_n 0, 1) := by decide +kernel
theorem dp23_2_1 : decode prog_23_method_2_code 1 = .ok (.getfield 30, 3) := by decide +kernel
theorem dp23_2_4 : decode prog_23_method_2_code 4 = .ok (.ireturn, 1) := by decide +kernel
theorem ef_Sz (m : MethodId) (x0 : Addr) : entryFrame m #[(.ref x0)] 1 = mkF m 0 #[rv x0] [] := by first | (simp [entryFrame, mkF, argsToLocals, Value.category]; done) | rfl
def QSz (Z : State) (a : Addr) (n : Int32) (h0 : Heap) (n0 : Nat) (v : Option Value) (h : Heap) (L : List Loc) : Prop := v = some (.int n) ∧ Fr n0 L ∧ h = h0
set_option maxRecDepth 65536 in
set_option maxHeartbeats 40000000 in
theorem rmSz (l : Launch) (Z : State) (a0 : Array Value) (hw : ∀ d ∈ tables_1, d.before a0 Z = true) (ws : List Jvm.Cond) (a : Addr) (n : Int32) (h0 : Heap) (n0 : Nat) (Z0 : n0 ≤ h0.size) (FS : Fld Z h0 a "com/example/redoubt/redoubt/engine/IndexHeap" "size" "I" (.int n)) :
    MetFree l mN17 (head1 (Jvm.Cond.code mN17 prog_23_method_2_code 1 (some .int) :: ws) ({ frames := 0, cells := 0, slots := 0, locals := 0 } : Room)) (fun aa U => aa = #[(.ref a)] ∧ Z.Warmed39 U.vm ∧ U.heap = h0) (fun _ _ _ _ _ => True) (fun _ u1_ o_ u2_ => ∃ v_ l_, o_ = .returned v_ ∧ QSz Z a n h0 n0 v_ u2_.heap l_ ∧ FrameEnd u1_ o_ u2_ l_ ({ frames := 0, cells := 0, slots := 0, locals := 0 } : Room).cells ({ frames := 0, cells := 0, slots := 0, locals := 0 } : Room).slots) := by
  refine MetFree.of_bodySF (plainFor_of_name pn_com_example_redoubt_redoubt_engine_IndexHeap) hisR ?_
  intro p e s m args below meth c s₁ Bd hml0 hP hK
  obtain ⟨rfl, hZ, hh⟩ := hP
  have hx := Bd.exec
  have hby := Bd.bytes
  have hlk := BodyLoose.notSynchronized Bd
  have hret := Bd.returns
  have hml : c.maxLocals = 1 := hml0
  have hown : s.vm.findClass "com/example/redoubt/redoubt/engine/IndexHeap" = some m.cls := findClass_of_methodNamed Bd.named
  have hnm := (name_of_methodNamed Bd.named Bd.method).1
  have X0 : Stand p l e ({ frames := 0, cells := 0, slots := 0, locals := 0 } : Room) s m #[(.ref a)] below meth c s₁ [] 0 0 := Stand.of_body Bd
  have e0 : s₁.heap = h0 := by rw [← hh, Bd.state]; rfl
  have N0 := Fr.nil n0
  refine Goes.st (s := s) (Q := QSz Z a n h0 n0) (cs := ({ frames := 0, cells := 0, slots := 0, locals := 0 } : Room).cells) (ss := ({ frames := 0, cells := 0, slots := 0, locals := 0 } : Room).slots) (fun tg kg => castTop (ef_Sz m a) kg) ?_
  show Gs p e below s _ _ _ s₁ m 0 #[rv a] []
  refine galoadN X0 hx (hb hby dp23_2_0) rfl rfl ?_
  obtain ⟨T1, X1, e1, st1⟩ := getF X0 hx hZ hown (host := "") (Or.inl (hwk hw 29 rfl)) Via.refl e0 FS (g := (mkF m 1 #[rv a] [(.ref a)])) rfl rfl (hb hby dp23_2_1)
  refine Goes.st st1 ?_
  show Gs p e below s _ _ _ T1 m 4 #[rv a] [(.int n)]
  refine Goes.retI X1 hx hlk hret (hb hby dp23_2_4) ?_ (by decide) (by decide)
  rw [e1]
  exact ⟨rfl, N0, rfl⟩
theorem dp23_4_0 : decode prog_23_method_4_code 0 = .ok (.aload_n 0, 1) := by decide +kernel
theorem dp23_4_1 : decode prog_23_method_4_code 1 = .ok (.getfield 21, 3) := by decide +kernel
theorem dp23_4_4 : decode prog_23_method_4_code 4 = .ok (.iload_n 1, 1) := by decide +kernel
theorem dp23_4_5 : decode prog_23_method_4_code 5 = .ok (.iaload, 1) := by decide +kernel
theorem dp23_4_6 : decode prog_23_method_4_code 6 = .ok (.ifCond .lt 7, 3) := by decide +kernel
theorem dp23_4_9 : decode prog_23_method_4_code 9 = .ok (.iconst 1, 1) := by decide +kernel
theorem dp23_4_10 : decode prog_23_method_4_code 10 = .ok (.goto 4, 3) := by decide +kernel
theorem dp23_4_13 : decode prog_23_method_4_code 13 = .ok (.iconst 0, 1) := by decide +kernel
theorem dp23_4_14 : decode prog_23_method_4_code 14 = .ok (.ireturn, 1) := by decide +kernel
theorem ef_Co (m : MethodId) (x0 : Addr) (x1 : Int32) : entryFrame m #[(.ref x0), (.int x1)] 2 = mkF m 0 #[rv x0, iv x1] [] := by first | (simp [entryFrame, mkF, argsToLocals, Value.category]; done) | rfl
def QCo (Z : State) (a : Addr) (x : Int32) (aP : Addr) (kP : ClassId) (P : Int32 → Int32) (h0 : Heap) (n0 : Nat) (v : Option Value) (h : Heap) (L : List Loc) : Prop := v = some (.int 0) ∧ Fr n0 L ∧ h = h0
set_option maxRecDepth 65536 in
set_option maxHeartbeats 40000000 in
theorem rmCo (l : Launch) (Z : State) (a0 : Array Value) (hw : ∀ d ∈ tables_1, d.before a0 Z = true) (ws : List Jvm.Cond) (a : Addr) (x : Int32) (aP : Addr) (kP : ClassId) (P : Int32 → Int32) (h0 : Heap) (n0 : Nat) (Z0 : n0 ≤ h0.size) (FP : Fld Z h0 a "com/example/redoubt/redoubt/engine/IndexHeap" "positions" "[I" (.ref aP)) (VP : Arv Z h0 aP kP .int (4 : Int32) (lst P) (.int (0 : Int32))) (hx4 : In4 x) (hp : P x = -1) :
    MetFree l mN18 (head1 (Jvm.Cond.code mN18 prog_23_method_4_code 2 (some .boolean) :: ws) ({ frames := 0, cells := 0, slots := 0, locals := 0 } : Room)) (fun aa U => aa = #[(.ref a), (.int x)] ∧ Z.Warmed39 U.vm ∧ U.heap = h0) (fun _ _ _ _ _ => True) (fun _ u1_ o_ u2_ => ∃ v_ l_, o_ = .returned v_ ∧ QCo Z a x aP kP P h0 n0 v_ u2_.heap l_ ∧ FrameEnd u1_ o_ u2_ l_ ({ frames := 0, cells := 0, slots := 0, locals := 0 } : Room).cells ({ frames := 0, cells := 0, slots := 0, locals := 0 } : Room).slots) := by
  refine MetFree.of_bodySF (plainFor_of_name pn_com_example_redoubt_redoubt_engine_IndexHeap) hisR ?_
  intro p e s m args below meth c s₁ Bd hml0 hP hK
  obtain ⟨rfl, hZ, hh⟩ := hP
  have hx := Bd.exec
  have hby := Bd.bytes
  have hlk := BodyLoose.notSynchronized Bd
  have hret := Bd.returns
  have hml : c.maxLocals = 2 := hml0
  have hown : s.vm.findClass "com/example/redoubt/redoubt/engine/IndexHeap" = some m.cls := findClass_of_methodNamed Bd.named
  have hnm := (name_of_methodNamed Bd.named Bd.method).1
  have X0 : Stand p l e ({ frames := 0, cells := 0, slots := 0, locals := 0 } : Room) s m #[(.ref a), (.int x)] below meth c s₁ [] 0 0 := Stand.of_body Bd
  have e0 : s₁.heap = h0 := by rw [← hh, Bd.state]; rfl
  have N0 := Fr.nil n0
  refine Goes.st (s := s) (Q := QCo Z a x aP kP P h0 n0) (cs := ({ frames := 0, cells := 0, slots := 0, locals := 0 } : Room).cells) (ss := ({ frames := 0, cells := 0, slots := 0, locals := 0 } : Room).slots) (fun tg kg => castTop (ef_Co m a x) kg) ?_
  show Gs p e below s _ _ _ s₁ m 0 #[rv a, iv x] []
  refine galoadN X0 hx (hb hby dp23_4_0) rfl rfl ?_
  obtain ⟨T1, X1, e1, st1⟩ := getF X0 hx hZ hown (host := "") (Or.inl (hwk hw 17 rfl)) Via.refl e0 FP (g := (mkF m 1 #[rv a, iv x] [(.ref a)])) rfl rfl (hb hby dp23_4_1)
  refine Goes.st st1 ?_
  refine giloadN X1 hx (hb hby dp23_4_4) rfl ?_
  show Gs p e below s _ _ _ T1 m 5 #[rv a, iv x] [(.int x), (.ref aP)]
  obtain ⟨cl2, Ar2, qk2, Sz2, qz2, Ha2, Gf2⟩ := id VP
  have in2 := inb_of (j := x) Sz2 (own_in hx4)
  refine Goes.st (fun tg kg => X1.iaload hx (j := x) (v := (.int (P x))) (by rw [e1]; exact Ar2.1) (State.isArrayOf_alike hZ.alike Ar2.2.1) Ar2.2.2 in2 (Ha2.at in2 (get_lst hx4)) (g := (mkF m 5 #[rv a, iv x] [(.int x), (.ref aP)])) rfl rfl (hb hby dp23_4_5) tg kg) ?_
  show Gs p e below s _ _ _ T1 m 6 #[rv a, iv x] [(.int (P x))]
  refine gifYes X1 hx (pc' := 13) (hb hby dp23_4_6) ((if0 _ _).trans (tlt (by rw [hp]; decide)).1) (by decide) (by decide) ?_
  show Gs p e below s _ _ _ T1 m 13 #[rv a, iv x] []
  refine giconst X1 hx (hb hby dp23_4_13) ?_
  show Gs p e below s _ _ _ T1 m 14 #[rv a, iv x] [(.int (0 : Int32))]
  refine Goes.retN X1 hx hlk hret (by simp) (hb hby dp23_4_14) (by decide) ?_ (by decide) (by decide)
  rw [e1]
  exact ⟨rfl, N0, rfl⟩
theorem dp23_6_0 : decode prog_23_method_6_code 0 = .ok (.aload_n 0, 1) := by decide +kernel
theorem dp23_6_1 : decode prog_23_method_6_code 1 = .ok (.getfield 13, 3) := by decide +kernel
theorem dp23_6_4 : decode prog_23_method_6_code 4 = .ok (.iload_n 1, 1) := by decide +kernel
theorem dp23_6_5 : decode prog_23_method_6_code 5 = .ok (.iaload, 1) := by decide +kernel
theorem dp23_6_6 : decode prog_23_method_6_code 6 = .ok (.ireturn, 1) := by decide +kernel
theorem ef_Ia (m : MethodId) (x0 : Addr) (x1 : Int32) : entryFrame m #[(.ref x0), (.int x1)] 2 = mkF m 0 #[rv x0, iv x1] [] := by first | (simp [entryFrame, mkF, argsToLocals, Value.category]; done) | rfl
def QIa (Z : State) (a aI : Addr) (kI : ClassId) (I : Int32 → Int32) (h0 : Heap) (n0 : Nat) (v : Option Value) (h : Heap) (L : List Loc) : Prop := v = some (.int (I 0)) ∧ Fr n0 L ∧ h = h0
set_option maxRecDepth 65536 in
set_option maxHeartbeats 40000000 in
theorem rmIa (l : Launch) (Z : State) (a0 : Array Value) (hw : ∀ d ∈ tables_1, d.before a0 Z = true) (ws : List Jvm.Cond) (a aI : Addr) (kI : ClassId) (I : Int32 → Int32) (h0 : Heap) (n0 : Nat) (Z0 : n0 ≤ h0.size) (FI : Fld Z h0 a "com/example/redoubt/redoubt/engine/IndexHeap" "indices" "[I" (.ref aI)) (VI : Arv Z h0 aI kI .int (4 : Int32) (lst I) (.int (0 : Int32))) :
    MetFree l mN19 (head1 (Jvm.Cond.code mN19 prog_23_method_6_code 2 (some .int) :: ws) ({ frames := 0, cells := 0, slots := 0, locals := 0 } : Room)) (fun aa U => aa = #[(.ref a), (.int (0 : Int32))] ∧ Z.Warmed39 U.vm ∧ U.heap = h0) (fun _ _ _ _ _ => True) (fun _ u1_ o_ u2_ => ∃ v_ l_, o_ = .returned v_ ∧ QIa Z a aI kI I h0 n0 v_ u2_.heap l_ ∧ FrameEnd u1_ o_ u2_ l_ ({ frames := 0, cells := 0, slots := 0, locals := 0 } : Room).cells ({ frames := 0, cells := 0, slots := 0, locals := 0 } : Room).slots) := by
  refine MetFree.of_bodySF (plainFor_of_name pn_com_example_redoubt_redoubt_engine_IndexHeap) hisR ?_
  intro p e s m args below meth c s₁ Bd hml0 hP hK
  obtain ⟨rfl, hZ, hh⟩ := hP
  have hx := Bd.exec
  have hby := Bd.bytes
  have hlk := BodyLoose.notSynchronized Bd
  have hret := Bd.returns
  have hml : c.maxLocals = 2 := hml0
  have hown : s.vm.findClass "com/example/redoubt/redoubt/engine/IndexHeap" = some m.cls := findClass_of_methodNamed Bd.named
  have hnm := (name_of_methodNamed Bd.named Bd.method).1
  have X0 : Stand p l e ({ frames := 0, cells := 0, slots := 0, locals := 0 } : Room) s m #[(.ref a), (.int (0 : Int32))] below meth c s₁ [] 0 0 := Stand.of_body Bd
  have e0 : s₁.heap = h0 := by rw [← hh, Bd.state]; rfl
  have N0 := Fr.nil n0
  refine Goes.st (s := s) (Q := QIa Z a aI kI I h0 n0) (cs := ({ frames := 0, cells := 0, slots := 0, locals := 0 } : Room).cells) (ss := ({ frames := 0, cells := 0, slots := 0, locals := 0 } : Room).slots) (fun tg kg => castTop (ef_Ia m a (0 : Int32)) kg) ?_
  show Gs p e below s _ _ _ s₁ m 0 #[rv a, iv (0 : Int32)] []
  refine galoadN X0 hx (hb hby dp23_6_0) rfl rfl ?_
  obtain ⟨T1, X1, e1, st1⟩ := getF X0 hx hZ hown (host := "") (Or.inl (hwk hw 12 rfl)) Via.refl e0 FI (g := (mkF m 1 #[rv a, iv (0 : Int32)] [(.ref a)])) rfl rfl (hb hby dp23_6_1)
  refine Goes.st st1 ?_
  refine giloadN X1 hx (hb hby dp23_6_4) rfl ?_
  show Gs p e below s _ _ _ T1 m 5 #[rv a, iv (0 : Int32)] [(.int (0 : Int32)), (.ref aI)]
  obtain ⟨cl2, Ar2, qk2, Sz2, qz2, Ha2, Gf2⟩ := id VI
  have in2 := inb_of (j := (0 : Int32)) Sz2 ⟨by decide, by decide⟩
  refine Goes.st (fun tg kg => X1.iaload hx (j := (0 : Int32)) (v := (.int (I (0 : Int32)))) (by rw [e1]; exact Ar2.1) (State.isArrayOf_alike hZ.alike Ar2.2.1) Ar2.2.2 in2 (Ha2.at in2 (get_lst i4_0)) (g := (mkF m 5 #[rv a, iv (0 : Int32)] [(.int (0 : Int32)), (.ref aI)])) rfl rfl (hb hby dp23_6_5) tg kg) ?_
  show Gs p e below s _ _ _ T1 m 6 #[rv a, iv (0 : Int32)] [(.int (I (0 : Int32)))]
  refine Goes.retI X1 hx hlk hret (hb hby dp23_6_6) ?_ (by decide) (by decide)
  rw [e1]
  exact ⟨rfl, N0, rfl⟩
theorem pd__I_Z_855 : parseMethodDescriptor "(I)Z" = some ⟨[.int], some .boolean⟩ := by decide +kernel
theorem pd__Lcom_example_redoubt_redoubt_engine_IndexHeap_ZID_V_601b : parseMethodDescriptor "(Lcom/example/redoubt/redoubt/engine/IndexHeap;ZID)V" = some ⟨[(.object "com/example/redoubt/redoubt/engine/IndexHeap"), .boolean, .int, .double], none⟩ := by decide +kernel
theorem pd__I_I_7ab : parseMethodDescriptor "(I)I" = some ⟨[.int], some .int⟩ := by decide +kernel
set_option maxRecDepth 65536 in
set_option maxHeartbeats 40000000 in
theorem tailS {p : Program} {l : Launch} {e : Env} {s : State} {m : MethodId} {args : Array Value} {below : List Frame} {meth : Method} {c : Code} (Z : State) (a0 : Array Value) (hw : ∀ d ∈ tables_1, d.before a0 Z = true) (hx : p.tables.exec = Jvm.exec) (hby : c.code = code) (hlk : meth.locks = false) (hret : meth.sig.returnType = some .boolean) (hml : c.maxLocals = 10) (hown : s.vm.findClass "com/example/redoubt/redoubt/engine/IndexHeapClearPinLaw" = some m.cls) (hnm : meth.name = "law") (hZ : Z.Warmed39 s.vm) {Q : Option Value → Heap → List Loc → Prop} (q0 q1 q2 q3 q4 q5 kk oo : Int32) (a aI aT aP : Addr) (kI kT kP : ClassId) (I : Int32 → Int32) (D : Int32 → UInt64) (h0 hh : Heap) (n0 : Nat) (T0 : State) (locs0 : List Loc) (X0 : Stand p l e room_1 s m args below meth c T0 locs0 4 17) (e0 : T0.heap = hh) (N0 : Fr n0 locs0) (Z0 : n0 ≤ hh.size) (hQ : ∀ h L, Fr n0 L → Q (some (.int 1)) h L) (hB : HB n0 a aI aT aP) (hR : HR Z hh a aI aT aP kI kT kP I D (fun _ => -1) (0 : Int32) (1 : Int32)) :
    Goes p e below s Q 16 128 (T0.setTop (mkF m 164 #[iv q0, iv q1, iv q2, iv q3, iv q4, iv q5, rv a, iv kk, iv oo, .unset] [])) := by
  obtain ⟨la, lI, lT, lP, naI, naT, naP, nIT, nIP, nTP⟩ := id hB
  obtain ⟨E1, FI1, FT1, FP1, FS1, FO1, VI1, VT1, VP1⟩ := id hR
  show Gs p e below s _ _ _ T0 m 164 #[iv q0, iv q1, iv q2, iv q3, iv q4, iv q5, rv a, iv kk, iv oo, .unset] []
  refine gaload X0 hx (hb hby at_164) rfl rfl ?_
  obtain ⟨cq2, kq2, qa2, qb2, qc2⟩ := isOf hZ e0 E1
  obtain ⟨_, _, ⟨T2, L2, k2, n2⟩, -, X2, ⟨Lc2, hQ2, l2, y2, z2⟩, st2⟩ := X0.virtualBack hx (y := mN17) (z := mN17) hown (mvT hZ (hwk hw 31 rfl)) (mvT hZ (hwk hw 32 rfl)) (notFace_of_selects (args := #[]) (mvT hZ (hwk hw 34 rfl))) (mvT hZ (hwk hw 34 rfl)) (mvT hZ (hwk hw 33 rfl)) (by decide) (backOf (W := 0) (rmSz l Z a0 hw [] a (0 : Int32) hh n0 Z0 FS1) hZ (hwk hw 35 rfl) (hwk hw 2 rfl) (by decide) (by decide)) qa2 qc2 (g := (mkF m 166 #[iv q0, iv q1, iv q2, iv q3, iv q4, iv q5, rv a, iv kk, iv oo, .unset] [(.ref a)])) rfl (by rw [hml]; rfl) (Steps.refl _) (argsL := []) (rest := []) (lenOf pd___I_4f1 rfl) rfl (by show 2 * 0 + _ ≤ _; exact Nat.le_of_eq rfl) (hb hby at_166) (fun _ _ => ⟨rfl, e0, (by decide : 4 + 0 ≤ 16), (by decide : 17 + 0 ≤ 128)⟩)
  dsimp only [Pt.U, Pt.locs, Pt.cells, Pt.slots] at X2 l2 y2 z2 st2 hQ2
  subst l2 y2 z2
  obtain ⟨rfl, N2q, eh2⟩ := hQ2
  have N2 := Fr.app N0 N2q
  refine Goes.sts st2 ?_
  show Gs p e below s _ _ _ T2 m 169 #[iv q0, iv q1, iv q2, iv q3, iv q4, iv q5, rv a, iv kk, iv oo, .unset] [(.int (0 : Int32))]
  refine gifNo X2 hx (hb hby at_169) (by decide) ?_
  show Gs p e below s _ _ _ T2 m 172 #[iv q0, iv q1, iv q2, iv q3, iv q4, iv q5, rv a, iv kk, iv oo, .unset] []
  refine gaload X2 hx (hb hby at_172) rfl rfl ?_
  refine giconst X2 hx (hb hby at_174) ?_
  obtain ⟨cq3, kq3, qa3, qb3, qc3⟩ := isOf hZ eh2 E1
  obtain ⟨_, _, ⟨T3, L3, k3, n3⟩, -, X3, ⟨Lc3, hQ3, l3, y3, z3⟩, st3⟩ := X2.virtualBack hx (y := mN18) (z := mN18) hown (mvT hZ (hwk hw 36 rfl)) (mvT hZ (hwk hw 37 rfl)) (notFace_of_selects (args := #[]) (mvT hZ (hwk hw 39 rfl))) (mvT hZ (hwk hw 39 rfl)) (mvT hZ (hwk hw 38 rfl)) (by decide) (backOf (W := 0) (rmCo l Z a0 hw [] a (0 : Int32) aP kP (fun _ => -1) hh n0 Z0 FP1 VP1 i4_0 rfl) hZ (hwk hw 40 rfl) (hwk hw 2 rfl) (by decide) (by decide)) qa3 qc3 (g := (mkF m 175 #[iv q0, iv q1, iv q2, iv q3, iv q4, iv q5, rv a, iv kk, iv oo, .unset] [(.int (0 : Int32)), (.ref a)])) rfl (by rw [hml]; rfl) (Steps.refl _) (argsL := [(.int (0 : Int32))]) (rest := []) (lenOf pd__I_Z_855 rfl) rfl (by show 2 * 0 + _ ≤ _; exact Nat.le_of_eq rfl) (hb hby at_175) (fun _ _ => ⟨rfl, eh2, (by decide : 4 + 0 ≤ 16), (by decide : 17 + 0 ≤ 128)⟩)
  dsimp only [Pt.U, Pt.locs, Pt.cells, Pt.slots] at X3 l3 y3 z3 st3 hQ3
  subst l3 y3 z3
  obtain ⟨rfl, N3q, eh3⟩ := hQ3
  have N3 := Fr.app N2 N3q
  refine Goes.sts st3 ?_
  show Gs p e below s _ _ _ T3 m 178 #[iv q0, iv q1, iv q2, iv q3, iv q4, iv q5, rv a, iv kk, iv oo, .unset] [(.int (0 : Int32))]
  refine gifNo X3 hx (hb hby at_178) (by decide) ?_
  show Gs p e below s _ _ _ T3 m 181 #[iv q0, iv q1, iv q2, iv q3, iv q4, iv q5, rv a, iv kk, iv oo, .unset] []
  refine gaload X3 hx (hb hby at_181) rfl rfl ?_
  refine giconst X3 hx (hb hby at_183) ?_
  obtain ⟨cq4, kq4, qa4, qb4, qc4⟩ := isOf hZ eh3 E1
  obtain ⟨_, _, ⟨T4, L4, k4, n4⟩, -, X4, ⟨Lc4, hQ4, l4, y4, z4⟩, st4⟩ := X3.virtualBack hx (y := mN18) (z := mN18) hown (mvT hZ (hwk hw 36 rfl)) (mvT hZ (hwk hw 37 rfl)) (notFace_of_selects (args := #[]) (mvT hZ (hwk hw 39 rfl))) (mvT hZ (hwk hw 39 rfl)) (mvT hZ (hwk hw 38 rfl)) (by decide) (backOf (W := 0) (rmCo l Z a0 hw [] a (1 : Int32) aP kP (fun _ => -1) hh n0 Z0 FP1 VP1 i4_1 rfl) hZ (hwk hw 40 rfl) (hwk hw 2 rfl) (by decide) (by decide)) qa4 qc4 (g := (mkF m 184 #[iv q0, iv q1, iv q2, iv q3, iv q4, iv q5, rv a, iv kk, iv oo, .unset] [(.int (1 : Int32)), (.ref a)])) rfl (by rw [hml]; rfl) (Steps.refl _) (argsL := [(.int (1 : Int32))]) (rest := []) (lenOf pd__I_Z_855 rfl) rfl (by show 2 * 0 + _ ≤ _; exact Nat.le_of_eq rfl) (hb hby at_184) (fun _ _ => ⟨rfl, eh3, (by decide : 4 + 0 ≤ 16), (by decide : 17 + 0 ≤ 128)⟩)
  dsimp only [Pt.U, Pt.locs, Pt.cells, Pt.slots] at X4 l4 y4 z4 st4 hQ4
  subst l4 y4 z4
  obtain ⟨rfl, N4q, eh4⟩ := hQ4
  have N4 := Fr.app N3 N4q
  refine Goes.sts st4 ?_
  show Gs p e below s _ _ _ T4 m 187 #[iv q0, iv q1, iv q2, iv q3, iv q4, iv q5, rv a, iv kk, iv oo, .unset] [(.int (0 : Int32))]
  refine gifNo X4 hx (hb hby at_187) (by decide) ?_
  show Gs p e below s _ _ _ T4 m 190 #[iv q0, iv q1, iv q2, iv q3, iv q4, iv q5, rv a, iv kk, iv oo, .unset] []
  refine gaload X4 hx (hb hby at_190) rfl rfl ?_
  refine giconst X4 hx (hb hby at_192) ?_
  obtain ⟨cq5, kq5, qa5, qb5, qc5⟩ := isOf hZ eh4 E1
  obtain ⟨_, _, ⟨T5, L5, k5, n5⟩, -, X5, ⟨Lc5, hQ5, l5, y5, z5⟩, st5⟩ := X4.virtualBack hx (y := mN18) (z := mN18) hown (mvT hZ (hwk hw 36 rfl)) (mvT hZ (hwk hw 37 rfl)) (notFace_of_selects (args := #[]) (mvT hZ (hwk hw 39 rfl))) (mvT hZ (hwk hw 39 rfl)) (mvT hZ (hwk hw 38 rfl)) (by decide) (backOf (W := 0) (rmCo l Z a0 hw [] a (2 : Int32) aP kP (fun _ => -1) hh n0 Z0 FP1 VP1 i4_2 rfl) hZ (hwk hw 40 rfl) (hwk hw 2 rfl) (by decide) (by decide)) qa5 qc5 (g := (mkF m 193 #[iv q0, iv q1, iv q2, iv q3, iv q4, iv q5, rv a, iv kk, iv oo, .unset] [(.int (2 : Int32)), (.ref a)])) rfl (by rw [hml]; rfl) (Steps.refl _) (argsL := [(.int (2 : Int32))]) (rest := []) (lenOf pd__I_Z_855 rfl) rfl (by show 2 * 0 + _ ≤ _; exact Nat.le_of_eq rfl) (hb hby at_193) (fun _ _ => ⟨rfl, eh4, (by decide : 4 + 0 ≤ 16), (by decide : 17 + 0 ≤ 128)⟩)
  dsimp only [Pt.U, Pt.locs, Pt.cells, Pt.slots] at X5 l5 y5 z5 st5 hQ5
  subst l5 y5 z5
  obtain ⟨rfl, N5q, eh5⟩ := hQ5
  have N5 := Fr.app N4 N5q
  refine Goes.sts st5 ?_
  show Gs p e below s _ _ _ T5 m 196 #[iv q0, iv q1, iv q2, iv q3, iv q4, iv q5, rv a, iv kk, iv oo, .unset] [(.int (0 : Int32))]
  refine gifNo X5 hx (hb hby at_196) (by decide) ?_
  show Gs p e below s _ _ _ T5 m 199 #[iv q0, iv q1, iv q2, iv q3, iv q4, iv q5, rv a, iv kk, iv oo, .unset] []
  refine gaload X5 hx (hb hby at_199) rfl rfl ?_
  refine giconst X5 hx (hb hby at_201) ?_
  obtain ⟨cq6, kq6, qa6, qb6, qc6⟩ := isOf hZ eh5 E1
  obtain ⟨_, _, ⟨T6, L6, k6, n6⟩, -, X6, ⟨Lc6, hQ6, l6, y6, z6⟩, st6⟩ := X5.virtualBack hx (y := mN18) (z := mN18) hown (mvT hZ (hwk hw 36 rfl)) (mvT hZ (hwk hw 37 rfl)) (notFace_of_selects (args := #[]) (mvT hZ (hwk hw 39 rfl))) (mvT hZ (hwk hw 39 rfl)) (mvT hZ (hwk hw 38 rfl)) (by decide) (backOf (W := 0) (rmCo l Z a0 hw [] a (3 : Int32) aP kP (fun _ => -1) hh n0 Z0 FP1 VP1 i4_3 rfl) hZ (hwk hw 40 rfl) (hwk hw 2 rfl) (by decide) (by decide)) qa6 qc6 (g := (mkF m 202 #[iv q0, iv q1, iv q2, iv q3, iv q4, iv q5, rv a, iv kk, iv oo, .unset] [(.int (3 : Int32)), (.ref a)])) rfl (by rw [hml]; rfl) (Steps.refl _) (argsL := [(.int (3 : Int32))]) (rest := []) (lenOf pd__I_Z_855 rfl) rfl (by show 2 * 0 + _ ≤ _; exact Nat.le_of_eq rfl) (hb hby at_202) (fun _ _ => ⟨rfl, eh5, (by decide : 4 + 0 ≤ 16), (by decide : 17 + 0 ≤ 128)⟩)
  dsimp only [Pt.U, Pt.locs, Pt.cells, Pt.slots] at X6 l6 y6 z6 st6 hQ6
  subst l6 y6 z6
  obtain ⟨rfl, N6q, eh6⟩ := hQ6
  have N6 := Fr.app N5 N6q
  refine Goes.sts st6 ?_
  show Gs p e below s _ _ _ T6 m 205 #[iv q0, iv q1, iv q2, iv q3, iv q4, iv q5, rv a, iv kk, iv oo, .unset] [(.int (0 : Int32))]
  refine gifNo X6 hx (hb hby at_205) (by decide) ?_
  show Gs p e below s _ _ _ T6 m 208 #[iv q0, iv q1, iv q2, iv q3, iv q4, iv q5, rv a, iv kk, iv oo, .unset] []
  refine giconst X6 hx (hb hby at_208) ?_
  show Gs p e below s _ _ _ T6 m 209 #[iv q0, iv q1, iv q2, iv q3, iv q4, iv q5, rv a, iv kk, iv oo, .unset] [(.int (1 : Int32))]
  refine ggoto X6 hx (pc' := 213) (hb hby at_209) (by decide) (by decide) ?_
  show Gs p e below s _ _ _ T6 m 213 #[iv q0, iv q1, iv q2, iv q3, iv q4, iv q5, rv a, iv kk, iv oo, .unset] [(.int (1 : Int32))]
  refine gistore X6 hx (hb hby at_213) trivial (l' := #[iv q0, iv q1, iv q2, iv q3, iv q4, iv q5, rv a, iv kk, iv oo, iv (1 : Int32)]) rfl ?_
  refine giload X6 hx (hb hby at_215) rfl ?_
  show Gs p e below s _ _ _ T6 m 217 #[iv q0, iv q1, iv q2, iv q3, iv q4, iv q5, rv a, iv kk, iv oo, iv (1 : Int32)] [(.int (1 : Int32))]
  refine gifYes X6 hx (pc' := 222) (hb hby at_217) (by decide) (by decide) (by decide) ?_
  show Gs p e below s _ _ _ T6 m 222 #[iv q0, iv q1, iv q2, iv q3, iv q4, iv q5, rv a, iv kk, iv oo, iv (1 : Int32)] []
  refine gaload X6 hx (hb hby at_222) rfl rfl ?_
  refine giconst X6 hx (hb hby at_224) ?_
  refine giconst X6 hx (hb hby at_225) ?_
  refine Goes.st (fun tg kg => XS.dconst1 X6.here hx rfl (hb hby at_226) (v := FP.dconst1) rfl kg) ?_
  have HR7 : HR Z hh a aI aT aP kI kT kP I D (fun _ => -1) (0 : Int32) (1 : Int32) := ⟨E1, FI1, FT1, FP1, FS1, FO1, VI1, VT1, VP1⟩
  obtain ⟨_, _, ⟨T8, L8, k8, n8⟩, -, X8, ⟨Lc8, hQ8, l8, y8, z8⟩, st8⟩ := Jvm.LawKit.callS X6 hx (y := mN11) hown (mvT hZ (hwk hw 41 rfl)) (mvT hZ (hwk hw 42 rfl)) (mvT hZ (hwk hw 43 rfl)) (mvT hZ (hwk hw 44 rfl)) (by decide) (backOf (W := 0) (rmW0x l Z a0 hw [] a aI aT aP kI kT kP I D (fun _ => -1) (3 : Int32) FP.dconst1 hh n0 Z0 hB HR7 i4_3 rfl nn1) hZ (hwk hw 44 rfl) (hwk hw 43 rfl) (by decide) (by decide)) (g := (mkF m 227 #[iv q0, iv q1, iv q2, iv q3, iv q4, iv q5, rv a, iv kk, iv oo, iv (1 : Int32)] [(.double FP.dconst1), (.int (3 : Int32)), (.int (0 : Int32)), (.ref a)])) rfl (by rw [hml]; rfl) (argsL := [(.ref a), (.int (0 : Int32)), (.int (3 : Int32)), (.double FP.dconst1)]) (rest := []) (lenOf pd__Lcom_example_redoubt_redoubt_engine_IndexHeap_ZID_V_601b rfl) rfl (by show 2 * 0 + _ ≤ _; exact Nat.le_of_eq rfl) (hb hby at_227) (fun _ _ => ⟨rfl, eh6, (by decide : 4 + 0 ≤ 16), (by decide : 17 + 0 ≤ 128)⟩)
  dsimp only [Pt.U, Pt.locs, Pt.cells, Pt.slots] at X8 l8 y8 z8 st8 hQ8
  subst l8 y8 z8
  obtain ⟨rfl, N8q, K8, HQ8⟩ := hQ8
  have Z8 : n0 ≤ T8.heap.size := Nat.le_trans Z0 K8.1
  obtain ⟨E10, FI10, FT10, FP10, FS10, FO10, VI10, VT10, VP10⟩ := id HQ8
  have N8 := Fr.app N6 N8q
  refine Goes.st st8 ?_
  show Gs p e below s _ _ _ T8 m 230 #[iv q0, iv q1, iv q2, iv q3, iv q4, iv q5, rv a, iv kk, iv oo, iv (1 : Int32)] []
  refine gaload X8 hx (hb hby at_230) rfl rfl ?_
  refine giconst X8 hx (hb hby at_232) ?_
  refine giconst X8 hx (hb hby at_233) ?_
  refine Goes.st (fun tg kg => XS.dconst0 X8.here hx rfl (hb hby at_234) (v := FP.dconst0) rfl kg) ?_
  have HR11 : HR Z T8.heap a aI aT aP kI kT kP (upd I 0 (3 : Int32)) (upd D 0 FP.dconst1) (upd (fun _ => -1) (3 : Int32) 0) (1 : Int32) (1 : Int32) := ⟨E10, FI10, FT10, FP10, FS10, FO10, VI10, VT10, VP10⟩
  obtain ⟨_, _, ⟨T12, L12, k12, n12⟩, -, X12, ⟨Lc12, hQ12, l12, y12, z12⟩, st12⟩ := Jvm.LawKit.callS X8 hx (y := mN11) hown (mvT hZ (hwk hw 41 rfl)) (mvT hZ (hwk hw 42 rfl)) (mvT hZ (hwk hw 43 rfl)) (mvT hZ (hwk hw 44 rfl)) (by decide) (backOf (W := 0) (rmW1x l Z a0 hw [] a aI aT aP kI kT kP (upd I 0 (3 : Int32)) (upd D 0 FP.dconst1) (upd (fun _ => -1) (3 : Int32) 0) (1 : Int32) FP.dconst0 T8.heap n0 Z8 hB HR11 i4_1 rfl nn0 (by rw [upd_hit]; exact i4_3) (by rw [upd_hit, upd_hit]; exact bef_c)) hZ (hwk hw 44 rfl) (hwk hw 43 rfl) (by decide) (by decide)) (g := (mkF m 235 #[iv q0, iv q1, iv q2, iv q3, iv q4, iv q5, rv a, iv kk, iv oo, iv (1 : Int32)] [(.double FP.dconst0), (.int (1 : Int32)), (.int (0 : Int32)), (.ref a)])) rfl (by rw [hml]; rfl) (argsL := [(.ref a), (.int (0 : Int32)), (.int (1 : Int32)), (.double FP.dconst0)]) (rest := []) (lenOf pd__Lcom_example_redoubt_redoubt_engine_IndexHeap_ZID_V_601b rfl) rfl (by show 2 * 0 + _ ≤ _; exact Nat.le_of_eq rfl) (hb hby at_235) (fun _ _ => ⟨rfl, rfl, (by decide : 4 + 0 ≤ 16), (by decide : 17 + 0 ≤ 128)⟩)
  dsimp only [Pt.U, Pt.locs, Pt.cells, Pt.slots] at X12 l12 y12 z12 st12 hQ12
  subst l12 y12 z12
  obtain ⟨rfl, N12q, K12, HQ12⟩ := hQ12
  have Z12 : n0 ≤ T12.heap.size := Nat.le_trans Z8 K12.1
  obtain ⟨E14, FI14, FT14, FP14, FS14, FO14, VI14, VT14, VP14⟩ := id HQ12
  have N12 := Fr.app N8 N12q
  refine Goes.st st12 ?_
  show Gs p e below s _ _ _ T12 m 238 #[iv q0, iv q1, iv q2, iv q3, iv q4, iv q5, rv a, iv kk, iv oo, iv (1 : Int32)] []
  refine gaload X12 hx (hb hby at_238) rfl rfl ?_
  obtain ⟨cq15, kq15, qa15, qb15, qc15⟩ := isOf hZ rfl E14
  obtain ⟨_, _, ⟨T15, L15, k15, n15⟩, -, X15, ⟨Lc15, hQ15, l15, y15, z15⟩, st15⟩ := X12.virtualBack hx (y := mN17) (z := mN17) hown (mvT hZ (hwk hw 31 rfl)) (mvT hZ (hwk hw 32 rfl)) (notFace_of_selects (args := #[]) (mvT hZ (hwk hw 34 rfl))) (mvT hZ (hwk hw 34 rfl)) (mvT hZ (hwk hw 33 rfl)) (by decide) (backOf (W := 0) (rmSz l Z a0 hw [] a (2 : Int32) T12.heap n0 Z12 FS14) hZ (hwk hw 35 rfl) (hwk hw 2 rfl) (by decide) (by decide)) qa15 qc15 (g := (mkF m 240 #[iv q0, iv q1, iv q2, iv q3, iv q4, iv q5, rv a, iv kk, iv oo, iv (1 : Int32)] [(.ref a)])) rfl (by rw [hml]; rfl) (Steps.refl _) (argsL := []) (rest := []) (lenOf pd___I_4f1 rfl) rfl (by show 2 * 0 + _ ≤ _; exact Nat.le_of_eq rfl) (hb hby at_240) (fun _ _ => ⟨rfl, rfl, (by decide : 4 + 0 ≤ 16), (by decide : 17 + 0 ≤ 128)⟩)
  dsimp only [Pt.U, Pt.locs, Pt.cells, Pt.slots] at X15 l15 y15 z15 st15 hQ15
  subst l15 y15 z15
  obtain ⟨rfl, N15q, eh15⟩ := hQ15
  have N15 := Fr.app N12 N15q
  refine Goes.sts st15 ?_
  show Gs p e below s _ _ _ T15 m 243 #[iv q0, iv q1, iv q2, iv q3, iv q4, iv q5, rv a, iv kk, iv oo, iv (1 : Int32)] [(.int (2 : Int32))]
  refine giconst X15 hx (hb hby at_243) ?_
  show Gs p e below s _ _ _ T15 m 244 #[iv q0, iv q1, iv q2, iv q3, iv q4, iv q5, rv a, iv kk, iv oo, iv (1 : Int32)] [(.int (2 : Int32)), (.int (2 : Int32))]
  refine gicmpNo X15 hx (hb hby at_244) (by decide) ?_
  show Gs p e below s _ _ _ T15 m 247 #[iv q0, iv q1, iv q2, iv q3, iv q4, iv q5, rv a, iv kk, iv oo, iv (1 : Int32)] []
  refine gaload X15 hx (hb hby at_247) rfl rfl ?_
  refine giconst X15 hx (hb hby at_249) ?_
  obtain ⟨cq16, kq16, qa16, qb16, qc16⟩ := isOf hZ eh15 E14
  obtain ⟨_, _, ⟨T16, L16, k16, n16⟩, -, X16, ⟨Lc16, hQ16, l16, y16, z16⟩, st16⟩ := X15.virtualBack hx (y := mN19) (z := mN19) hown (mvT hZ (hwk hw 72 rfl)) (mvT hZ (hwk hw 73 rfl)) (notFace_of_selects (args := #[]) (mvT hZ (hwk hw 75 rfl))) (mvT hZ (hwk hw 75 rfl)) (mvT hZ (hwk hw 74 rfl)) (by decide) (backOf (W := 0) (rmIa l Z a0 hw [] a aI kI (upd (upd (upd I 0 (3 : Int32)) 1 ((upd I 0 (3 : Int32)) 0)) 0 (1 : Int32)) T12.heap n0 Z12 FI14 VI14) hZ (hwk hw 76 rfl) (hwk hw 2 rfl) (by decide) (by decide)) qa16 qc16 (g := (mkF m 250 #[iv q0, iv q1, iv q2, iv q3, iv q4, iv q5, rv a, iv kk, iv oo, iv (1 : Int32)] [(.int (0 : Int32)), (.ref a)])) rfl (by rw [hml]; rfl) (Steps.refl _) (argsL := [(.int (0 : Int32))]) (rest := []) (lenOf pd__I_I_7ab rfl) rfl (by show 2 * 0 + _ ≤ _; exact Nat.le_of_eq rfl) (hb hby at_250) (fun _ _ => ⟨rfl, eh15, (by decide : 4 + 0 ≤ 16), (by decide : 17 + 0 ≤ 128)⟩)
  dsimp only [Pt.U, Pt.locs, Pt.cells, Pt.slots] at X16 l16 y16 z16 st16 hQ16
  subst l16 y16 z16
  obtain ⟨rfl, N16q, eh16⟩ := hQ16
  rw [show (upd (upd (upd I 0 (3 : Int32)) 1 ((upd I 0 (3 : Int32)) 0)) 0 (1 : Int32)) 0 = 1 from upd_hit] at st16
  have N16 := Fr.app N15 N16q
  refine Goes.sts st16 ?_
  show Gs p e below s _ _ _ T16 m 253 #[iv q0, iv q1, iv q2, iv q3, iv q4, iv q5, rv a, iv kk, iv oo, iv (1 : Int32)] [(.int (1 : Int32))]
  refine giconst X16 hx (hb hby at_253) ?_
  show Gs p e below s _ _ _ T16 m 254 #[iv q0, iv q1, iv q2, iv q3, iv q4, iv q5, rv a, iv kk, iv oo, iv (1 : Int32)] [(.int (1 : Int32)), (.int (1 : Int32))]
  refine gicmpNo X16 hx (hb hby at_254) (by decide) ?_
  show Gs p e below s _ _ _ T16 m 257 #[iv q0, iv q1, iv q2, iv q3, iv q4, iv q5, rv a, iv kk, iv oo, iv (1 : Int32)] []
  refine giconst X16 hx (hb hby at_257) ?_
  show Gs p e below s _ _ _ T16 m 258 #[iv q0, iv q1, iv q2, iv q3, iv q4, iv q5, rv a, iv kk, iv oo, iv (1 : Int32)] [(.int (1 : Int32))]
  refine ggoto X16 hx (pc' := 262) (hb hby at_258) (by decide) (by decide) ?_
  show Gs p e below s _ _ _ T16 m 262 #[iv q0, iv q1, iv q2, iv q3, iv q4, iv q5, rv a, iv kk, iv oo, iv (1 : Int32)] [(.int (1 : Int32))]
  refine Goes.retN X16 hx hlk hret (by simp) (hb hby at_262) (by decide) ?_ (by decide) (by decide)
  rw [eh16]
  exact hQ _ _ N16
theorem own_k (x : Int32) : (x &&& 2147483647) % 5 = 0 ∨ (x &&& 2147483647) % 5 = 1 ∨ (x &&& 2147483647) % 5 = 2 ∨ (x &&& 2147483647) % 5 = 3 ∨ (x &&& 2147483647) % 5 = 4 := by
  have h := c_and x 2147483647 (by decide)
  have h2 := (c_irem (x &&& 2147483647) 5 5 (by decide)).1 h.1
  have h5 : ((x &&& 2147483647) % 5).toInt = 0 ∨ ((x &&& 2147483647) % 5).toInt = 1 ∨ ((x &&& 2147483647) % 5).toInt = 2 ∨ ((x &&& 2147483647) % 5).toInt = 3 ∨ ((x &&& 2147483647) % 5).toInt = 4 := by omega
  rcases h5 with q | q | q | q | q
  · exact Or.inl (Int32.toInt_inj.mp q)
  · exact Or.inr (Or.inl (Int32.toInt_inj.mp q))
  · exact Or.inr (Or.inr (Or.inl (Int32.toInt_inj.mp q)))
  · exact Or.inr (Or.inr (Or.inr (Or.inl (Int32.toInt_inj.mp q))))
  · exact Or.inr (Or.inr (Or.inr (Or.inr (Int32.toInt_inj.mp q))))
theorem own_and3 (x : Int32) : In4 (x &&& 3) := by
  have h := c_mask x 3 2 (by decide) (by decide)
  have h4 : (x &&& 3).toInt = 0 ∨ (x &&& 3).toInt = 1 ∨ (x &&& 3).toInt = 2 ∨ (x &&& 3).toInt = 3 := by
    rw [h]; have := Int.emod_nonneg x.toInt (b := ((2 ^ 2 : Nat) : Int)) (by decide); have := Int.emod_lt_of_pos x.toInt (b := ((2 ^ 2 : Nat) : Int)) (by decide)
    have e : ((2 ^ 2 : Nat) : Int) = 4 := by decide
    omega
  rcases h4 with q | q | q | q
  · exact Or.inl (Int32.toInt_inj.mp q)
  · exact Or.inr (Or.inl (Int32.toInt_inj.mp q))
  · exact Or.inr (Or.inr (Or.inl (Int32.toInt_inj.mp q)))
  · exact Or.inr (Or.inr (Or.inr (Int32.toInt_inj.mp q)))
theorem own_ro {o : Int32} (h : In4 o) : ((o + 1) &&& 3) ≠ o ∧ ((o + 2) &&& 3) ≠ o ∧ ((o + 2) &&& 3) ≠ ((o + 1) &&& 3) ∧ ((o + 3) &&& 3) ≠ o ∧ ((o + 3) &&& 3) ≠ ((o + 1) &&& 3) ∧ ((o + 3) &&& 3) ≠ ((o + 2) &&& 3) := by
  rcases h with rfl | rfl | rfl | rfl <;> decide
theorem ef_0 (m : MethodId) (x0 : Int32) (x1 : Int32) (x2 : Int32) (x3 : Int32) (x4 : Int32) (x5 : Int32) : entryFrame m #[(.int x0), (.int x1), (.int x2), (.int x3), (.int x4), (.int x5)] maxLocals = mkF m 0 #[iv x0, iv x1, iv x2, iv x3, iv x4, iv x5, .unset, .unset, .unset, .unset] [] := by first | (simp [entryFrame, mkF, argsToLocals, Value.category, maxLocals]; done) | rfl
def Q0 (Z : State) (q0 q1 q2 q3 q4 q5 : Int32) (h0 : Heap) (n0 : Nat) (v : Option Value) (h : Heap) (L : List Loc) : Prop := v = some (.int 1) ∧ Fr n0 L
set_option maxRecDepth 65536 in
set_option maxHeartbeats 40000000 in
theorem rm0 (l : Launch) (Z : State) (a0 : Array Value) (hw : ∀ d ∈ tables_1, d.before a0 Z = true) (ws : List Jvm.Cond) (q0 q1 q2 q3 q4 q5 : Int32) (h0 : Heap) (n0 : Nat) (Z0 : n0 ≤ h0.size)  :
    MetFree l x (head1 (Jvm.Cond.code x code maxLocals ret :: ws) room_1) (fun aa U => aa = #[(.int q0), (.int q1), (.int q2), (.int q3), (.int q4), (.int q5)] ∧ Z.Warmed39 U.vm ∧ U.heap = h0) (fun _ _ _ _ _ => True) (fun _ u1_ o_ u2_ => ∃ v_ l_, o_ = .returned v_ ∧ Q0 Z q0 q1 q2 q3 q4 q5 h0 n0 v_ u2_.heap l_ ∧ FrameEnd u1_ o_ u2_ l_ 16 128) := by
  refine MetFree.of_bodySF (plainFor_of_name pn_com_example_redoubt_redoubt_engine_IndexHeapClearPinLaw) hisR ?_
  intro p e s m args below meth c s₁ Bd hml0 hP hK
  obtain ⟨rfl, hZ, hh⟩ := hP
  have hx := Bd.exec
  have hby := Bd.bytes
  have hlk := BodyLoose.notSynchronized Bd
  have hret := Bd.returns
  have hml : c.maxLocals = 10 := hml0
  have hown : s.vm.findClass "com/example/redoubt/redoubt/engine/IndexHeapClearPinLaw" = some m.cls := findClass_of_methodNamed Bd.named
  have hnm := (name_of_methodNamed Bd.named Bd.method).1
  have X0 : Stand p l e room_1 s m #[(.int q0), (.int q1), (.int q2), (.int q3), (.int q4), (.int q5)] below meth c s₁ [] 0 0 := Stand.of_body Bd
  have e0 : s₁.heap = h0 := by rw [← hh, Bd.state]; rfl
  have N0 := Fr.nil n0
  refine Goes.st (s := s) (Q := Q0 Z q0 q1 q2 q3 q4 q5 h0 n0) (cs := 16) (ss := 128) (fun tg kg => castTop (ef_0 m q0 q1 q2 q3 q4 q5) kg) ?_
  show Gs p e below s _ _ _ s₁ m 0 #[iv q0, iv q1, iv q2, iv q3, iv q4, iv q5, .unset, .unset, .unset, .unset] []
  obtain ⟨T1, h1, X1, e1, E1, A1, D1, -, st1⟩ := newO X0 hx hZ hown (hwk hw 0 rfl) (hwk hw 1 rfl) (hwk hw 2 rfl) e0 (g := (mkF m 0 #[iv q0, iv q1, iv q2, iv q3, iv q4, iv q5, .unset, .unset, .unset, .unset] [])) rfl (hb hby at_0) (by decide) (by decide)
  obtain ⟨b1, g1⟩ : ∃ z, z = h0.size := ⟨_, rfl⟩
  rw [← g1] at A1 D1 st1
  have lo_b1 : n0 ≤ b1 := by have := Z0; omega
  refine Goes.st st1 ?_
  have Z1 : n0 ≤ h1.size := Nat.le_trans Z0 E1.1
  have F1_ordered : Fld Z h1 b1 "com/example/redoubt/redoubt/engine/IndexHeap" "ordered" "Z" (.int (0 : Int32)) := D1 (Or.inl (hwk hw 10 rfl)) (ty := .boolean) (by decide)
  have F1_indices : Fld Z h1 b1 "com/example/redoubt/redoubt/engine/IndexHeap" "indices" "[I" .null := D1 (Or.inr (hwk hw 13 rfl)) (ty := (.array .int)) (by decide)
  have F1_times : Fld Z h1 b1 "com/example/redoubt/redoubt/engine/IndexHeap" "times" "[D" .null := D1 (Or.inr (hwk hw 16 rfl)) (ty := (.array .double)) (by decide)
  have F1_positions : Fld Z h1 b1 "com/example/redoubt/redoubt/engine/IndexHeap" "positions" "[I" .null := D1 (Or.inr (hwk hw 18 rfl)) (ty := (.array .int)) (by decide)
  have F1_size : Fld Z h1 b1 "com/example/redoubt/redoubt/engine/IndexHeap" "size" "I" (.int (0 : Int32)) := D1 (Or.inl (hwk hw 30 rfl)) (ty := .int) (by decide)
  show Gs p e below s _ _ _ T1 m 3 #[iv q0, iv q1, iv q2, iv q3, iv q4, iv q5, .unset, .unset, .unset, .unset] [(.ref b1)]
  refine gdup X1 hx (hb hby at_3) trivial rfl ?_
  refine giconst X1 hx (hb hby at_4) ?_
  show Gs p e below s _ _ _ T1 m 5 #[iv q0, iv q1, iv q2, iv q3, iv q4, iv q5, .unset, .unset, .unset, .unset] [(.int (4 : Int32)), (.ref b1), (.ref b1)]
  obtain ⟨_, _, ⟨T3, L3, k3, n3⟩, -, X3, ⟨Lc3, hQ3, l3, y3, z3⟩, st3⟩ := X1.specialBack hx (y := mN1) rfl hown (mvT hZ (hwk hw 3 rfl)) (mvT hZ (hwk hw 4 rfl)) (mvT hZ (hwk hw 5 rfl)) (by decide) (backOf (W := 1) (rmIn l Z a0 hw [] b1 h1 n0 Z1 A1 lo_b1 F1_indices F1_times F1_positions F1_size F1_ordered) hZ (hwk hw 5 rfl) (hwk hw 2 rfl) (by decide) (by decide)) (g := (mkF m 5 #[iv q0, iv q1, iv q2, iv q3, iv q4, iv q5, .unset, .unset, .unset, .unset] [(.int (4 : Int32)), (.ref b1), (.ref b1)])) rfl (by rw [hml]; rfl) (Steps.refl _) (a := b1) (argsL := [(.int (4 : Int32))]) (rest := [(.ref b1)]) (lenOf pd__I_V_82d rfl) rfl (by show 2 * 0 + _ ≤ _; exact Nat.le_of_eq rfl) (hb hby at_5) (fun _ _ => ⟨rfl, e1, (by decide : 1 + 3 ≤ 16), (by decide : 5 + 12 ≤ 128)⟩)
  dsimp only [Pt.U, Pt.locs, Pt.cells, Pt.slots] at X3 l3 y3 z3 st3 hQ3
  subst l3 y3 z3
  obtain ⟨aI, aT, aP, kI, kT, kP, rfl, N3q, K3, _, _, _, hB, hR⟩ := hQ3
  obtain ⟨a, ea⟩ : ∃ z, z = b1 := ⟨_, rfl⟩
  have Z3 : n0 ≤ T3.heap.size := Nat.le_trans Z1 K3.1
  rw [← ea] at hB hR
  obtain ⟨la, lI, lT, lP, naI, naT, naP, nIT, nIP, nTP⟩ := id hB
  obtain ⟨E4, FI4, FT4, FP4, FS4, FO4, VI4, VT4, VP4⟩ := id hR
  have N3 := Fr.app N0 N3q
  refine Goes.sts st3 ?_
  show Gs p e below s _ _ _ T3 m 8 #[iv q0, iv q1, iv q2, iv q3, iv q4, iv q5, .unset, .unset, .unset, .unset] [(.ref b1)]
  rw [← ea]
  show Gs p e below s _ _ _ T3 m 8 #[iv q0, iv q1, iv q2, iv q3, iv q4, iv q5, .unset, .unset, .unset, .unset] [(.ref a)]
  refine gastore X3 hx (hb hby at_8) trivial rfl (l' := #[iv q0, iv q1, iv q2, iv q3, iv q4, iv q5, rv a, .unset, .unset, .unset]) rfl ?_
  refine giloadN X3 hx (hb hby at_10) rfl ?_
  show Gs p e below s _ _ _ T3 m 11 #[iv q0, iv q1, iv q2, iv q3, iv q4, iv q5, rv a, .unset, .unset, .unset] [(.int q0)]
  refine Goes.st (fun tg kg => X3.ldcInt hx hown (mvT hZ (hwk hw 23 rfl)) (g := (mkF m 11 #[iv q0, iv q1, iv q2, iv q3, iv q4, iv q5, rv a, .unset, .unset, .unset] [(.int q0)])) rfl (hb hby at_11) tg kg) ?_
  show Gs p e below s _ _ _ T3 m 13 #[iv q0, iv q1, iv q2, iv q3, iv q4, iv q5, rv a, .unset, .unset, .unset] [(.int (2147483647 : Int32)), (.int q0)]
  refine giand X3 hx (hb hby at_13) trivial ?_
  refine giconst X3 hx (hb hby at_14) ?_
  show Gs p e below s _ _ _ T3 m 15 #[iv q0, iv q1, iv q2, iv q3, iv q4, iv q5, rv a, .unset, .unset, .unset] [(.int (5 : Int32)), (.int (q0 &&& (2147483647 : Int32)))]
  refine Goes.st (fun tg kg => iremM X3 hx rfl (hb hby at_15) rfl (by decide) kg) ?_
  show Gs p e below s _ _ _ T3 m 16 #[iv q0, iv q1, iv q2, iv q3, iv q4, iv q5, rv a, .unset, .unset, .unset] [(.int ((q0 &&& (2147483647 : Int32)) % (5 : Int32)))]
  rcases own_k q0 with hk | hk | hk | hk | hk
  · rw [hk]
    show Gs p e below s _ _ _ T3 m 16 #[iv q0, iv q1, iv q2, iv q3, iv q4, iv q5, rv a, .unset, .unset, .unset] [(.int (0 : Int32))]
    refine gistore X3 hx (hb hby at_16) trivial (l' := #[iv q0, iv q1, iv q2, iv q3, iv q4, iv q5, rv a, iv (0 : Int32), .unset, .unset]) rfl ?_
    refine giloadN X3 hx (hb hby at_18) rfl ?_
    refine giconst X3 hx (hb hby at_19) ?_
    refine giand X3 hx (hb hby at_20) trivial ?_
    show Gs p e below s _ _ _ T3 m 21 #[iv q0, iv q1, iv q2, iv q3, iv q4, iv q5, rv a, iv (0 : Int32), .unset, .unset] [(.int (q1 &&& (3 : Int32)))]
    obtain ⟨oo, oo_eq⟩ : ∃ z : Int32, z = (q1 &&& (3 : Int32)) := ⟨_, rfl⟩
    rw [← oo_eq]
    show Gs p e below s _ _ _ T3 m 21 #[iv q0, iv q1, iv q2, iv q3, iv q4, iv q5, rv a, iv (0 : Int32), .unset, .unset] [(.int oo)]
    have i4o : In4 oo := by rw [oo_eq]; exact own_and3 _
    obtain ⟨ro1, ro2, ro3, ro4, ro5, ro6⟩ := own_ro i4o
    have inv5 : Inv 0 (fun _ => False) (fun _ => (0 : Int32)) (fun _ => (-1 : Int32)) := ⟨fun _ _ => i4_0, fun j hj h => absurd h (by rcases hj with rfl | rfl | rfl | rfl <;> decide), fun _ _ => Or.inl rfl⟩
    refine gistore X3 hx (hb hby at_21) trivial (l' := #[iv q0, iv q1, iv q2, iv q3, iv q4, iv q5, rv a, iv (0 : Int32), iv oo, .unset]) rfl ?_
    refine giload X3 hx (hb hby at_23) rfl ?_
    show Gs p e below s _ _ _ T3 m 25 #[iv q0, iv q1, iv q2, iv q3, iv q4, iv q5, rv a, iv (0 : Int32), iv oo, .unset] [(.int (0 : Int32))]
    refine gifYes X3 hx (pc' := 48) (hb hby at_25) (by decide) (by decide) (by decide) ?_
    show Gs p e below s _ _ _ T3 m 48 #[iv q0, iv q1, iv q2, iv q3, iv q4, iv q5, rv a, iv (0 : Int32), iv oo, .unset] []
    refine giload X3 hx (hb hby at_48) rfl ?_
    refine giconst X3 hx (hb hby at_50) ?_
    show Gs p e below s _ _ _ T3 m 51 #[iv q0, iv q1, iv q2, iv q3, iv q4, iv q5, rv a, iv (0 : Int32), iv oo, .unset] [(.int (1 : Int32)), (.int (0 : Int32))]
    refine gicmpYes X3 hx (pc' := 79) (hb hby at_51) (by decide) (by decide) (by decide) ?_
    show Gs p e below s _ _ _ T3 m 79 #[iv q0, iv q1, iv q2, iv q3, iv q4, iv q5, rv a, iv (0 : Int32), iv oo, .unset] []
    refine giload X3 hx (hb hby at_79) rfl ?_
    refine giconst X3 hx (hb hby at_81) ?_
    show Gs p e below s _ _ _ T3 m 82 #[iv q0, iv q1, iv q2, iv q3, iv q4, iv q5, rv a, iv (0 : Int32), iv oo, .unset] [(.int (2 : Int32)), (.int (0 : Int32))]
    refine gicmpYes X3 hx (pc' := 111) (hb hby at_82) (by decide) (by decide) (by decide) ?_
    show Gs p e below s _ _ _ T3 m 111 #[iv q0, iv q1, iv q2, iv q3, iv q4, iv q5, rv a, iv (0 : Int32), iv oo, .unset] []
    refine giload X3 hx (hb hby at_111) rfl ?_
    refine giconst X3 hx (hb hby at_113) ?_
    show Gs p e below s _ _ _ T3 m 114 #[iv q0, iv q1, iv q2, iv q3, iv q4, iv q5, rv a, iv (0 : Int32), iv oo, .unset] [(.int (3 : Int32)), (.int (0 : Int32))]
    refine gicmpYes X3 hx (pc' := 142) (hb hby at_114) (by decide) (by decide) (by decide) ?_
    show Gs p e below s _ _ _ T3 m 142 #[iv q0, iv q1, iv q2, iv q3, iv q4, iv q5, rv a, iv (0 : Int32), iv oo, .unset] []
    refine giloadN X3 hx (hb hby at_142) rfl ?_
    refine giconst X3 hx (hb hby at_143) ?_
    refine giand X3 hx (hb hby at_144) trivial ?_
    show Gs p e below s _ _ _ T3 m 145 #[iv q0, iv q1, iv q2, iv q3, iv q4, iv q5, rv a, iv (0 : Int32), iv oo, .unset] [(.int (q2 &&& (2 : Int32)))]
    by_cases c6 : (q2 &&& (2 : Int32)) = (0 : Int32)
    · refine gifYes X3 hx (pc' := 159) (hb hby at_145) ((if0 _ _).trans (teq c6).1) (by decide) (by decide) ?_
      show Gs p e below s _ _ _ T3 m 159 #[iv q0, iv q1, iv q2, iv q3, iv q4, iv q5, rv a, iv (0 : Int32), iv oo, .unset] []
      refine gaload X3 hx (hb hby at_159) rfl rfl ?_
      have HR7 : HR Z T3.heap a aI aT aP kI kT kP (fun _ => 0) (fun _ => 0) (fun _ => -1) (0 : Int32) (1 : Int32) := ⟨E4, FI4, FT4, FP4, FS4, FO4, VI4, VT4, VP4⟩
      obtain ⟨cq8, kq8, qa8, qb8, qc8⟩ := isOf hZ rfl E4
      obtain ⟨_, _, ⟨T8, L8, k8, n8⟩, -, X8, ⟨Lc8, hQ8, l8, y8, z8⟩, st8⟩ := X3.virtualBack hx (y := mN16) (z := mN16) hown (mvT hZ (hwk hw 24 rfl)) (mvT hZ (hwk hw 25 rfl)) (notFace_of_selects (args := #[]) (mvT hZ (hwk hw 27 rfl))) (mvT hZ (hwk hw 27 rfl)) (mvT hZ (hwk hw 26 rfl)) (by decide) (backOf (W := 0) (rmC0 l Z a0 hw [] a aI aT aP kI kT kP (fun _ => 0) (fun _ => 0) (fun _ => -1) (1 : Int32) (fun _ => False) T3.heap n0 Z3 hB HR7 inv5) hZ (hwk hw 28 rfl) (hwk hw 2 rfl) (by decide) (by decide)) qa8 qc8 (g := (mkF m 161 #[iv q0, iv q1, iv q2, iv q3, iv q4, iv q5, rv a, iv (0 : Int32), iv oo, .unset] [(.ref a)])) rfl (by rw [hml]; rfl) (Steps.refl _) (argsL := []) (rest := []) (lenOf pd___V_566 rfl) rfl (by show 2 * 0 + _ ≤ _; exact Nat.le_of_eq rfl) (hb hby at_161) (fun _ _ => ⟨rfl, rfl, (by decide : 4 + 0 ≤ 16), (by decide : 17 + 0 ≤ 128)⟩)
      dsimp only [Pt.U, Pt.locs, Pt.cells, Pt.slots] at X8 l8 y8 z8 st8 hQ8
      subst l8 y8 z8
      obtain ⟨rfl, N8q, K8, HQ8⟩ := hQ8
      have Z8 : n0 ≤ T8.heap.size := Nat.le_trans Z3 K8.1
      obtain ⟨E10, FI10, FT10, FP10, FS10, FO10, VI10, VT10, VP10⟩ := id HQ8
      have N8 := Fr.app N3 N8q
      refine Goes.sts st8 ?_
      show Gs p e below s _ _ _ T8 m 164 #[iv q0, iv q1, iv q2, iv q3, iv q4, iv q5, rv a, iv (0 : Int32), iv oo, .unset] []
      exact tailS Z a0 hw hx hby hlk hret hml hown hnm hZ q0 q1 q2 q3 q4 q5 (0 : Int32) oo a aI aT aP kI kT kP (fun _ => 0) (fun _ => 0) h0 T8.heap n0 T8 _ X8 rfl N8 Z8 (fun _ _ N => ⟨rfl, N⟩) hB HQ8
    · refine gifNo X3 hx (hb hby at_145) ((if0 _ _).trans (feq c6).1) ?_
      show Gs p e below s _ _ _ T3 m 148 #[iv q0, iv q1, iv q2, iv q3, iv q4, iv q5, rv a, iv (0 : Int32), iv oo, .unset] []
      refine giload X3 hx (hb hby at_148) rfl ?_
      show Gs p e below s _ _ _ T3 m 150 #[iv q0, iv q1, iv q2, iv q3, iv q4, iv q5, rv a, iv (0 : Int32), iv oo, .unset] [(.int (0 : Int32))]
      refine gifYes X3 hx (pc' := 159) (hb hby at_150) (by decide) (by decide) (by decide) ?_
      show Gs p e below s _ _ _ T3 m 159 #[iv q0, iv q1, iv q2, iv q3, iv q4, iv q5, rv a, iv (0 : Int32), iv oo, .unset] []
      refine gaload X3 hx (hb hby at_159) rfl rfl ?_
      have HR11 : HR Z T3.heap a aI aT aP kI kT kP (fun _ => 0) (fun _ => 0) (fun _ => -1) (0 : Int32) (1 : Int32) := ⟨E4, FI4, FT4, FP4, FS4, FO4, VI4, VT4, VP4⟩
      obtain ⟨cq12, kq12, qa12, qb12, qc12⟩ := isOf hZ rfl E4
      obtain ⟨_, _, ⟨T12, L12, k12, n12⟩, -, X12, ⟨Lc12, hQ12, l12, y12, z12⟩, st12⟩ := X3.virtualBack hx (y := mN16) (z := mN16) hown (mvT hZ (hwk hw 24 rfl)) (mvT hZ (hwk hw 25 rfl)) (notFace_of_selects (args := #[]) (mvT hZ (hwk hw 27 rfl))) (mvT hZ (hwk hw 27 rfl)) (mvT hZ (hwk hw 26 rfl)) (by decide) (backOf (W := 0) (rmC0 l Z a0 hw [] a aI aT aP kI kT kP (fun _ => 0) (fun _ => 0) (fun _ => -1) (1 : Int32) (fun _ => False) T3.heap n0 Z3 hB HR11 inv5) hZ (hwk hw 28 rfl) (hwk hw 2 rfl) (by decide) (by decide)) qa12 qc12 (g := (mkF m 161 #[iv q0, iv q1, iv q2, iv q3, iv q4, iv q5, rv a, iv (0 : Int32), iv oo, .unset] [(.ref a)])) rfl (by rw [hml]; rfl) (Steps.refl _) (argsL := []) (rest := []) (lenOf pd___V_566 rfl) rfl (by show 2 * 0 + _ ≤ _; exact Nat.le_of_eq rfl) (hb hby at_161) (fun _ _ => ⟨rfl, rfl, (by decide : 4 + 0 ≤ 16), (by decide : 17 + 0 ≤ 128)⟩)
      dsimp only [Pt.U, Pt.locs, Pt.cells, Pt.slots] at X12 l12 y12 z12 st12 hQ12
      subst l12 y12 z12
      obtain ⟨rfl, N12q, K12, HQ12⟩ := hQ12
      have Z12 : n0 ≤ T12.heap.size := Nat.le_trans Z3 K12.1
      obtain ⟨E14, FI14, FT14, FP14, FS14, FO14, VI14, VT14, VP14⟩ := id HQ12
      have N12 := Fr.app N3 N12q
      refine Goes.sts st12 ?_
      show Gs p e below s _ _ _ T12 m 164 #[iv q0, iv q1, iv q2, iv q3, iv q4, iv q5, rv a, iv (0 : Int32), iv oo, .unset] []
      exact tailS Z a0 hw hx hby hlk hret hml hown hnm hZ q0 q1 q2 q3 q4 q5 (0 : Int32) oo a aI aT aP kI kT kP (fun _ => 0) (fun _ => 0) h0 T12.heap n0 T12 _ X12 rfl N12 Z12 (fun _ _ N => ⟨rfl, N⟩) hB HQ12
  · rw [hk]
    show Gs p e below s _ _ _ T3 m 16 #[iv q0, iv q1, iv q2, iv q3, iv q4, iv q5, rv a, .unset, .unset, .unset] [(.int (1 : Int32))]
    refine gistore X3 hx (hb hby at_16) trivial (l' := #[iv q0, iv q1, iv q2, iv q3, iv q4, iv q5, rv a, iv (1 : Int32), .unset, .unset]) rfl ?_
    refine giloadN X3 hx (hb hby at_18) rfl ?_
    refine giconst X3 hx (hb hby at_19) ?_
    refine giand X3 hx (hb hby at_20) trivial ?_
    show Gs p e below s _ _ _ T3 m 21 #[iv q0, iv q1, iv q2, iv q3, iv q4, iv q5, rv a, iv (1 : Int32), .unset, .unset] [(.int (q1 &&& (3 : Int32)))]
    obtain ⟨oo, oo_eq⟩ : ∃ z : Int32, z = (q1 &&& (3 : Int32)) := ⟨_, rfl⟩
    rw [← oo_eq]
    show Gs p e below s _ _ _ T3 m 21 #[iv q0, iv q1, iv q2, iv q3, iv q4, iv q5, rv a, iv (1 : Int32), .unset, .unset] [(.int oo)]
    have i4o : In4 oo := by rw [oo_eq]; exact own_and3 _
    obtain ⟨ro1, ro2, ro3, ro4, ro5, ro6⟩ := own_ro i4o
    have inv15 : Inv 0 (fun _ => False) (fun _ => (0 : Int32)) (fun _ => (-1 : Int32)) := ⟨fun _ _ => i4_0, fun j hj h => absurd h (by rcases hj with rfl | rfl | rfl | rfl <;> decide), fun _ _ => Or.inl rfl⟩
    refine gistore X3 hx (hb hby at_21) trivial (l' := #[iv q0, iv q1, iv q2, iv q3, iv q4, iv q5, rv a, iv (1 : Int32), iv oo, .unset]) rfl ?_
    refine giload X3 hx (hb hby at_23) rfl ?_
    show Gs p e below s _ _ _ T3 m 25 #[iv q0, iv q1, iv q2, iv q3, iv q4, iv q5, rv a, iv (1 : Int32), iv oo, .unset] [(.int (1 : Int32))]
    refine gifNo X3 hx (hb hby at_25) (by decide) ?_
    show Gs p e below s _ _ _ T3 m 28 #[iv q0, iv q1, iv q2, iv q3, iv q4, iv q5, rv a, iv (1 : Int32), iv oo, .unset] []
    refine gaload X3 hx (hb hby at_28) rfl rfl ?_
    refine giloadN X3 hx (hb hby at_30) rfl ?_
    refine giconst X3 hx (hb hby at_31) ?_
    refine giand X3 hx (hb hby at_32) trivial ?_
    show Gs p e below s _ _ _ T3 m 33 #[iv q0, iv q1, iv q2, iv q3, iv q4, iv q5, rv a, iv (1 : Int32), iv oo, .unset] [(.int (q2 &&& (1 : Int32))), (.ref a)]
    have J16 : ∀ (ap : Int32), Goes p e below s (Q0 Z q0 q1 q2 q3 q4 q5 h0 n0) 16 128 (T3.setTop (mkF m 41 #[iv q0, iv q1, iv q2, iv q3, iv q4, iv q5, rv a, iv (1 : Int32), iv oo, .unset] [(.int ap), (.ref a)])) := by
      intro ap
      refine giload X3 hx (hb hby at_41) rfl ?_
      refine giloadN X3 hx (hb hby at_43) rfl ?_
      refine Goes.st (fun tg kg => XS.i2dS X3.here hx rfl (hb hby at_44) rfl (v := (FP.i2d q3)) rfl kg) ?_
      have HR17 : HR Z T3.heap a aI aT aP kI kT kP (fun _ => 0) (fun _ => 0) (fun _ => -1) (0 : Int32) (1 : Int32) := ⟨E4, FI4, FT4, FP4, FS4, FO4, VI4, VT4, VP4⟩
      obtain ⟨_, _, ⟨T18, L18, k18, n18⟩, -, X18, ⟨Lc18, hQ18, l18, y18, z18⟩, st18⟩ := Jvm.LawKit.callS X3 hx (y := mN11) hown (mvT hZ (hwk hw 41 rfl)) (mvT hZ (hwk hw 42 rfl)) (mvT hZ (hwk hw 43 rfl)) (mvT hZ (hwk hw 44 rfl)) (by decide) (backOf (W := 0) (rmW0 l Z a0 hw [] a aI aT aP kI kT kP (fun _ => 0) (fun _ => 0) (fun _ => -1) (1 : Int32) ap oo (FP.i2d q3) (fun _ => False) T3.heap n0 Z3 hB HR17 i4o inv15 (fun h => h) (i2d_fin _).noNaN) hZ (hwk hw 44 rfl) (hwk hw 43 rfl) (by decide) (by decide)) (g := (mkF m 45 #[iv q0, iv q1, iv q2, iv q3, iv q4, iv q5, rv a, iv (1 : Int32), iv oo, .unset] [(.double (FP.i2d q3)), (.int oo), (.int ap), (.ref a)])) rfl (by rw [hml]; rfl) (argsL := [(.ref a), (.int ap), (.int oo), (.double (FP.i2d q3))]) (rest := []) (lenOf pd__Lcom_example_redoubt_redoubt_engine_IndexHeap_ZID_V_601b rfl) rfl (by show 2 * 0 + _ ≤ _; exact Nat.le_of_eq rfl) (hb hby at_45) (fun _ _ => ⟨rfl, rfl, (by decide : 4 + 0 ≤ 16), (by decide : 17 + 0 ≤ 128)⟩)
      dsimp only [Pt.U, Pt.locs, Pt.cells, Pt.slots] at X18 l18 y18 z18 st18 hQ18
      subst l18 y18 z18
      obtain ⟨I18, D18, P18, o18, rfl, N18q, K18, HQ18, inv18⟩ := hQ18
      have Z18 : n0 ≤ T18.heap.size := Nat.le_trans Z3 K18.1
      obtain ⟨E20, FI20, FT20, FP20, FS20, FO20, VI20, VT20, VP20⟩ := id HQ18
      have N18 := Fr.app N3 N18q
      refine Goes.st st18 ?_
      show Gs p e below s _ _ _ T18 m 48 #[iv q0, iv q1, iv q2, iv q3, iv q4, iv q5, rv a, iv (1 : Int32), iv oo, .unset] []
      refine giload X18 hx (hb hby at_48) rfl ?_
      refine giconst X18 hx (hb hby at_50) ?_
      show Gs p e below s _ _ _ T18 m 51 #[iv q0, iv q1, iv q2, iv q3, iv q4, iv q5, rv a, iv (1 : Int32), iv oo, .unset] [(.int (1 : Int32)), (.int (1 : Int32))]
      refine gicmpYes X18 hx (pc' := 79) (hb hby at_51) (by decide) (by decide) (by decide) ?_
      show Gs p e below s _ _ _ T18 m 79 #[iv q0, iv q1, iv q2, iv q3, iv q4, iv q5, rv a, iv (1 : Int32), iv oo, .unset] []
      refine giload X18 hx (hb hby at_79) rfl ?_
      refine giconst X18 hx (hb hby at_81) ?_
      show Gs p e below s _ _ _ T18 m 82 #[iv q0, iv q1, iv q2, iv q3, iv q4, iv q5, rv a, iv (1 : Int32), iv oo, .unset] [(.int (2 : Int32)), (.int (1 : Int32))]
      refine gicmpYes X18 hx (pc' := 111) (hb hby at_82) (by decide) (by decide) (by decide) ?_
      show Gs p e below s _ _ _ T18 m 111 #[iv q0, iv q1, iv q2, iv q3, iv q4, iv q5, rv a, iv (1 : Int32), iv oo, .unset] []
      refine giload X18 hx (hb hby at_111) rfl ?_
      refine giconst X18 hx (hb hby at_113) ?_
      show Gs p e below s _ _ _ T18 m 114 #[iv q0, iv q1, iv q2, iv q3, iv q4, iv q5, rv a, iv (1 : Int32), iv oo, .unset] [(.int (3 : Int32)), (.int (1 : Int32))]
      refine gicmpYes X18 hx (pc' := 142) (hb hby at_114) (by decide) (by decide) (by decide) ?_
      show Gs p e below s _ _ _ T18 m 142 #[iv q0, iv q1, iv q2, iv q3, iv q4, iv q5, rv a, iv (1 : Int32), iv oo, .unset] []
      refine giloadN X18 hx (hb hby at_142) rfl ?_
      refine giconst X18 hx (hb hby at_143) ?_
      refine giand X18 hx (hb hby at_144) trivial ?_
      show Gs p e below s _ _ _ T18 m 145 #[iv q0, iv q1, iv q2, iv q3, iv q4, iv q5, rv a, iv (1 : Int32), iv oo, .unset] [(.int (q2 &&& (2 : Int32)))]
      by_cases c21 : (q2 &&& (2 : Int32)) = (0 : Int32)
      · refine gifYes X18 hx (pc' := 159) (hb hby at_145) ((if0 _ _).trans (teq c21).1) (by decide) (by decide) ?_
        show Gs p e below s _ _ _ T18 m 159 #[iv q0, iv q1, iv q2, iv q3, iv q4, iv q5, rv a, iv (1 : Int32), iv oo, .unset] []
        refine gaload X18 hx (hb hby at_159) rfl rfl ?_
        have HR22 : HR Z T18.heap a aI aT aP kI kT kP I18 D18 P18 (1 : Int32) o18 := ⟨E20, FI20, FT20, FP20, FS20, FO20, VI20, VT20, VP20⟩
        obtain ⟨cq23, kq23, qa23, qb23, qc23⟩ := isOf hZ rfl E20
        obtain ⟨_, _, ⟨T23, L23, k23, n23⟩, -, X23, ⟨Lc23, hQ23, l23, y23, z23⟩, st23⟩ := X18.virtualBack hx (y := mN16) (z := mN16) hown (mvT hZ (hwk hw 24 rfl)) (mvT hZ (hwk hw 25 rfl)) (notFace_of_selects (args := #[]) (mvT hZ (hwk hw 27 rfl))) (mvT hZ (hwk hw 27 rfl)) (mvT hZ (hwk hw 26 rfl)) (by decide) (backOf (W := 0) (rmC1 l Z a0 hw [] a aI aT aP kI kT kP I18 D18 P18 o18 (fun i => (fun _ => False) i ∨ i = oo) T18.heap n0 Z18 hB HR22 inv18) hZ (hwk hw 28 rfl) (hwk hw 2 rfl) (by decide) (by decide)) qa23 qc23 (g := (mkF m 161 #[iv q0, iv q1, iv q2, iv q3, iv q4, iv q5, rv a, iv (1 : Int32), iv oo, .unset] [(.ref a)])) rfl (by rw [hml]; rfl) (Steps.refl _) (argsL := []) (rest := []) (lenOf pd___V_566 rfl) rfl (by show 2 * 0 + _ ≤ _; exact Nat.le_of_eq rfl) (hb hby at_161) (fun _ _ => ⟨rfl, rfl, (by decide : 4 + 0 ≤ 16), (by decide : 17 + 0 ≤ 128)⟩)
        dsimp only [Pt.U, Pt.locs, Pt.cells, Pt.slots] at X23 l23 y23 z23 st23 hQ23
        subst l23 y23 z23
        obtain ⟨rfl, N23q, K23, HQ23⟩ := hQ23
        have Z23 : n0 ≤ T23.heap.size := Nat.le_trans Z18 K23.1
        obtain ⟨E25, FI25, FT25, FP25, FS25, FO25, VI25, VT25, VP25⟩ := id HQ23
        have N23 := Fr.app N18 N23q
        refine Goes.sts st23 ?_
        show Gs p e below s _ _ _ T23 m 164 #[iv q0, iv q1, iv q2, iv q3, iv q4, iv q5, rv a, iv (1 : Int32), iv oo, .unset] []
        exact tailS Z a0 hw hx hby hlk hret hml hown hnm hZ q0 q1 q2 q3 q4 q5 (1 : Int32) oo a aI aT aP kI kT kP I18 D18 h0 T23.heap n0 T23 _ X23 rfl N23 Z23 (fun _ _ N => ⟨rfl, N⟩) hB HQ23
      · refine gifNo X18 hx (hb hby at_145) ((if0 _ _).trans (feq c21).1) ?_
        show Gs p e below s _ _ _ T18 m 148 #[iv q0, iv q1, iv q2, iv q3, iv q4, iv q5, rv a, iv (1 : Int32), iv oo, .unset] []
        refine giload X18 hx (hb hby at_148) rfl ?_
        show Gs p e below s _ _ _ T18 m 150 #[iv q0, iv q1, iv q2, iv q3, iv q4, iv q5, rv a, iv (1 : Int32), iv oo, .unset] [(.int (1 : Int32))]
        refine gifNo X18 hx (hb hby at_150) (by decide) ?_
        show Gs p e below s _ _ _ T18 m 153 #[iv q0, iv q1, iv q2, iv q3, iv q4, iv q5, rv a, iv (1 : Int32), iv oo, .unset] []
        refine gaload X18 hx (hb hby at_153) rfl rfl ?_
        have HR26 : HR Z T18.heap a aI aT aP kI kT kP I18 D18 P18 (1 : Int32) o18 := ⟨E20, FI20, FT20, FP20, FS20, FO20, VI20, VT20, VP20⟩
        obtain ⟨cq27, kq27, qa27, qb27, qc27⟩ := isOf hZ rfl E20
        obtain ⟨_, _, ⟨T27, L27, k27, n27⟩, -, X27, ⟨Lc27, hQ27, l27, y27, z27⟩, st27⟩ := X18.virtualBack hx (y := mN15) (z := mN15) hown (mvT hZ (hwk hw 82 rfl)) (mvT hZ (hwk hw 83 rfl)) (notFace_of_selects (args := #[]) (mvT hZ (hwk hw 85 rfl))) (mvT hZ (hwk hw 85 rfl)) (mvT hZ (hwk hw 84 rfl)) (by decide) (backOf (W := 0) (rmP1 l Z a0 hw [] a aI aT aP kI kT kP I18 D18 P18 o18 (fun i => (fun _ => False) i ∨ i = oo) T18.heap n0 Z18 hB HR26 inv18) hZ (hwk hw 86 rfl) (hwk hw 2 rfl) (by decide) (by decide)) qa27 qc27 (g := (mkF m 155 #[iv q0, iv q1, iv q2, iv q3, iv q4, iv q5, rv a, iv (1 : Int32), iv oo, .unset] [(.ref a)])) rfl (by rw [hml]; rfl) (Steps.refl _) (argsL := []) (rest := []) (lenOf pd___I_4f1 rfl) rfl (by show 2 * 0 + _ ≤ _; exact Nat.le_of_eq rfl) (hb hby at_155) (fun _ _ => ⟨rfl, rfl, (by decide : 4 + 0 ≤ 16), (by decide : 17 + 0 ≤ 128)⟩)
        dsimp only [Pt.U, Pt.locs, Pt.cells, Pt.slots] at X27 l27 y27 z27 st27 hQ27
        subst l27 y27 z27
        obtain ⟨I27, D27, P27, o27, xr27, rfl, N27q, K27, HQ27, inv27⟩ := hQ27
        have Z27 : n0 ≤ T27.heap.size := Nat.le_trans Z18 K27.1
        obtain ⟨E29, FI29, FT29, FP29, FS29, FO29, VI29, VT29, VP29⟩ := id HQ27
        have N27 := Fr.app N18 N27q
        refine Goes.sts st27 ?_
        show Gs p e below s _ _ _ T27 m 158 #[iv q0, iv q1, iv q2, iv q3, iv q4, iv q5, rv a, iv (1 : Int32), iv oo, .unset] [(.int xr27)]
        refine Goes.st (fun tg kg => XT.pop X27.here hx rfl (hb hby at_158) rfl rfl kg) ?_
        show Gs p e below s _ _ _ T27 m 159 #[iv q0, iv q1, iv q2, iv q3, iv q4, iv q5, rv a, iv (1 : Int32), iv oo, .unset] []
        refine gaload X27 hx (hb hby at_159) rfl rfl ?_
        have HR30 : HR Z T27.heap a aI aT aP kI kT kP I27 D27 P27 (0 : Int32) o27 := ⟨E29, FI29, FT29, FP29, FS29, FO29, VI29, VT29, VP29⟩
        obtain ⟨cq31, kq31, qa31, qb31, qc31⟩ := isOf hZ rfl E29
        obtain ⟨_, _, ⟨T31, L31, k31, n31⟩, -, X31, ⟨Lc31, hQ31, l31, y31, z31⟩, st31⟩ := X27.virtualBack hx (y := mN16) (z := mN16) hown (mvT hZ (hwk hw 24 rfl)) (mvT hZ (hwk hw 25 rfl)) (notFace_of_selects (args := #[]) (mvT hZ (hwk hw 27 rfl))) (mvT hZ (hwk hw 27 rfl)) (mvT hZ (hwk hw 26 rfl)) (by decide) (backOf (W := 0) (rmC0 l Z a0 hw [] a aI aT aP kI kT kP I27 D27 P27 o27 (fun i => (fun _ => False) i ∨ i = oo) T27.heap n0 Z27 hB HR30 inv27) hZ (hwk hw 28 rfl) (hwk hw 2 rfl) (by decide) (by decide)) qa31 qc31 (g := (mkF m 161 #[iv q0, iv q1, iv q2, iv q3, iv q4, iv q5, rv a, iv (1 : Int32), iv oo, .unset] [(.ref a)])) rfl (by rw [hml]; rfl) (Steps.refl _) (argsL := []) (rest := []) (lenOf pd___V_566 rfl) rfl (by show 2 * 0 + _ ≤ _; exact Nat.le_of_eq rfl) (hb hby at_161) (fun _ _ => ⟨rfl, rfl, (by decide : 4 + 0 ≤ 16), (by decide : 17 + 0 ≤ 128)⟩)
        dsimp only [Pt.U, Pt.locs, Pt.cells, Pt.slots] at X31 l31 y31 z31 st31 hQ31
        subst l31 y31 z31
        obtain ⟨rfl, N31q, K31, HQ31⟩ := hQ31
        have Z31 : n0 ≤ T31.heap.size := Nat.le_trans Z27 K31.1
        obtain ⟨E33, FI33, FT33, FP33, FS33, FO33, VI33, VT33, VP33⟩ := id HQ31
        have N31 := Fr.app N27 N31q
        refine Goes.sts st31 ?_
        show Gs p e below s _ _ _ T31 m 164 #[iv q0, iv q1, iv q2, iv q3, iv q4, iv q5, rv a, iv (1 : Int32), iv oo, .unset] []
        exact tailS Z a0 hw hx hby hlk hret hml hown hnm hZ q0 q1 q2 q3 q4 q5 (1 : Int32) oo a aI aT aP kI kT kP I27 D27 h0 T31.heap n0 T31 _ X31 rfl N31 Z31 (fun _ _ N => ⟨rfl, N⟩) hB HQ31
    by_cases c34 : (q2 &&& (1 : Int32)) = (0 : Int32)
    · refine gifYes X3 hx (pc' := 40) (hb hby at_33) ((if0 _ _).trans (teq c34).1) (by decide) (by decide) ?_
      show Gs p e below s _ _ _ T3 m 40 #[iv q0, iv q1, iv q2, iv q3, iv q4, iv q5, rv a, iv (1 : Int32), iv oo, .unset] [(.ref a)]
      refine giconst X3 hx (hb hby at_40) ?_
      show Gs p e below s _ _ _ T3 m 41 #[iv q0, iv q1, iv q2, iv q3, iv q4, iv q5, rv a, iv (1 : Int32), iv oo, .unset] [(.int (0 : Int32)), (.ref a)]
      exact J16 _
    · refine gifNo X3 hx (hb hby at_33) ((if0 _ _).trans (feq c34).1) ?_
      show Gs p e below s _ _ _ T3 m 36 #[iv q0, iv q1, iv q2, iv q3, iv q4, iv q5, rv a, iv (1 : Int32), iv oo, .unset] [(.ref a)]
      refine giconst X3 hx (hb hby at_36) ?_
      show Gs p e below s _ _ _ T3 m 37 #[iv q0, iv q1, iv q2, iv q3, iv q4, iv q5, rv a, iv (1 : Int32), iv oo, .unset] [(.int (1 : Int32)), (.ref a)]
      refine ggoto X3 hx (pc' := 41) (hb hby at_37) (by decide) (by decide) ?_
      show Gs p e below s _ _ _ T3 m 41 #[iv q0, iv q1, iv q2, iv q3, iv q4, iv q5, rv a, iv (1 : Int32), iv oo, .unset] [(.int (1 : Int32)), (.ref a)]
      exact J16 _
  · rw [hk]
    show Gs p e below s _ _ _ T3 m 16 #[iv q0, iv q1, iv q2, iv q3, iv q4, iv q5, rv a, .unset, .unset, .unset] [(.int (2 : Int32))]
    refine gistore X3 hx (hb hby at_16) trivial (l' := #[iv q0, iv q1, iv q2, iv q3, iv q4, iv q5, rv a, iv (2 : Int32), .unset, .unset]) rfl ?_
    refine giloadN X3 hx (hb hby at_18) rfl ?_
    refine giconst X3 hx (hb hby at_19) ?_
    refine giand X3 hx (hb hby at_20) trivial ?_
    show Gs p e below s _ _ _ T3 m 21 #[iv q0, iv q1, iv q2, iv q3, iv q4, iv q5, rv a, iv (2 : Int32), .unset, .unset] [(.int (q1 &&& (3 : Int32)))]
    obtain ⟨oo, oo_eq⟩ : ∃ z : Int32, z = (q1 &&& (3 : Int32)) := ⟨_, rfl⟩
    rw [← oo_eq]
    show Gs p e below s _ _ _ T3 m 21 #[iv q0, iv q1, iv q2, iv q3, iv q4, iv q5, rv a, iv (2 : Int32), .unset, .unset] [(.int oo)]
    have i4o : In4 oo := by rw [oo_eq]; exact own_and3 _
    obtain ⟨ro1, ro2, ro3, ro4, ro5, ro6⟩ := own_ro i4o
    have inv35 : Inv 0 (fun _ => False) (fun _ => (0 : Int32)) (fun _ => (-1 : Int32)) := ⟨fun _ _ => i4_0, fun j hj h => absurd h (by rcases hj with rfl | rfl | rfl | rfl <;> decide), fun _ _ => Or.inl rfl⟩
    refine gistore X3 hx (hb hby at_21) trivial (l' := #[iv q0, iv q1, iv q2, iv q3, iv q4, iv q5, rv a, iv (2 : Int32), iv oo, .unset]) rfl ?_
    refine giload X3 hx (hb hby at_23) rfl ?_
    show Gs p e below s _ _ _ T3 m 25 #[iv q0, iv q1, iv q2, iv q3, iv q4, iv q5, rv a, iv (2 : Int32), iv oo, .unset] [(.int (2 : Int32))]
    refine gifNo X3 hx (hb hby at_25) (by decide) ?_
    show Gs p e below s _ _ _ T3 m 28 #[iv q0, iv q1, iv q2, iv q3, iv q4, iv q5, rv a, iv (2 : Int32), iv oo, .unset] []
    refine gaload X3 hx (hb hby at_28) rfl rfl ?_
    refine giloadN X3 hx (hb hby at_30) rfl ?_
    refine giconst X3 hx (hb hby at_31) ?_
    refine giand X3 hx (hb hby at_32) trivial ?_
    show Gs p e below s _ _ _ T3 m 33 #[iv q0, iv q1, iv q2, iv q3, iv q4, iv q5, rv a, iv (2 : Int32), iv oo, .unset] [(.int (q2 &&& (1 : Int32))), (.ref a)]
    have J36 : ∀ (ap : Int32), Goes p e below s (Q0 Z q0 q1 q2 q3 q4 q5 h0 n0) 16 128 (T3.setTop (mkF m 41 #[iv q0, iv q1, iv q2, iv q3, iv q4, iv q5, rv a, iv (2 : Int32), iv oo, .unset] [(.int ap), (.ref a)])) := by
      intro ap
      refine giload X3 hx (hb hby at_41) rfl ?_
      refine giloadN X3 hx (hb hby at_43) rfl ?_
      refine Goes.st (fun tg kg => XS.i2dS X3.here hx rfl (hb hby at_44) rfl (v := (FP.i2d q3)) rfl kg) ?_
      have HR37 : HR Z T3.heap a aI aT aP kI kT kP (fun _ => 0) (fun _ => 0) (fun _ => -1) (0 : Int32) (1 : Int32) := ⟨E4, FI4, FT4, FP4, FS4, FO4, VI4, VT4, VP4⟩
      obtain ⟨_, _, ⟨T38, L38, k38, n38⟩, -, X38, ⟨Lc38, hQ38, l38, y38, z38⟩, st38⟩ := Jvm.LawKit.callS X3 hx (y := mN11) hown (mvT hZ (hwk hw 41 rfl)) (mvT hZ (hwk hw 42 rfl)) (mvT hZ (hwk hw 43 rfl)) (mvT hZ (hwk hw 44 rfl)) (by decide) (backOf (W := 0) (rmW0 l Z a0 hw [] a aI aT aP kI kT kP (fun _ => 0) (fun _ => 0) (fun _ => -1) (1 : Int32) ap oo (FP.i2d q3) (fun _ => False) T3.heap n0 Z3 hB HR37 i4o inv35 (fun h => h) (i2d_fin _).noNaN) hZ (hwk hw 44 rfl) (hwk hw 43 rfl) (by decide) (by decide)) (g := (mkF m 45 #[iv q0, iv q1, iv q2, iv q3, iv q4, iv q5, rv a, iv (2 : Int32), iv oo, .unset] [(.double (FP.i2d q3)), (.int oo), (.int ap), (.ref a)])) rfl (by rw [hml]; rfl) (argsL := [(.ref a), (.int ap), (.int oo), (.double (FP.i2d q3))]) (rest := []) (lenOf pd__Lcom_example_redoubt_redoubt_engine_IndexHeap_ZID_V_601b rfl) rfl (by show 2 * 0 + _ ≤ _; exact Nat.le_of_eq rfl) (hb hby at_45) (fun _ _ => ⟨rfl, rfl, (by decide : 4 + 0 ≤ 16), (by decide : 17 + 0 ≤ 128)⟩)
      dsimp only [Pt.U, Pt.locs, Pt.cells, Pt.slots] at X38 l38 y38 z38 st38 hQ38
      subst l38 y38 z38
      obtain ⟨I38, D38, P38, o38, rfl, N38q, K38, HQ38, inv38⟩ := hQ38
      have Z38 : n0 ≤ T38.heap.size := Nat.le_trans Z3 K38.1
      obtain ⟨E40, FI40, FT40, FP40, FS40, FO40, VI40, VT40, VP40⟩ := id HQ38
      have N38 := Fr.app N3 N38q
      refine Goes.st st38 ?_
      show Gs p e below s _ _ _ T38 m 48 #[iv q0, iv q1, iv q2, iv q3, iv q4, iv q5, rv a, iv (2 : Int32), iv oo, .unset] []
      refine giload X38 hx (hb hby at_48) rfl ?_
      refine giconst X38 hx (hb hby at_50) ?_
      show Gs p e below s _ _ _ T38 m 51 #[iv q0, iv q1, iv q2, iv q3, iv q4, iv q5, rv a, iv (2 : Int32), iv oo, .unset] [(.int (1 : Int32)), (.int (2 : Int32))]
      refine gicmpNo X38 hx (hb hby at_51) (by decide) ?_
      show Gs p e below s _ _ _ T38 m 54 #[iv q0, iv q1, iv q2, iv q3, iv q4, iv q5, rv a, iv (2 : Int32), iv oo, .unset] []
      refine gaload X38 hx (hb hby at_54) rfl rfl ?_
      refine giloadN X38 hx (hb hby at_56) rfl ?_
      refine giconst X38 hx (hb hby at_57) ?_
      refine giand X38 hx (hb hby at_58) trivial ?_
      show Gs p e below s _ _ _ T38 m 59 #[iv q0, iv q1, iv q2, iv q3, iv q4, iv q5, rv a, iv (2 : Int32), iv oo, .unset] [(.int (q2 &&& (4 : Int32))), (.ref a)]
      have J41 : ∀ (ap : Int32), Goes p e below s (Q0 Z q0 q1 q2 q3 q4 q5 h0 n0) 16 128 (T38.setTop (mkF m 67 #[iv q0, iv q1, iv q2, iv q3, iv q4, iv q5, rv a, iv (2 : Int32), iv oo, .unset] [(.int ap), (.ref a)])) := by
        intro ap
        refine giload X38 hx (hb hby at_67) rfl ?_
        refine giconst X38 hx (hb hby at_69) ?_
        refine giadd X38 hx (hb hby at_70) trivial ?_
        refine giconst X38 hx (hb hby at_71) ?_
        refine giand X38 hx (hb hby at_72) trivial ?_
        show Gs p e below s _ _ _ T38 m 73 #[iv q0, iv q1, iv q2, iv q3, iv q4, iv q5, rv a, iv (2 : Int32), iv oo, .unset] [(.int ((oo + (1 : Int32)) &&& (3 : Int32))), (.int ap), (.ref a)]
        refine giload X38 hx (hb hby at_73) rfl ?_
        refine Goes.st (fun tg kg => XS.i2dS X38.here hx rfl (hb hby at_75) rfl (v := (FP.i2d q4)) rfl kg) ?_
        have HR42 : HR Z T38.heap a aI aT aP kI kT kP I38 D38 P38 (1 : Int32) o38 := ⟨E40, FI40, FT40, FP40, FS40, FO40, VI40, VT40, VP40⟩
        obtain ⟨_, _, ⟨T43, L43, k43, n43⟩, -, X43, ⟨Lc43, hQ43, l43, y43, z43⟩, st43⟩ := Jvm.LawKit.callS X38 hx (y := mN11) hown (mvT hZ (hwk hw 41 rfl)) (mvT hZ (hwk hw 42 rfl)) (mvT hZ (hwk hw 43 rfl)) (mvT hZ (hwk hw 44 rfl)) (by decide) (backOf (W := 0) (rmW1 l Z a0 hw [] a aI aT aP kI kT kP I38 D38 P38 o38 ap ((oo + (1 : Int32)) &&& (3 : Int32)) (FP.i2d q4) (fun i => (fun _ => False) i ∨ i = oo) T38.heap n0 Z38 hB HR42 (own_and3 _) inv38 (fun h => h.elim (fun f => f) ro1) (i2d_fin _).noNaN) hZ (hwk hw 44 rfl) (hwk hw 43 rfl) (by decide) (by decide)) (g := (mkF m 76 #[iv q0, iv q1, iv q2, iv q3, iv q4, iv q5, rv a, iv (2 : Int32), iv oo, .unset] [(.double (FP.i2d q4)), (.int ((oo + (1 : Int32)) &&& (3 : Int32))), (.int ap), (.ref a)])) rfl (by rw [hml]; rfl) (argsL := [(.ref a), (.int ap), (.int ((oo + (1 : Int32)) &&& (3 : Int32))), (.double (FP.i2d q4))]) (rest := []) (lenOf pd__Lcom_example_redoubt_redoubt_engine_IndexHeap_ZID_V_601b rfl) rfl (by show 2 * 0 + _ ≤ _; exact Nat.le_of_eq rfl) (hb hby at_76) (fun _ _ => ⟨rfl, rfl, (by decide : 4 + 0 ≤ 16), (by decide : 17 + 0 ≤ 128)⟩)
        dsimp only [Pt.U, Pt.locs, Pt.cells, Pt.slots] at X43 l43 y43 z43 st43 hQ43
        subst l43 y43 z43
        obtain ⟨I43, D43, P43, o43, rfl, N43q, K43, HQ43, inv43⟩ := hQ43
        have Z43 : n0 ≤ T43.heap.size := Nat.le_trans Z38 K43.1
        obtain ⟨E45, FI45, FT45, FP45, FS45, FO45, VI45, VT45, VP45⟩ := id HQ43
        have N43 := Fr.app N38 N43q
        refine Goes.st st43 ?_
        show Gs p e below s _ _ _ T43 m 79 #[iv q0, iv q1, iv q2, iv q3, iv q4, iv q5, rv a, iv (2 : Int32), iv oo, .unset] []
        refine giload X43 hx (hb hby at_79) rfl ?_
        refine giconst X43 hx (hb hby at_81) ?_
        show Gs p e below s _ _ _ T43 m 82 #[iv q0, iv q1, iv q2, iv q3, iv q4, iv q5, rv a, iv (2 : Int32), iv oo, .unset] [(.int (2 : Int32)), (.int (2 : Int32))]
        refine gicmpYes X43 hx (pc' := 111) (hb hby at_82) (by decide) (by decide) (by decide) ?_
        show Gs p e below s _ _ _ T43 m 111 #[iv q0, iv q1, iv q2, iv q3, iv q4, iv q5, rv a, iv (2 : Int32), iv oo, .unset] []
        refine giload X43 hx (hb hby at_111) rfl ?_
        refine giconst X43 hx (hb hby at_113) ?_
        show Gs p e below s _ _ _ T43 m 114 #[iv q0, iv q1, iv q2, iv q3, iv q4, iv q5, rv a, iv (2 : Int32), iv oo, .unset] [(.int (3 : Int32)), (.int (2 : Int32))]
        refine gicmpYes X43 hx (pc' := 142) (hb hby at_114) (by decide) (by decide) (by decide) ?_
        show Gs p e below s _ _ _ T43 m 142 #[iv q0, iv q1, iv q2, iv q3, iv q4, iv q5, rv a, iv (2 : Int32), iv oo, .unset] []
        refine giloadN X43 hx (hb hby at_142) rfl ?_
        refine giconst X43 hx (hb hby at_143) ?_
        refine giand X43 hx (hb hby at_144) trivial ?_
        show Gs p e below s _ _ _ T43 m 145 #[iv q0, iv q1, iv q2, iv q3, iv q4, iv q5, rv a, iv (2 : Int32), iv oo, .unset] [(.int (q2 &&& (2 : Int32)))]
        by_cases c46 : (q2 &&& (2 : Int32)) = (0 : Int32)
        · refine gifYes X43 hx (pc' := 159) (hb hby at_145) ((if0 _ _).trans (teq c46).1) (by decide) (by decide) ?_
          show Gs p e below s _ _ _ T43 m 159 #[iv q0, iv q1, iv q2, iv q3, iv q4, iv q5, rv a, iv (2 : Int32), iv oo, .unset] []
          refine gaload X43 hx (hb hby at_159) rfl rfl ?_
          have HR47 : HR Z T43.heap a aI aT aP kI kT kP I43 D43 P43 (2 : Int32) o43 := ⟨E45, FI45, FT45, FP45, FS45, FO45, VI45, VT45, VP45⟩
          obtain ⟨cq48, kq48, qa48, qb48, qc48⟩ := isOf hZ rfl E45
          obtain ⟨_, _, ⟨T48, L48, k48, n48⟩, -, X48, ⟨Lc48, hQ48, l48, y48, z48⟩, st48⟩ := X43.virtualBack hx (y := mN16) (z := mN16) hown (mvT hZ (hwk hw 24 rfl)) (mvT hZ (hwk hw 25 rfl)) (notFace_of_selects (args := #[]) (mvT hZ (hwk hw 27 rfl))) (mvT hZ (hwk hw 27 rfl)) (mvT hZ (hwk hw 26 rfl)) (by decide) (backOf (W := 0) (rmC2 l Z a0 hw [] a aI aT aP kI kT kP I43 D43 P43 o43 (fun i => (fun i => (fun _ => False) i ∨ i = oo) i ∨ i = ((oo + (1 : Int32)) &&& (3 : Int32))) T43.heap n0 Z43 hB HR47 inv43) hZ (hwk hw 28 rfl) (hwk hw 2 rfl) (by decide) (by decide)) qa48 qc48 (g := (mkF m 161 #[iv q0, iv q1, iv q2, iv q3, iv q4, iv q5, rv a, iv (2 : Int32), iv oo, .unset] [(.ref a)])) rfl (by rw [hml]; rfl) (Steps.refl _) (argsL := []) (rest := []) (lenOf pd___V_566 rfl) rfl (by show 2 * 0 + _ ≤ _; exact Nat.le_of_eq rfl) (hb hby at_161) (fun _ _ => ⟨rfl, rfl, (by decide : 4 + 0 ≤ 16), (by decide : 17 + 0 ≤ 128)⟩)
          dsimp only [Pt.U, Pt.locs, Pt.cells, Pt.slots] at X48 l48 y48 z48 st48 hQ48
          subst l48 y48 z48
          obtain ⟨rfl, N48q, K48, HQ48⟩ := hQ48
          have Z48 : n0 ≤ T48.heap.size := Nat.le_trans Z43 K48.1
          obtain ⟨E50, FI50, FT50, FP50, FS50, FO50, VI50, VT50, VP50⟩ := id HQ48
          have N48 := Fr.app N43 N48q
          refine Goes.sts st48 ?_
          show Gs p e below s _ _ _ T48 m 164 #[iv q0, iv q1, iv q2, iv q3, iv q4, iv q5, rv a, iv (2 : Int32), iv oo, .unset] []
          exact tailS Z a0 hw hx hby hlk hret hml hown hnm hZ q0 q1 q2 q3 q4 q5 (2 : Int32) oo a aI aT aP kI kT kP I43 D43 h0 T48.heap n0 T48 _ X48 rfl N48 Z48 (fun _ _ N => ⟨rfl, N⟩) hB HQ48
        · refine gifNo X43 hx (hb hby at_145) ((if0 _ _).trans (feq c46).1) ?_
          show Gs p e below s _ _ _ T43 m 148 #[iv q0, iv q1, iv q2, iv q3, iv q4, iv q5, rv a, iv (2 : Int32), iv oo, .unset] []
          refine giload X43 hx (hb hby at_148) rfl ?_
          show Gs p e below s _ _ _ T43 m 150 #[iv q0, iv q1, iv q2, iv q3, iv q4, iv q5, rv a, iv (2 : Int32), iv oo, .unset] [(.int (2 : Int32))]
          refine gifNo X43 hx (hb hby at_150) (by decide) ?_
          show Gs p e below s _ _ _ T43 m 153 #[iv q0, iv q1, iv q2, iv q3, iv q4, iv q5, rv a, iv (2 : Int32), iv oo, .unset] []
          refine gaload X43 hx (hb hby at_153) rfl rfl ?_
          have HR51 : HR Z T43.heap a aI aT aP kI kT kP I43 D43 P43 (2 : Int32) o43 := ⟨E45, FI45, FT45, FP45, FS45, FO45, VI45, VT45, VP45⟩
          obtain ⟨cq52, kq52, qa52, qb52, qc52⟩ := isOf hZ rfl E45
          obtain ⟨_, _, ⟨T52, L52, k52, n52⟩, -, X52, ⟨Lc52, hQ52, l52, y52, z52⟩, st52⟩ := X43.virtualBack hx (y := mN15) (z := mN15) hown (mvT hZ (hwk hw 82 rfl)) (mvT hZ (hwk hw 83 rfl)) (notFace_of_selects (args := #[]) (mvT hZ (hwk hw 85 rfl))) (mvT hZ (hwk hw 85 rfl)) (mvT hZ (hwk hw 84 rfl)) (by decide) (backOf (W := 0) (rmP2 l Z a0 hw [] a aI aT aP kI kT kP I43 D43 P43 o43 (fun i => (fun i => (fun _ => False) i ∨ i = oo) i ∨ i = ((oo + (1 : Int32)) &&& (3 : Int32))) T43.heap n0 Z43 hB HR51 inv43) hZ (hwk hw 86 rfl) (hwk hw 2 rfl) (by decide) (by decide)) qa52 qc52 (g := (mkF m 155 #[iv q0, iv q1, iv q2, iv q3, iv q4, iv q5, rv a, iv (2 : Int32), iv oo, .unset] [(.ref a)])) rfl (by rw [hml]; rfl) (Steps.refl _) (argsL := []) (rest := []) (lenOf pd___I_4f1 rfl) rfl (by show 2 * 0 + _ ≤ _; exact Nat.le_of_eq rfl) (hb hby at_155) (fun _ _ => ⟨rfl, rfl, (by decide : 4 + 0 ≤ 16), (by decide : 17 + 0 ≤ 128)⟩)
          dsimp only [Pt.U, Pt.locs, Pt.cells, Pt.slots] at X52 l52 y52 z52 st52 hQ52
          subst l52 y52 z52
          obtain ⟨I52, D52, P52, o52, xr52, rfl, N52q, K52, HQ52, inv52⟩ := hQ52
          have Z52 : n0 ≤ T52.heap.size := Nat.le_trans Z43 K52.1
          obtain ⟨E54, FI54, FT54, FP54, FS54, FO54, VI54, VT54, VP54⟩ := id HQ52
          have N52 := Fr.app N43 N52q
          refine Goes.sts st52 ?_
          show Gs p e below s _ _ _ T52 m 158 #[iv q0, iv q1, iv q2, iv q3, iv q4, iv q5, rv a, iv (2 : Int32), iv oo, .unset] [(.int xr52)]
          refine Goes.st (fun tg kg => XT.pop X52.here hx rfl (hb hby at_158) rfl rfl kg) ?_
          show Gs p e below s _ _ _ T52 m 159 #[iv q0, iv q1, iv q2, iv q3, iv q4, iv q5, rv a, iv (2 : Int32), iv oo, .unset] []
          refine gaload X52 hx (hb hby at_159) rfl rfl ?_
          have HR55 : HR Z T52.heap a aI aT aP kI kT kP I52 D52 P52 (1 : Int32) o52 := ⟨E54, FI54, FT54, FP54, FS54, FO54, VI54, VT54, VP54⟩
          obtain ⟨cq56, kq56, qa56, qb56, qc56⟩ := isOf hZ rfl E54
          obtain ⟨_, _, ⟨T56, L56, k56, n56⟩, -, X56, ⟨Lc56, hQ56, l56, y56, z56⟩, st56⟩ := X52.virtualBack hx (y := mN16) (z := mN16) hown (mvT hZ (hwk hw 24 rfl)) (mvT hZ (hwk hw 25 rfl)) (notFace_of_selects (args := #[]) (mvT hZ (hwk hw 27 rfl))) (mvT hZ (hwk hw 27 rfl)) (mvT hZ (hwk hw 26 rfl)) (by decide) (backOf (W := 0) (rmC1 l Z a0 hw [] a aI aT aP kI kT kP I52 D52 P52 o52 (fun i => (fun i => (fun _ => False) i ∨ i = oo) i ∨ i = ((oo + (1 : Int32)) &&& (3 : Int32))) T52.heap n0 Z52 hB HR55 inv52) hZ (hwk hw 28 rfl) (hwk hw 2 rfl) (by decide) (by decide)) qa56 qc56 (g := (mkF m 161 #[iv q0, iv q1, iv q2, iv q3, iv q4, iv q5, rv a, iv (2 : Int32), iv oo, .unset] [(.ref a)])) rfl (by rw [hml]; rfl) (Steps.refl _) (argsL := []) (rest := []) (lenOf pd___V_566 rfl) rfl (by show 2 * 0 + _ ≤ _; exact Nat.le_of_eq rfl) (hb hby at_161) (fun _ _ => ⟨rfl, rfl, (by decide : 4 + 0 ≤ 16), (by decide : 17 + 0 ≤ 128)⟩)
          dsimp only [Pt.U, Pt.locs, Pt.cells, Pt.slots] at X56 l56 y56 z56 st56 hQ56
          subst l56 y56 z56
          obtain ⟨rfl, N56q, K56, HQ56⟩ := hQ56
          have Z56 : n0 ≤ T56.heap.size := Nat.le_trans Z52 K56.1
          obtain ⟨E58, FI58, FT58, FP58, FS58, FO58, VI58, VT58, VP58⟩ := id HQ56
          have N56 := Fr.app N52 N56q
          refine Goes.sts st56 ?_
          show Gs p e below s _ _ _ T56 m 164 #[iv q0, iv q1, iv q2, iv q3, iv q4, iv q5, rv a, iv (2 : Int32), iv oo, .unset] []
          exact tailS Z a0 hw hx hby hlk hret hml hown hnm hZ q0 q1 q2 q3 q4 q5 (2 : Int32) oo a aI aT aP kI kT kP I52 D52 h0 T56.heap n0 T56 _ X56 rfl N56 Z56 (fun _ _ N => ⟨rfl, N⟩) hB HQ56
      by_cases c59 : (q2 &&& (4 : Int32)) = (0 : Int32)
      · refine gifYes X38 hx (pc' := 66) (hb hby at_59) ((if0 _ _).trans (teq c59).1) (by decide) (by decide) ?_
        show Gs p e below s _ _ _ T38 m 66 #[iv q0, iv q1, iv q2, iv q3, iv q4, iv q5, rv a, iv (2 : Int32), iv oo, .unset] [(.ref a)]
        refine giconst X38 hx (hb hby at_66) ?_
        show Gs p e below s _ _ _ T38 m 67 #[iv q0, iv q1, iv q2, iv q3, iv q4, iv q5, rv a, iv (2 : Int32), iv oo, .unset] [(.int (0 : Int32)), (.ref a)]
        exact J41 _
      · refine gifNo X38 hx (hb hby at_59) ((if0 _ _).trans (feq c59).1) ?_
        show Gs p e below s _ _ _ T38 m 62 #[iv q0, iv q1, iv q2, iv q3, iv q4, iv q5, rv a, iv (2 : Int32), iv oo, .unset] [(.ref a)]
        refine giconst X38 hx (hb hby at_62) ?_
        show Gs p e below s _ _ _ T38 m 63 #[iv q0, iv q1, iv q2, iv q3, iv q4, iv q5, rv a, iv (2 : Int32), iv oo, .unset] [(.int (1 : Int32)), (.ref a)]
        refine ggoto X38 hx (pc' := 67) (hb hby at_63) (by decide) (by decide) ?_
        show Gs p e below s _ _ _ T38 m 67 #[iv q0, iv q1, iv q2, iv q3, iv q4, iv q5, rv a, iv (2 : Int32), iv oo, .unset] [(.int (1 : Int32)), (.ref a)]
        exact J41 _
    by_cases c60 : (q2 &&& (1 : Int32)) = (0 : Int32)
    · refine gifYes X3 hx (pc' := 40) (hb hby at_33) ((if0 _ _).trans (teq c60).1) (by decide) (by decide) ?_
      show Gs p e below s _ _ _ T3 m 40 #[iv q0, iv q1, iv q2, iv q3, iv q4, iv q5, rv a, iv (2 : Int32), iv oo, .unset] [(.ref a)]
      refine giconst X3 hx (hb hby at_40) ?_
      show Gs p e below s _ _ _ T3 m 41 #[iv q0, iv q1, iv q2, iv q3, iv q4, iv q5, rv a, iv (2 : Int32), iv oo, .unset] [(.int (0 : Int32)), (.ref a)]
      exact J36 _
    · refine gifNo X3 hx (hb hby at_33) ((if0 _ _).trans (feq c60).1) ?_
      show Gs p e below s _ _ _ T3 m 36 #[iv q0, iv q1, iv q2, iv q3, iv q4, iv q5, rv a, iv (2 : Int32), iv oo, .unset] [(.ref a)]
      refine giconst X3 hx (hb hby at_36) ?_
      show Gs p e below s _ _ _ T3 m 37 #[iv q0, iv q1, iv q2, iv q3, iv q4, iv q5, rv a, iv (2 : Int32), iv oo, .unset] [(.int (1 : Int32)), (.ref a)]
      refine ggoto X3 hx (pc' := 41) (hb hby at_37) (by decide) (by decide) ?_
      show Gs p e below s _ _ _ T3 m 41 #[iv q0, iv q1, iv q2, iv q3, iv q4, iv q5, rv a, iv (2 : Int32), iv oo, .unset] [(.int (1 : Int32)), (.ref a)]
      exact J36 _
  · rw [hk]
    show Gs p e below s _ _ _ T3 m 16 #[iv q0, iv q1, iv q2, iv q3, iv q4, iv q5, rv a, .unset, .unset, .unset] [(.int (3 : Int32))]
    refine gistore X3 hx (hb hby at_16) trivial (l' := #[iv q0, iv q1, iv q2, iv q3, iv q4, iv q5, rv a, iv (3 : Int32), .unset, .unset]) rfl ?_
    refine giloadN X3 hx (hb hby at_18) rfl ?_
    refine giconst X3 hx (hb hby at_19) ?_
    refine giand X3 hx (hb hby at_20) trivial ?_
    show Gs p e below s _ _ _ T3 m 21 #[iv q0, iv q1, iv q2, iv q3, iv q4, iv q5, rv a, iv (3 : Int32), .unset, .unset] [(.int (q1 &&& (3 : Int32)))]
    obtain ⟨oo, oo_eq⟩ : ∃ z : Int32, z = (q1 &&& (3 : Int32)) := ⟨_, rfl⟩
    rw [← oo_eq]
    show Gs p e below s _ _ _ T3 m 21 #[iv q0, iv q1, iv q2, iv q3, iv q4, iv q5, rv a, iv (3 : Int32), .unset, .unset] [(.int oo)]
    have i4o : In4 oo := by rw [oo_eq]; exact own_and3 _
    obtain ⟨ro1, ro2, ro3, ro4, ro5, ro6⟩ := own_ro i4o
    have inv61 : Inv 0 (fun _ => False) (fun _ => (0 : Int32)) (fun _ => (-1 : Int32)) := ⟨fun _ _ => i4_0, fun j hj h => absurd h (by rcases hj with rfl | rfl | rfl | rfl <;> decide), fun _ _ => Or.inl rfl⟩
    refine gistore X3 hx (hb hby at_21) trivial (l' := #[iv q0, iv q1, iv q2, iv q3, iv q4, iv q5, rv a, iv (3 : Int32), iv oo, .unset]) rfl ?_
    refine giload X3 hx (hb hby at_23) rfl ?_
    show Gs p e below s _ _ _ T3 m 25 #[iv q0, iv q1, iv q2, iv q3, iv q4, iv q5, rv a, iv (3 : Int32), iv oo, .unset] [(.int (3 : Int32))]
    refine gifNo X3 hx (hb hby at_25) (by decide) ?_
    show Gs p e below s _ _ _ T3 m 28 #[iv q0, iv q1, iv q2, iv q3, iv q4, iv q5, rv a, iv (3 : Int32), iv oo, .unset] []
    refine gaload X3 hx (hb hby at_28) rfl rfl ?_
    refine giloadN X3 hx (hb hby at_30) rfl ?_
    refine giconst X3 hx (hb hby at_31) ?_
    refine giand X3 hx (hb hby at_32) trivial ?_
    show Gs p e below s _ _ _ T3 m 33 #[iv q0, iv q1, iv q2, iv q3, iv q4, iv q5, rv a, iv (3 : Int32), iv oo, .unset] [(.int (q2 &&& (1 : Int32))), (.ref a)]
    have J62 : ∀ (ap : Int32), Goes p e below s (Q0 Z q0 q1 q2 q3 q4 q5 h0 n0) 16 128 (T3.setTop (mkF m 41 #[iv q0, iv q1, iv q2, iv q3, iv q4, iv q5, rv a, iv (3 : Int32), iv oo, .unset] [(.int ap), (.ref a)])) := by
      intro ap
      refine giload X3 hx (hb hby at_41) rfl ?_
      refine giloadN X3 hx (hb hby at_43) rfl ?_
      refine Goes.st (fun tg kg => XS.i2dS X3.here hx rfl (hb hby at_44) rfl (v := (FP.i2d q3)) rfl kg) ?_
      have HR63 : HR Z T3.heap a aI aT aP kI kT kP (fun _ => 0) (fun _ => 0) (fun _ => -1) (0 : Int32) (1 : Int32) := ⟨E4, FI4, FT4, FP4, FS4, FO4, VI4, VT4, VP4⟩
      obtain ⟨_, _, ⟨T64, L64, k64, n64⟩, -, X64, ⟨Lc64, hQ64, l64, y64, z64⟩, st64⟩ := Jvm.LawKit.callS X3 hx (y := mN11) hown (mvT hZ (hwk hw 41 rfl)) (mvT hZ (hwk hw 42 rfl)) (mvT hZ (hwk hw 43 rfl)) (mvT hZ (hwk hw 44 rfl)) (by decide) (backOf (W := 0) (rmW0 l Z a0 hw [] a aI aT aP kI kT kP (fun _ => 0) (fun _ => 0) (fun _ => -1) (1 : Int32) ap oo (FP.i2d q3) (fun _ => False) T3.heap n0 Z3 hB HR63 i4o inv61 (fun h => h) (i2d_fin _).noNaN) hZ (hwk hw 44 rfl) (hwk hw 43 rfl) (by decide) (by decide)) (g := (mkF m 45 #[iv q0, iv q1, iv q2, iv q3, iv q4, iv q5, rv a, iv (3 : Int32), iv oo, .unset] [(.double (FP.i2d q3)), (.int oo), (.int ap), (.ref a)])) rfl (by rw [hml]; rfl) (argsL := [(.ref a), (.int ap), (.int oo), (.double (FP.i2d q3))]) (rest := []) (lenOf pd__Lcom_example_redoubt_redoubt_engine_IndexHeap_ZID_V_601b rfl) rfl (by show 2 * 0 + _ ≤ _; exact Nat.le_of_eq rfl) (hb hby at_45) (fun _ _ => ⟨rfl, rfl, (by decide : 4 + 0 ≤ 16), (by decide : 17 + 0 ≤ 128)⟩)
      dsimp only [Pt.U, Pt.locs, Pt.cells, Pt.slots] at X64 l64 y64 z64 st64 hQ64
      subst l64 y64 z64
      obtain ⟨I64, D64, P64, o64, rfl, N64q, K64, HQ64, inv64⟩ := hQ64
      have Z64 : n0 ≤ T64.heap.size := Nat.le_trans Z3 K64.1
      obtain ⟨E66, FI66, FT66, FP66, FS66, FO66, VI66, VT66, VP66⟩ := id HQ64
      have N64 := Fr.app N3 N64q
      refine Goes.st st64 ?_
      show Gs p e below s _ _ _ T64 m 48 #[iv q0, iv q1, iv q2, iv q3, iv q4, iv q5, rv a, iv (3 : Int32), iv oo, .unset] []
      refine giload X64 hx (hb hby at_48) rfl ?_
      refine giconst X64 hx (hb hby at_50) ?_
      show Gs p e below s _ _ _ T64 m 51 #[iv q0, iv q1, iv q2, iv q3, iv q4, iv q5, rv a, iv (3 : Int32), iv oo, .unset] [(.int (1 : Int32)), (.int (3 : Int32))]
      refine gicmpNo X64 hx (hb hby at_51) (by decide) ?_
      show Gs p e below s _ _ _ T64 m 54 #[iv q0, iv q1, iv q2, iv q3, iv q4, iv q5, rv a, iv (3 : Int32), iv oo, .unset] []
      refine gaload X64 hx (hb hby at_54) rfl rfl ?_
      refine giloadN X64 hx (hb hby at_56) rfl ?_
      refine giconst X64 hx (hb hby at_57) ?_
      refine giand X64 hx (hb hby at_58) trivial ?_
      show Gs p e below s _ _ _ T64 m 59 #[iv q0, iv q1, iv q2, iv q3, iv q4, iv q5, rv a, iv (3 : Int32), iv oo, .unset] [(.int (q2 &&& (4 : Int32))), (.ref a)]
      have J67 : ∀ (ap : Int32), Goes p e below s (Q0 Z q0 q1 q2 q3 q4 q5 h0 n0) 16 128 (T64.setTop (mkF m 67 #[iv q0, iv q1, iv q2, iv q3, iv q4, iv q5, rv a, iv (3 : Int32), iv oo, .unset] [(.int ap), (.ref a)])) := by
        intro ap
        refine giload X64 hx (hb hby at_67) rfl ?_
        refine giconst X64 hx (hb hby at_69) ?_
        refine giadd X64 hx (hb hby at_70) trivial ?_
        refine giconst X64 hx (hb hby at_71) ?_
        refine giand X64 hx (hb hby at_72) trivial ?_
        show Gs p e below s _ _ _ T64 m 73 #[iv q0, iv q1, iv q2, iv q3, iv q4, iv q5, rv a, iv (3 : Int32), iv oo, .unset] [(.int ((oo + (1 : Int32)) &&& (3 : Int32))), (.int ap), (.ref a)]
        refine giload X64 hx (hb hby at_73) rfl ?_
        refine Goes.st (fun tg kg => XS.i2dS X64.here hx rfl (hb hby at_75) rfl (v := (FP.i2d q4)) rfl kg) ?_
        have HR68 : HR Z T64.heap a aI aT aP kI kT kP I64 D64 P64 (1 : Int32) o64 := ⟨E66, FI66, FT66, FP66, FS66, FO66, VI66, VT66, VP66⟩
        obtain ⟨_, _, ⟨T69, L69, k69, n69⟩, -, X69, ⟨Lc69, hQ69, l69, y69, z69⟩, st69⟩ := Jvm.LawKit.callS X64 hx (y := mN11) hown (mvT hZ (hwk hw 41 rfl)) (mvT hZ (hwk hw 42 rfl)) (mvT hZ (hwk hw 43 rfl)) (mvT hZ (hwk hw 44 rfl)) (by decide) (backOf (W := 0) (rmW1 l Z a0 hw [] a aI aT aP kI kT kP I64 D64 P64 o64 ap ((oo + (1 : Int32)) &&& (3 : Int32)) (FP.i2d q4) (fun i => (fun _ => False) i ∨ i = oo) T64.heap n0 Z64 hB HR68 (own_and3 _) inv64 (fun h => h.elim (fun f => f) ro1) (i2d_fin _).noNaN) hZ (hwk hw 44 rfl) (hwk hw 43 rfl) (by decide) (by decide)) (g := (mkF m 76 #[iv q0, iv q1, iv q2, iv q3, iv q4, iv q5, rv a, iv (3 : Int32), iv oo, .unset] [(.double (FP.i2d q4)), (.int ((oo + (1 : Int32)) &&& (3 : Int32))), (.int ap), (.ref a)])) rfl (by rw [hml]; rfl) (argsL := [(.ref a), (.int ap), (.int ((oo + (1 : Int32)) &&& (3 : Int32))), (.double (FP.i2d q4))]) (rest := []) (lenOf pd__Lcom_example_redoubt_redoubt_engine_IndexHeap_ZID_V_601b rfl) rfl (by show 2 * 0 + _ ≤ _; exact Nat.le_of_eq rfl) (hb hby at_76) (fun _ _ => ⟨rfl, rfl, (by decide : 4 + 0 ≤ 16), (by decide : 17 + 0 ≤ 128)⟩)
        dsimp only [Pt.U, Pt.locs, Pt.cells, Pt.slots] at X69 l69 y69 z69 st69 hQ69
        subst l69 y69 z69
        obtain ⟨I69, D69, P69, o69, rfl, N69q, K69, HQ69, inv69⟩ := hQ69
        have Z69 : n0 ≤ T69.heap.size := Nat.le_trans Z64 K69.1
        obtain ⟨E71, FI71, FT71, FP71, FS71, FO71, VI71, VT71, VP71⟩ := id HQ69
        have N69 := Fr.app N64 N69q
        refine Goes.st st69 ?_
        show Gs p e below s _ _ _ T69 m 79 #[iv q0, iv q1, iv q2, iv q3, iv q4, iv q5, rv a, iv (3 : Int32), iv oo, .unset] []
        refine giload X69 hx (hb hby at_79) rfl ?_
        refine giconst X69 hx (hb hby at_81) ?_
        show Gs p e below s _ _ _ T69 m 82 #[iv q0, iv q1, iv q2, iv q3, iv q4, iv q5, rv a, iv (3 : Int32), iv oo, .unset] [(.int (2 : Int32)), (.int (3 : Int32))]
        refine gicmpNo X69 hx (hb hby at_82) (by decide) ?_
        show Gs p e below s _ _ _ T69 m 85 #[iv q0, iv q1, iv q2, iv q3, iv q4, iv q5, rv a, iv (3 : Int32), iv oo, .unset] []
        refine gaload X69 hx (hb hby at_85) rfl rfl ?_
        refine giloadN X69 hx (hb hby at_87) rfl ?_
        refine Goes.st (fun tg kg => XS.bipush X69.here hx rfl (hb hby at_88) kg) ?_
        refine giand X69 hx (hb hby at_90) trivial ?_
        show Gs p e below s _ _ _ T69 m 91 #[iv q0, iv q1, iv q2, iv q3, iv q4, iv q5, rv a, iv (3 : Int32), iv oo, .unset] [(.int (q2 &&& (8 : Int32))), (.ref a)]
        have J72 : ∀ (ap : Int32), Goes p e below s (Q0 Z q0 q1 q2 q3 q4 q5 h0 n0) 16 128 (T69.setTop (mkF m 99 #[iv q0, iv q1, iv q2, iv q3, iv q4, iv q5, rv a, iv (3 : Int32), iv oo, .unset] [(.int ap), (.ref a)])) := by
          intro ap
          refine giload X69 hx (hb hby at_99) rfl ?_
          refine giconst X69 hx (hb hby at_101) ?_
          refine giadd X69 hx (hb hby at_102) trivial ?_
          refine giconst X69 hx (hb hby at_103) ?_
          refine giand X69 hx (hb hby at_104) trivial ?_
          show Gs p e below s _ _ _ T69 m 105 #[iv q0, iv q1, iv q2, iv q3, iv q4, iv q5, rv a, iv (3 : Int32), iv oo, .unset] [(.int ((oo + (2 : Int32)) &&& (3 : Int32))), (.int ap), (.ref a)]
          refine giload X69 hx (hb hby at_105) rfl ?_
          refine Goes.st (fun tg kg => XS.i2dS X69.here hx rfl (hb hby at_107) rfl (v := (FP.i2d q5)) rfl kg) ?_
          have HR73 : HR Z T69.heap a aI aT aP kI kT kP I69 D69 P69 (2 : Int32) o69 := ⟨E71, FI71, FT71, FP71, FS71, FO71, VI71, VT71, VP71⟩
          obtain ⟨_, _, ⟨T74, L74, k74, n74⟩, -, X74, ⟨Lc74, hQ74, l74, y74, z74⟩, st74⟩ := Jvm.LawKit.callS X69 hx (y := mN11) hown (mvT hZ (hwk hw 41 rfl)) (mvT hZ (hwk hw 42 rfl)) (mvT hZ (hwk hw 43 rfl)) (mvT hZ (hwk hw 44 rfl)) (by decide) (backOf (W := 0) (rmW2 l Z a0 hw [] a aI aT aP kI kT kP I69 D69 P69 o69 ap ((oo + (2 : Int32)) &&& (3 : Int32)) (FP.i2d q5) (fun i => (fun i => (fun _ => False) i ∨ i = oo) i ∨ i = ((oo + (1 : Int32)) &&& (3 : Int32))) T69.heap n0 Z69 hB HR73 (own_and3 _) inv69 (fun h => h.elim (fun g => g.elim (fun f => f) ro2) ro3) (i2d_fin _).noNaN) hZ (hwk hw 44 rfl) (hwk hw 43 rfl) (by decide) (by decide)) (g := (mkF m 108 #[iv q0, iv q1, iv q2, iv q3, iv q4, iv q5, rv a, iv (3 : Int32), iv oo, .unset] [(.double (FP.i2d q5)), (.int ((oo + (2 : Int32)) &&& (3 : Int32))), (.int ap), (.ref a)])) rfl (by rw [hml]; rfl) (argsL := [(.ref a), (.int ap), (.int ((oo + (2 : Int32)) &&& (3 : Int32))), (.double (FP.i2d q5))]) (rest := []) (lenOf pd__Lcom_example_redoubt_redoubt_engine_IndexHeap_ZID_V_601b rfl) rfl (by show 2 * 0 + _ ≤ _; exact Nat.le_of_eq rfl) (hb hby at_108) (fun _ _ => ⟨rfl, rfl, (by decide : 4 + 0 ≤ 16), (by decide : 17 + 0 ≤ 128)⟩)
          dsimp only [Pt.U, Pt.locs, Pt.cells, Pt.slots] at X74 l74 y74 z74 st74 hQ74
          subst l74 y74 z74
          obtain ⟨I74, D74, P74, o74, rfl, N74q, K74, HQ74, inv74⟩ := hQ74
          have Z74 : n0 ≤ T74.heap.size := Nat.le_trans Z69 K74.1
          obtain ⟨E76, FI76, FT76, FP76, FS76, FO76, VI76, VT76, VP76⟩ := id HQ74
          have N74 := Fr.app N69 N74q
          refine Goes.st st74 ?_
          show Gs p e below s _ _ _ T74 m 111 #[iv q0, iv q1, iv q2, iv q3, iv q4, iv q5, rv a, iv (3 : Int32), iv oo, .unset] []
          refine giload X74 hx (hb hby at_111) rfl ?_
          refine giconst X74 hx (hb hby at_113) ?_
          show Gs p e below s _ _ _ T74 m 114 #[iv q0, iv q1, iv q2, iv q3, iv q4, iv q5, rv a, iv (3 : Int32), iv oo, .unset] [(.int (3 : Int32)), (.int (3 : Int32))]
          refine gicmpYes X74 hx (pc' := 142) (hb hby at_114) (by decide) (by decide) (by decide) ?_
          show Gs p e below s _ _ _ T74 m 142 #[iv q0, iv q1, iv q2, iv q3, iv q4, iv q5, rv a, iv (3 : Int32), iv oo, .unset] []
          refine giloadN X74 hx (hb hby at_142) rfl ?_
          refine giconst X74 hx (hb hby at_143) ?_
          refine giand X74 hx (hb hby at_144) trivial ?_
          show Gs p e below s _ _ _ T74 m 145 #[iv q0, iv q1, iv q2, iv q3, iv q4, iv q5, rv a, iv (3 : Int32), iv oo, .unset] [(.int (q2 &&& (2 : Int32)))]
          by_cases c77 : (q2 &&& (2 : Int32)) = (0 : Int32)
          · refine gifYes X74 hx (pc' := 159) (hb hby at_145) ((if0 _ _).trans (teq c77).1) (by decide) (by decide) ?_
            show Gs p e below s _ _ _ T74 m 159 #[iv q0, iv q1, iv q2, iv q3, iv q4, iv q5, rv a, iv (3 : Int32), iv oo, .unset] []
            refine gaload X74 hx (hb hby at_159) rfl rfl ?_
            have HR78 : HR Z T74.heap a aI aT aP kI kT kP I74 D74 P74 (3 : Int32) o74 := ⟨E76, FI76, FT76, FP76, FS76, FO76, VI76, VT76, VP76⟩
            obtain ⟨cq79, kq79, qa79, qb79, qc79⟩ := isOf hZ rfl E76
            obtain ⟨_, _, ⟨T79, L79, k79, n79⟩, -, X79, ⟨Lc79, hQ79, l79, y79, z79⟩, st79⟩ := X74.virtualBack hx (y := mN16) (z := mN16) hown (mvT hZ (hwk hw 24 rfl)) (mvT hZ (hwk hw 25 rfl)) (notFace_of_selects (args := #[]) (mvT hZ (hwk hw 27 rfl))) (mvT hZ (hwk hw 27 rfl)) (mvT hZ (hwk hw 26 rfl)) (by decide) (backOf (W := 0) (rmC3 l Z a0 hw [] a aI aT aP kI kT kP I74 D74 P74 o74 (fun i => (fun i => (fun i => (fun _ => False) i ∨ i = oo) i ∨ i = ((oo + (1 : Int32)) &&& (3 : Int32))) i ∨ i = ((oo + (2 : Int32)) &&& (3 : Int32))) T74.heap n0 Z74 hB HR78 inv74) hZ (hwk hw 28 rfl) (hwk hw 2 rfl) (by decide) (by decide)) qa79 qc79 (g := (mkF m 161 #[iv q0, iv q1, iv q2, iv q3, iv q4, iv q5, rv a, iv (3 : Int32), iv oo, .unset] [(.ref a)])) rfl (by rw [hml]; rfl) (Steps.refl _) (argsL := []) (rest := []) (lenOf pd___V_566 rfl) rfl (by show 2 * 0 + _ ≤ _; exact Nat.le_of_eq rfl) (hb hby at_161) (fun _ _ => ⟨rfl, rfl, (by decide : 4 + 0 ≤ 16), (by decide : 17 + 0 ≤ 128)⟩)
            dsimp only [Pt.U, Pt.locs, Pt.cells, Pt.slots] at X79 l79 y79 z79 st79 hQ79
            subst l79 y79 z79
            obtain ⟨rfl, N79q, K79, HQ79⟩ := hQ79
            have Z79 : n0 ≤ T79.heap.size := Nat.le_trans Z74 K79.1
            obtain ⟨E81, FI81, FT81, FP81, FS81, FO81, VI81, VT81, VP81⟩ := id HQ79
            have N79 := Fr.app N74 N79q
            refine Goes.sts st79 ?_
            show Gs p e below s _ _ _ T79 m 164 #[iv q0, iv q1, iv q2, iv q3, iv q4, iv q5, rv a, iv (3 : Int32), iv oo, .unset] []
            exact tailS Z a0 hw hx hby hlk hret hml hown hnm hZ q0 q1 q2 q3 q4 q5 (3 : Int32) oo a aI aT aP kI kT kP I74 D74 h0 T79.heap n0 T79 _ X79 rfl N79 Z79 (fun _ _ N => ⟨rfl, N⟩) hB HQ79
          · refine gifNo X74 hx (hb hby at_145) ((if0 _ _).trans (feq c77).1) ?_
            show Gs p e below s _ _ _ T74 m 148 #[iv q0, iv q1, iv q2, iv q3, iv q4, iv q5, rv a, iv (3 : Int32), iv oo, .unset] []
            refine giload X74 hx (hb hby at_148) rfl ?_
            show Gs p e below s _ _ _ T74 m 150 #[iv q0, iv q1, iv q2, iv q3, iv q4, iv q5, rv a, iv (3 : Int32), iv oo, .unset] [(.int (3 : Int32))]
            refine gifNo X74 hx (hb hby at_150) (by decide) ?_
            show Gs p e below s _ _ _ T74 m 153 #[iv q0, iv q1, iv q2, iv q3, iv q4, iv q5, rv a, iv (3 : Int32), iv oo, .unset] []
            refine gaload X74 hx (hb hby at_153) rfl rfl ?_
            have HR82 : HR Z T74.heap a aI aT aP kI kT kP I74 D74 P74 (3 : Int32) o74 := ⟨E76, FI76, FT76, FP76, FS76, FO76, VI76, VT76, VP76⟩
            obtain ⟨cq83, kq83, qa83, qb83, qc83⟩ := isOf hZ rfl E76
            obtain ⟨_, _, ⟨T83, L83, k83, n83⟩, -, X83, ⟨Lc83, hQ83, l83, y83, z83⟩, st83⟩ := X74.virtualBack hx (y := mN15) (z := mN15) hown (mvT hZ (hwk hw 82 rfl)) (mvT hZ (hwk hw 83 rfl)) (notFace_of_selects (args := #[]) (mvT hZ (hwk hw 85 rfl))) (mvT hZ (hwk hw 85 rfl)) (mvT hZ (hwk hw 84 rfl)) (by decide) (backOf (W := 0) (rmP3 l Z a0 hw [] a aI aT aP kI kT kP I74 D74 P74 o74 (fun i => (fun i => (fun i => (fun _ => False) i ∨ i = oo) i ∨ i = ((oo + (1 : Int32)) &&& (3 : Int32))) i ∨ i = ((oo + (2 : Int32)) &&& (3 : Int32))) T74.heap n0 Z74 hB HR82 inv74) hZ (hwk hw 86 rfl) (hwk hw 2 rfl) (by decide) (by decide)) qa83 qc83 (g := (mkF m 155 #[iv q0, iv q1, iv q2, iv q3, iv q4, iv q5, rv a, iv (3 : Int32), iv oo, .unset] [(.ref a)])) rfl (by rw [hml]; rfl) (Steps.refl _) (argsL := []) (rest := []) (lenOf pd___I_4f1 rfl) rfl (by show 2 * 0 + _ ≤ _; exact Nat.le_of_eq rfl) (hb hby at_155) (fun _ _ => ⟨rfl, rfl, (by decide : 4 + 0 ≤ 16), (by decide : 17 + 0 ≤ 128)⟩)
            dsimp only [Pt.U, Pt.locs, Pt.cells, Pt.slots] at X83 l83 y83 z83 st83 hQ83
            subst l83 y83 z83
            obtain ⟨I83, D83, P83, o83, xr83, rfl, N83q, K83, HQ83, inv83⟩ := hQ83
            have Z83 : n0 ≤ T83.heap.size := Nat.le_trans Z74 K83.1
            obtain ⟨E85, FI85, FT85, FP85, FS85, FO85, VI85, VT85, VP85⟩ := id HQ83
            have N83 := Fr.app N74 N83q
            refine Goes.sts st83 ?_
            show Gs p e below s _ _ _ T83 m 158 #[iv q0, iv q1, iv q2, iv q3, iv q4, iv q5, rv a, iv (3 : Int32), iv oo, .unset] [(.int xr83)]
            refine Goes.st (fun tg kg => XT.pop X83.here hx rfl (hb hby at_158) rfl rfl kg) ?_
            show Gs p e below s _ _ _ T83 m 159 #[iv q0, iv q1, iv q2, iv q3, iv q4, iv q5, rv a, iv (3 : Int32), iv oo, .unset] []
            refine gaload X83 hx (hb hby at_159) rfl rfl ?_
            have HR86 : HR Z T83.heap a aI aT aP kI kT kP I83 D83 P83 (2 : Int32) o83 := ⟨E85, FI85, FT85, FP85, FS85, FO85, VI85, VT85, VP85⟩
            obtain ⟨cq87, kq87, qa87, qb87, qc87⟩ := isOf hZ rfl E85
            obtain ⟨_, _, ⟨T87, L87, k87, n87⟩, -, X87, ⟨Lc87, hQ87, l87, y87, z87⟩, st87⟩ := X83.virtualBack hx (y := mN16) (z := mN16) hown (mvT hZ (hwk hw 24 rfl)) (mvT hZ (hwk hw 25 rfl)) (notFace_of_selects (args := #[]) (mvT hZ (hwk hw 27 rfl))) (mvT hZ (hwk hw 27 rfl)) (mvT hZ (hwk hw 26 rfl)) (by decide) (backOf (W := 0) (rmC2 l Z a0 hw [] a aI aT aP kI kT kP I83 D83 P83 o83 (fun i => (fun i => (fun i => (fun _ => False) i ∨ i = oo) i ∨ i = ((oo + (1 : Int32)) &&& (3 : Int32))) i ∨ i = ((oo + (2 : Int32)) &&& (3 : Int32))) T83.heap n0 Z83 hB HR86 inv83) hZ (hwk hw 28 rfl) (hwk hw 2 rfl) (by decide) (by decide)) qa87 qc87 (g := (mkF m 161 #[iv q0, iv q1, iv q2, iv q3, iv q4, iv q5, rv a, iv (3 : Int32), iv oo, .unset] [(.ref a)])) rfl (by rw [hml]; rfl) (Steps.refl _) (argsL := []) (rest := []) (lenOf pd___V_566 rfl) rfl (by show 2 * 0 + _ ≤ _; exact Nat.le_of_eq rfl) (hb hby at_161) (fun _ _ => ⟨rfl, rfl, (by decide : 4 + 0 ≤ 16), (by decide : 17 + 0 ≤ 128)⟩)
            dsimp only [Pt.U, Pt.locs, Pt.cells, Pt.slots] at X87 l87 y87 z87 st87 hQ87
            subst l87 y87 z87
            obtain ⟨rfl, N87q, K87, HQ87⟩ := hQ87
            have Z87 : n0 ≤ T87.heap.size := Nat.le_trans Z83 K87.1
            obtain ⟨E89, FI89, FT89, FP89, FS89, FO89, VI89, VT89, VP89⟩ := id HQ87
            have N87 := Fr.app N83 N87q
            refine Goes.sts st87 ?_
            show Gs p e below s _ _ _ T87 m 164 #[iv q0, iv q1, iv q2, iv q3, iv q4, iv q5, rv a, iv (3 : Int32), iv oo, .unset] []
            exact tailS Z a0 hw hx hby hlk hret hml hown hnm hZ q0 q1 q2 q3 q4 q5 (3 : Int32) oo a aI aT aP kI kT kP I83 D83 h0 T87.heap n0 T87 _ X87 rfl N87 Z87 (fun _ _ N => ⟨rfl, N⟩) hB HQ87
        by_cases c90 : (q2 &&& (8 : Int32)) = (0 : Int32)
        · refine gifYes X69 hx (pc' := 98) (hb hby at_91) ((if0 _ _).trans (teq c90).1) (by decide) (by decide) ?_
          show Gs p e below s _ _ _ T69 m 98 #[iv q0, iv q1, iv q2, iv q3, iv q4, iv q5, rv a, iv (3 : Int32), iv oo, .unset] [(.ref a)]
          refine giconst X69 hx (hb hby at_98) ?_
          show Gs p e below s _ _ _ T69 m 99 #[iv q0, iv q1, iv q2, iv q3, iv q4, iv q5, rv a, iv (3 : Int32), iv oo, .unset] [(.int (0 : Int32)), (.ref a)]
          exact J72 _
        · refine gifNo X69 hx (hb hby at_91) ((if0 _ _).trans (feq c90).1) ?_
          show Gs p e below s _ _ _ T69 m 94 #[iv q0, iv q1, iv q2, iv q3, iv q4, iv q5, rv a, iv (3 : Int32), iv oo, .unset] [(.ref a)]
          refine giconst X69 hx (hb hby at_94) ?_
          show Gs p e below s _ _ _ T69 m 95 #[iv q0, iv q1, iv q2, iv q3, iv q4, iv q5, rv a, iv (3 : Int32), iv oo, .unset] [(.int (1 : Int32)), (.ref a)]
          refine ggoto X69 hx (pc' := 99) (hb hby at_95) (by decide) (by decide) ?_
          show Gs p e below s _ _ _ T69 m 99 #[iv q0, iv q1, iv q2, iv q3, iv q4, iv q5, rv a, iv (3 : Int32), iv oo, .unset] [(.int (1 : Int32)), (.ref a)]
          exact J72 _
      by_cases c91 : (q2 &&& (4 : Int32)) = (0 : Int32)
      · refine gifYes X64 hx (pc' := 66) (hb hby at_59) ((if0 _ _).trans (teq c91).1) (by decide) (by decide) ?_
        show Gs p e below s _ _ _ T64 m 66 #[iv q0, iv q1, iv q2, iv q3, iv q4, iv q5, rv a, iv (3 : Int32), iv oo, .unset] [(.ref a)]
        refine giconst X64 hx (hb hby at_66) ?_
        show Gs p e below s _ _ _ T64 m 67 #[iv q0, iv q1, iv q2, iv q3, iv q4, iv q5, rv a, iv (3 : Int32), iv oo, .unset] [(.int (0 : Int32)), (.ref a)]
        exact J67 _
      · refine gifNo X64 hx (hb hby at_59) ((if0 _ _).trans (feq c91).1) ?_
        show Gs p e below s _ _ _ T64 m 62 #[iv q0, iv q1, iv q2, iv q3, iv q4, iv q5, rv a, iv (3 : Int32), iv oo, .unset] [(.ref a)]
        refine giconst X64 hx (hb hby at_62) ?_
        show Gs p e below s _ _ _ T64 m 63 #[iv q0, iv q1, iv q2, iv q3, iv q4, iv q5, rv a, iv (3 : Int32), iv oo, .unset] [(.int (1 : Int32)), (.ref a)]
        refine ggoto X64 hx (pc' := 67) (hb hby at_63) (by decide) (by decide) ?_
        show Gs p e below s _ _ _ T64 m 67 #[iv q0, iv q1, iv q2, iv q3, iv q4, iv q5, rv a, iv (3 : Int32), iv oo, .unset] [(.int (1 : Int32)), (.ref a)]
        exact J67 _
    by_cases c92 : (q2 &&& (1 : Int32)) = (0 : Int32)
    · refine gifYes X3 hx (pc' := 40) (hb hby at_33) ((if0 _ _).trans (teq c92).1) (by decide) (by decide) ?_
      show Gs p e below s _ _ _ T3 m 40 #[iv q0, iv q1, iv q2, iv q3, iv q4, iv q5, rv a, iv (3 : Int32), iv oo, .unset] [(.ref a)]
      refine giconst X3 hx (hb hby at_40) ?_
      show Gs p e below s _ _ _ T3 m 41 #[iv q0, iv q1, iv q2, iv q3, iv q4, iv q5, rv a, iv (3 : Int32), iv oo, .unset] [(.int (0 : Int32)), (.ref a)]
      exact J62 _
    · refine gifNo X3 hx (hb hby at_33) ((if0 _ _).trans (feq c92).1) ?_
      show Gs p e below s _ _ _ T3 m 36 #[iv q0, iv q1, iv q2, iv q3, iv q4, iv q5, rv a, iv (3 : Int32), iv oo, .unset] [(.ref a)]
      refine giconst X3 hx (hb hby at_36) ?_
      show Gs p e below s _ _ _ T3 m 37 #[iv q0, iv q1, iv q2, iv q3, iv q4, iv q5, rv a, iv (3 : Int32), iv oo, .unset] [(.int (1 : Int32)), (.ref a)]
      refine ggoto X3 hx (pc' := 41) (hb hby at_37) (by decide) (by decide) ?_
      show Gs p e below s _ _ _ T3 m 41 #[iv q0, iv q1, iv q2, iv q3, iv q4, iv q5, rv a, iv (3 : Int32), iv oo, .unset] [(.int (1 : Int32)), (.ref a)]
      exact J62 _
  · rw [hk]
    show Gs p e below s _ _ _ T3 m 16 #[iv q0, iv q1, iv q2, iv q3, iv q4, iv q5, rv a, .unset, .unset, .unset] [(.int (4 : Int32))]
    refine gistore X3 hx (hb hby at_16) trivial (l' := #[iv q0, iv q1, iv q2, iv q3, iv q4, iv q5, rv a, iv (4 : Int32), .unset, .unset]) rfl ?_
    refine giloadN X3 hx (hb hby at_18) rfl ?_
    refine giconst X3 hx (hb hby at_19) ?_
    refine giand X3 hx (hb hby at_20) trivial ?_
    show Gs p e below s _ _ _ T3 m 21 #[iv q0, iv q1, iv q2, iv q3, iv q4, iv q5, rv a, iv (4 : Int32), .unset, .unset] [(.int (q1 &&& (3 : Int32)))]
    obtain ⟨oo, oo_eq⟩ : ∃ z : Int32, z = (q1 &&& (3 : Int32)) := ⟨_, rfl⟩
    rw [← oo_eq]
    show Gs p e below s _ _ _ T3 m 21 #[iv q0, iv q1, iv q2, iv q3, iv q4, iv q5, rv a, iv (4 : Int32), .unset, .unset] [(.int oo)]
    have i4o : In4 oo := by rw [oo_eq]; exact own_and3 _
    obtain ⟨ro1, ro2, ro3, ro4, ro5, ro6⟩ := own_ro i4o
    have inv93 : Inv 0 (fun _ => False) (fun _ => (0 : Int32)) (fun _ => (-1 : Int32)) := ⟨fun _ _ => i4_0, fun j hj h => absurd h (by rcases hj with rfl | rfl | rfl | rfl <;> decide), fun _ _ => Or.inl rfl⟩
    refine gistore X3 hx (hb hby at_21) trivial (l' := #[iv q0, iv q1, iv q2, iv q3, iv q4, iv q5, rv a, iv (4 : Int32), iv oo, .unset]) rfl ?_
    refine giload X3 hx (hb hby at_23) rfl ?_
    show Gs p e below s _ _ _ T3 m 25 #[iv q0, iv q1, iv q2, iv q3, iv q4, iv q5, rv a, iv (4 : Int32), iv oo, .unset] [(.int (4 : Int32))]
    refine gifNo X3 hx (hb hby at_25) (by decide) ?_
    show Gs p e below s _ _ _ T3 m 28 #[iv q0, iv q1, iv q2, iv q3, iv q4, iv q5, rv a, iv (4 : Int32), iv oo, .unset] []
    refine gaload X3 hx (hb hby at_28) rfl rfl ?_
    refine giloadN X3 hx (hb hby at_30) rfl ?_
    refine giconst X3 hx (hb hby at_31) ?_
    refine giand X3 hx (hb hby at_32) trivial ?_
    show Gs p e below s _ _ _ T3 m 33 #[iv q0, iv q1, iv q2, iv q3, iv q4, iv q5, rv a, iv (4 : Int32), iv oo, .unset] [(.int (q2 &&& (1 : Int32))), (.ref a)]
    have J94 : ∀ (ap : Int32), Goes p e below s (Q0 Z q0 q1 q2 q3 q4 q5 h0 n0) 16 128 (T3.setTop (mkF m 41 #[iv q0, iv q1, iv q2, iv q3, iv q4, iv q5, rv a, iv (4 : Int32), iv oo, .unset] [(.int ap), (.ref a)])) := by
      intro ap
      refine giload X3 hx (hb hby at_41) rfl ?_
      refine giloadN X3 hx (hb hby at_43) rfl ?_
      refine Goes.st (fun tg kg => XS.i2dS X3.here hx rfl (hb hby at_44) rfl (v := (FP.i2d q3)) rfl kg) ?_
      have HR95 : HR Z T3.heap a aI aT aP kI kT kP (fun _ => 0) (fun _ => 0) (fun _ => -1) (0 : Int32) (1 : Int32) := ⟨E4, FI4, FT4, FP4, FS4, FO4, VI4, VT4, VP4⟩
      obtain ⟨_, _, ⟨T96, L96, k96, n96⟩, -, X96, ⟨Lc96, hQ96, l96, y96, z96⟩, st96⟩ := Jvm.LawKit.callS X3 hx (y := mN11) hown (mvT hZ (hwk hw 41 rfl)) (mvT hZ (hwk hw 42 rfl)) (mvT hZ (hwk hw 43 rfl)) (mvT hZ (hwk hw 44 rfl)) (by decide) (backOf (W := 0) (rmW0 l Z a0 hw [] a aI aT aP kI kT kP (fun _ => 0) (fun _ => 0) (fun _ => -1) (1 : Int32) ap oo (FP.i2d q3) (fun _ => False) T3.heap n0 Z3 hB HR95 i4o inv93 (fun h => h) (i2d_fin _).noNaN) hZ (hwk hw 44 rfl) (hwk hw 43 rfl) (by decide) (by decide)) (g := (mkF m 45 #[iv q0, iv q1, iv q2, iv q3, iv q4, iv q5, rv a, iv (4 : Int32), iv oo, .unset] [(.double (FP.i2d q3)), (.int oo), (.int ap), (.ref a)])) rfl (by rw [hml]; rfl) (argsL := [(.ref a), (.int ap), (.int oo), (.double (FP.i2d q3))]) (rest := []) (lenOf pd__Lcom_example_redoubt_redoubt_engine_IndexHeap_ZID_V_601b rfl) rfl (by show 2 * 0 + _ ≤ _; exact Nat.le_of_eq rfl) (hb hby at_45) (fun _ _ => ⟨rfl, rfl, (by decide : 4 + 0 ≤ 16), (by decide : 17 + 0 ≤ 128)⟩)
      dsimp only [Pt.U, Pt.locs, Pt.cells, Pt.slots] at X96 l96 y96 z96 st96 hQ96
      subst l96 y96 z96
      obtain ⟨I96, D96, P96, o96, rfl, N96q, K96, HQ96, inv96⟩ := hQ96
      have Z96 : n0 ≤ T96.heap.size := Nat.le_trans Z3 K96.1
      obtain ⟨E98, FI98, FT98, FP98, FS98, FO98, VI98, VT98, VP98⟩ := id HQ96
      have N96 := Fr.app N3 N96q
      refine Goes.st st96 ?_
      show Gs p e below s _ _ _ T96 m 48 #[iv q0, iv q1, iv q2, iv q3, iv q4, iv q5, rv a, iv (4 : Int32), iv oo, .unset] []
      refine giload X96 hx (hb hby at_48) rfl ?_
      refine giconst X96 hx (hb hby at_50) ?_
      show Gs p e below s _ _ _ T96 m 51 #[iv q0, iv q1, iv q2, iv q3, iv q4, iv q5, rv a, iv (4 : Int32), iv oo, .unset] [(.int (1 : Int32)), (.int (4 : Int32))]
      refine gicmpNo X96 hx (hb hby at_51) (by decide) ?_
      show Gs p e below s _ _ _ T96 m 54 #[iv q0, iv q1, iv q2, iv q3, iv q4, iv q5, rv a, iv (4 : Int32), iv oo, .unset] []
      refine gaload X96 hx (hb hby at_54) rfl rfl ?_
      refine giloadN X96 hx (hb hby at_56) rfl ?_
      refine giconst X96 hx (hb hby at_57) ?_
      refine giand X96 hx (hb hby at_58) trivial ?_
      show Gs p e below s _ _ _ T96 m 59 #[iv q0, iv q1, iv q2, iv q3, iv q4, iv q5, rv a, iv (4 : Int32), iv oo, .unset] [(.int (q2 &&& (4 : Int32))), (.ref a)]
      have J99 : ∀ (ap : Int32), Goes p e below s (Q0 Z q0 q1 q2 q3 q4 q5 h0 n0) 16 128 (T96.setTop (mkF m 67 #[iv q0, iv q1, iv q2, iv q3, iv q4, iv q5, rv a, iv (4 : Int32), iv oo, .unset] [(.int ap), (.ref a)])) := by
        intro ap
        refine giload X96 hx (hb hby at_67) rfl ?_
        refine giconst X96 hx (hb hby at_69) ?_
        refine giadd X96 hx (hb hby at_70) trivial ?_
        refine giconst X96 hx (hb hby at_71) ?_
        refine giand X96 hx (hb hby at_72) trivial ?_
        show Gs p e below s _ _ _ T96 m 73 #[iv q0, iv q1, iv q2, iv q3, iv q4, iv q5, rv a, iv (4 : Int32), iv oo, .unset] [(.int ((oo + (1 : Int32)) &&& (3 : Int32))), (.int ap), (.ref a)]
        refine giload X96 hx (hb hby at_73) rfl ?_
        refine Goes.st (fun tg kg => XS.i2dS X96.here hx rfl (hb hby at_75) rfl (v := (FP.i2d q4)) rfl kg) ?_
        have HR100 : HR Z T96.heap a aI aT aP kI kT kP I96 D96 P96 (1 : Int32) o96 := ⟨E98, FI98, FT98, FP98, FS98, FO98, VI98, VT98, VP98⟩
        obtain ⟨_, _, ⟨T101, L101, k101, n101⟩, -, X101, ⟨Lc101, hQ101, l101, y101, z101⟩, st101⟩ := Jvm.LawKit.callS X96 hx (y := mN11) hown (mvT hZ (hwk hw 41 rfl)) (mvT hZ (hwk hw 42 rfl)) (mvT hZ (hwk hw 43 rfl)) (mvT hZ (hwk hw 44 rfl)) (by decide) (backOf (W := 0) (rmW1 l Z a0 hw [] a aI aT aP kI kT kP I96 D96 P96 o96 ap ((oo + (1 : Int32)) &&& (3 : Int32)) (FP.i2d q4) (fun i => (fun _ => False) i ∨ i = oo) T96.heap n0 Z96 hB HR100 (own_and3 _) inv96 (fun h => h.elim (fun f => f) ro1) (i2d_fin _).noNaN) hZ (hwk hw 44 rfl) (hwk hw 43 rfl) (by decide) (by decide)) (g := (mkF m 76 #[iv q0, iv q1, iv q2, iv q3, iv q4, iv q5, rv a, iv (4 : Int32), iv oo, .unset] [(.double (FP.i2d q4)), (.int ((oo + (1 : Int32)) &&& (3 : Int32))), (.int ap), (.ref a)])) rfl (by rw [hml]; rfl) (argsL := [(.ref a), (.int ap), (.int ((oo + (1 : Int32)) &&& (3 : Int32))), (.double (FP.i2d q4))]) (rest := []) (lenOf pd__Lcom_example_redoubt_redoubt_engine_IndexHeap_ZID_V_601b rfl) rfl (by show 2 * 0 + _ ≤ _; exact Nat.le_of_eq rfl) (hb hby at_76) (fun _ _ => ⟨rfl, rfl, (by decide : 4 + 0 ≤ 16), (by decide : 17 + 0 ≤ 128)⟩)
        dsimp only [Pt.U, Pt.locs, Pt.cells, Pt.slots] at X101 l101 y101 z101 st101 hQ101
        subst l101 y101 z101
        obtain ⟨I101, D101, P101, o101, rfl, N101q, K101, HQ101, inv101⟩ := hQ101
        have Z101 : n0 ≤ T101.heap.size := Nat.le_trans Z96 K101.1
        obtain ⟨E103, FI103, FT103, FP103, FS103, FO103, VI103, VT103, VP103⟩ := id HQ101
        have N101 := Fr.app N96 N101q
        refine Goes.st st101 ?_
        show Gs p e below s _ _ _ T101 m 79 #[iv q0, iv q1, iv q2, iv q3, iv q4, iv q5, rv a, iv (4 : Int32), iv oo, .unset] []
        refine giload X101 hx (hb hby at_79) rfl ?_
        refine giconst X101 hx (hb hby at_81) ?_
        show Gs p e below s _ _ _ T101 m 82 #[iv q0, iv q1, iv q2, iv q3, iv q4, iv q5, rv a, iv (4 : Int32), iv oo, .unset] [(.int (2 : Int32)), (.int (4 : Int32))]
        refine gicmpNo X101 hx (hb hby at_82) (by decide) ?_
        show Gs p e below s _ _ _ T101 m 85 #[iv q0, iv q1, iv q2, iv q3, iv q4, iv q5, rv a, iv (4 : Int32), iv oo, .unset] []
        refine gaload X101 hx (hb hby at_85) rfl rfl ?_
        refine giloadN X101 hx (hb hby at_87) rfl ?_
        refine Goes.st (fun tg kg => XS.bipush X101.here hx rfl (hb hby at_88) kg) ?_
        refine giand X101 hx (hb hby at_90) trivial ?_
        show Gs p e below s _ _ _ T101 m 91 #[iv q0, iv q1, iv q2, iv q3, iv q4, iv q5, rv a, iv (4 : Int32), iv oo, .unset] [(.int (q2 &&& (8 : Int32))), (.ref a)]
        have J104 : ∀ (ap : Int32), Goes p e below s (Q0 Z q0 q1 q2 q3 q4 q5 h0 n0) 16 128 (T101.setTop (mkF m 99 #[iv q0, iv q1, iv q2, iv q3, iv q4, iv q5, rv a, iv (4 : Int32), iv oo, .unset] [(.int ap), (.ref a)])) := by
          intro ap
          refine giload X101 hx (hb hby at_99) rfl ?_
          refine giconst X101 hx (hb hby at_101) ?_
          refine giadd X101 hx (hb hby at_102) trivial ?_
          refine giconst X101 hx (hb hby at_103) ?_
          refine giand X101 hx (hb hby at_104) trivial ?_
          show Gs p e below s _ _ _ T101 m 105 #[iv q0, iv q1, iv q2, iv q3, iv q4, iv q5, rv a, iv (4 : Int32), iv oo, .unset] [(.int ((oo + (2 : Int32)) &&& (3 : Int32))), (.int ap), (.ref a)]
          refine giload X101 hx (hb hby at_105) rfl ?_
          refine Goes.st (fun tg kg => XS.i2dS X101.here hx rfl (hb hby at_107) rfl (v := (FP.i2d q5)) rfl kg) ?_
          have HR105 : HR Z T101.heap a aI aT aP kI kT kP I101 D101 P101 (2 : Int32) o101 := ⟨E103, FI103, FT103, FP103, FS103, FO103, VI103, VT103, VP103⟩
          obtain ⟨_, _, ⟨T106, L106, k106, n106⟩, -, X106, ⟨Lc106, hQ106, l106, y106, z106⟩, st106⟩ := Jvm.LawKit.callS X101 hx (y := mN11) hown (mvT hZ (hwk hw 41 rfl)) (mvT hZ (hwk hw 42 rfl)) (mvT hZ (hwk hw 43 rfl)) (mvT hZ (hwk hw 44 rfl)) (by decide) (backOf (W := 0) (rmW2 l Z a0 hw [] a aI aT aP kI kT kP I101 D101 P101 o101 ap ((oo + (2 : Int32)) &&& (3 : Int32)) (FP.i2d q5) (fun i => (fun i => (fun _ => False) i ∨ i = oo) i ∨ i = ((oo + (1 : Int32)) &&& (3 : Int32))) T101.heap n0 Z101 hB HR105 (own_and3 _) inv101 (fun h => h.elim (fun g => g.elim (fun f => f) ro2) ro3) (i2d_fin _).noNaN) hZ (hwk hw 44 rfl) (hwk hw 43 rfl) (by decide) (by decide)) (g := (mkF m 108 #[iv q0, iv q1, iv q2, iv q3, iv q4, iv q5, rv a, iv (4 : Int32), iv oo, .unset] [(.double (FP.i2d q5)), (.int ((oo + (2 : Int32)) &&& (3 : Int32))), (.int ap), (.ref a)])) rfl (by rw [hml]; rfl) (argsL := [(.ref a), (.int ap), (.int ((oo + (2 : Int32)) &&& (3 : Int32))), (.double (FP.i2d q5))]) (rest := []) (lenOf pd__Lcom_example_redoubt_redoubt_engine_IndexHeap_ZID_V_601b rfl) rfl (by show 2 * 0 + _ ≤ _; exact Nat.le_of_eq rfl) (hb hby at_108) (fun _ _ => ⟨rfl, rfl, (by decide : 4 + 0 ≤ 16), (by decide : 17 + 0 ≤ 128)⟩)
          dsimp only [Pt.U, Pt.locs, Pt.cells, Pt.slots] at X106 l106 y106 z106 st106 hQ106
          subst l106 y106 z106
          obtain ⟨I106, D106, P106, o106, rfl, N106q, K106, HQ106, inv106⟩ := hQ106
          have Z106 : n0 ≤ T106.heap.size := Nat.le_trans Z101 K106.1
          obtain ⟨E108, FI108, FT108, FP108, FS108, FO108, VI108, VT108, VP108⟩ := id HQ106
          have N106 := Fr.app N101 N106q
          refine Goes.st st106 ?_
          show Gs p e below s _ _ _ T106 m 111 #[iv q0, iv q1, iv q2, iv q3, iv q4, iv q5, rv a, iv (4 : Int32), iv oo, .unset] []
          refine giload X106 hx (hb hby at_111) rfl ?_
          refine giconst X106 hx (hb hby at_113) ?_
          show Gs p e below s _ _ _ T106 m 114 #[iv q0, iv q1, iv q2, iv q3, iv q4, iv q5, rv a, iv (4 : Int32), iv oo, .unset] [(.int (3 : Int32)), (.int (4 : Int32))]
          refine gicmpNo X106 hx (hb hby at_114) (by decide) ?_
          show Gs p e below s _ _ _ T106 m 117 #[iv q0, iv q1, iv q2, iv q3, iv q4, iv q5, rv a, iv (4 : Int32), iv oo, .unset] []
          refine gaload X106 hx (hb hby at_117) rfl rfl ?_
          refine giloadN X106 hx (hb hby at_119) rfl ?_
          refine Goes.st (fun tg kg => XS.bipush X106.here hx rfl (hb hby at_120) kg) ?_
          refine giand X106 hx (hb hby at_122) trivial ?_
          show Gs p e below s _ _ _ T106 m 123 #[iv q0, iv q1, iv q2, iv q3, iv q4, iv q5, rv a, iv (4 : Int32), iv oo, .unset] [(.int (q2 &&& (16 : Int32))), (.ref a)]
          have J109 : ∀ (ap : Int32), Goes p e below s (Q0 Z q0 q1 q2 q3 q4 q5 h0 n0) 16 128 (T106.setTop (mkF m 131 #[iv q0, iv q1, iv q2, iv q3, iv q4, iv q5, rv a, iv (4 : Int32), iv oo, .unset] [(.int ap), (.ref a)])) := by
            intro ap
            refine giload X106 hx (hb hby at_131) rfl ?_
            refine giconst X106 hx (hb hby at_133) ?_
            refine giadd X106 hx (hb hby at_134) trivial ?_
            refine giconst X106 hx (hb hby at_135) ?_
            refine giand X106 hx (hb hby at_136) trivial ?_
            show Gs p e below s _ _ _ T106 m 137 #[iv q0, iv q1, iv q2, iv q3, iv q4, iv q5, rv a, iv (4 : Int32), iv oo, .unset] [(.int ((oo + (3 : Int32)) &&& (3 : Int32))), (.int ap), (.ref a)]
            refine giloadN X106 hx (hb hby at_137) rfl ?_
            refine Goes.st (fun tg kg => XS.i2dS X106.here hx rfl (hb hby at_138) rfl (v := (FP.i2d q3)) rfl kg) ?_
            have HR110 : HR Z T106.heap a aI aT aP kI kT kP I106 D106 P106 (3 : Int32) o106 := ⟨E108, FI108, FT108, FP108, FS108, FO108, VI108, VT108, VP108⟩
            obtain ⟨_, _, ⟨T111, L111, k111, n111⟩, -, X111, ⟨Lc111, hQ111, l111, y111, z111⟩, st111⟩ := Jvm.LawKit.callS X106 hx (y := mN11) hown (mvT hZ (hwk hw 41 rfl)) (mvT hZ (hwk hw 42 rfl)) (mvT hZ (hwk hw 43 rfl)) (mvT hZ (hwk hw 44 rfl)) (by decide) (backOf (W := 0) (rmW3 l Z a0 hw [] a aI aT aP kI kT kP I106 D106 P106 o106 ap ((oo + (3 : Int32)) &&& (3 : Int32)) (FP.i2d q3) (fun i => (fun i => (fun i => (fun _ => False) i ∨ i = oo) i ∨ i = ((oo + (1 : Int32)) &&& (3 : Int32))) i ∨ i = ((oo + (2 : Int32)) &&& (3 : Int32))) T106.heap n0 Z106 hB HR110 (own_and3 _) inv106 (fun h => h.elim (fun g => g.elim (fun g => g.elim (fun f => f) ro4) ro5) ro6) (i2d_fin _).noNaN) hZ (hwk hw 44 rfl) (hwk hw 43 rfl) (by decide) (by decide)) (g := (mkF m 139 #[iv q0, iv q1, iv q2, iv q3, iv q4, iv q5, rv a, iv (4 : Int32), iv oo, .unset] [(.double (FP.i2d q3)), (.int ((oo + (3 : Int32)) &&& (3 : Int32))), (.int ap), (.ref a)])) rfl (by rw [hml]; rfl) (argsL := [(.ref a), (.int ap), (.int ((oo + (3 : Int32)) &&& (3 : Int32))), (.double (FP.i2d q3))]) (rest := []) (lenOf pd__Lcom_example_redoubt_redoubt_engine_IndexHeap_ZID_V_601b rfl) rfl (by show 2 * 0 + _ ≤ _; exact Nat.le_of_eq rfl) (hb hby at_139) (fun _ _ => ⟨rfl, rfl, (by decide : 4 + 0 ≤ 16), (by decide : 17 + 0 ≤ 128)⟩)
            dsimp only [Pt.U, Pt.locs, Pt.cells, Pt.slots] at X111 l111 y111 z111 st111 hQ111
            subst l111 y111 z111
            obtain ⟨I111, D111, P111, o111, rfl, N111q, K111, HQ111, inv111⟩ := hQ111
            have Z111 : n0 ≤ T111.heap.size := Nat.le_trans Z106 K111.1
            obtain ⟨E113, FI113, FT113, FP113, FS113, FO113, VI113, VT113, VP113⟩ := id HQ111
            have N111 := Fr.app N106 N111q
            refine Goes.st st111 ?_
            show Gs p e below s _ _ _ T111 m 142 #[iv q0, iv q1, iv q2, iv q3, iv q4, iv q5, rv a, iv (4 : Int32), iv oo, .unset] []
            refine giloadN X111 hx (hb hby at_142) rfl ?_
            refine giconst X111 hx (hb hby at_143) ?_
            refine giand X111 hx (hb hby at_144) trivial ?_
            show Gs p e below s _ _ _ T111 m 145 #[iv q0, iv q1, iv q2, iv q3, iv q4, iv q5, rv a, iv (4 : Int32), iv oo, .unset] [(.int (q2 &&& (2 : Int32)))]
            by_cases c114 : (q2 &&& (2 : Int32)) = (0 : Int32)
            · refine gifYes X111 hx (pc' := 159) (hb hby at_145) ((if0 _ _).trans (teq c114).1) (by decide) (by decide) ?_
              show Gs p e below s _ _ _ T111 m 159 #[iv q0, iv q1, iv q2, iv q3, iv q4, iv q5, rv a, iv (4 : Int32), iv oo, .unset] []
              refine gaload X111 hx (hb hby at_159) rfl rfl ?_
              have HR115 : HR Z T111.heap a aI aT aP kI kT kP I111 D111 P111 (4 : Int32) o111 := ⟨E113, FI113, FT113, FP113, FS113, FO113, VI113, VT113, VP113⟩
              obtain ⟨cq116, kq116, qa116, qb116, qc116⟩ := isOf hZ rfl E113
              obtain ⟨_, _, ⟨T116, L116, k116, n116⟩, -, X116, ⟨Lc116, hQ116, l116, y116, z116⟩, st116⟩ := X111.virtualBack hx (y := mN16) (z := mN16) hown (mvT hZ (hwk hw 24 rfl)) (mvT hZ (hwk hw 25 rfl)) (notFace_of_selects (args := #[]) (mvT hZ (hwk hw 27 rfl))) (mvT hZ (hwk hw 27 rfl)) (mvT hZ (hwk hw 26 rfl)) (by decide) (backOf (W := 0) (rmC4 l Z a0 hw [] a aI aT aP kI kT kP I111 D111 P111 o111 (fun i => (fun i => (fun i => (fun i => (fun _ => False) i ∨ i = oo) i ∨ i = ((oo + (1 : Int32)) &&& (3 : Int32))) i ∨ i = ((oo + (2 : Int32)) &&& (3 : Int32))) i ∨ i = ((oo + (3 : Int32)) &&& (3 : Int32))) T111.heap n0 Z111 hB HR115 inv111) hZ (hwk hw 28 rfl) (hwk hw 2 rfl) (by decide) (by decide)) qa116 qc116 (g := (mkF m 161 #[iv q0, iv q1, iv q2, iv q3, iv q4, iv q5, rv a, iv (4 : Int32), iv oo, .unset] [(.ref a)])) rfl (by rw [hml]; rfl) (Steps.refl _) (argsL := []) (rest := []) (lenOf pd___V_566 rfl) rfl (by show 2 * 0 + _ ≤ _; exact Nat.le_of_eq rfl) (hb hby at_161) (fun _ _ => ⟨rfl, rfl, (by decide : 4 + 0 ≤ 16), (by decide : 17 + 0 ≤ 128)⟩)
              dsimp only [Pt.U, Pt.locs, Pt.cells, Pt.slots] at X116 l116 y116 z116 st116 hQ116
              subst l116 y116 z116
              obtain ⟨rfl, N116q, K116, HQ116⟩ := hQ116
              have Z116 : n0 ≤ T116.heap.size := Nat.le_trans Z111 K116.1
              obtain ⟨E118, FI118, FT118, FP118, FS118, FO118, VI118, VT118, VP118⟩ := id HQ116
              have N116 := Fr.app N111 N116q
              refine Goes.sts st116 ?_
              show Gs p e below s _ _ _ T116 m 164 #[iv q0, iv q1, iv q2, iv q3, iv q4, iv q5, rv a, iv (4 : Int32), iv oo, .unset] []
              exact tailS Z a0 hw hx hby hlk hret hml hown hnm hZ q0 q1 q2 q3 q4 q5 (4 : Int32) oo a aI aT aP kI kT kP I111 D111 h0 T116.heap n0 T116 _ X116 rfl N116 Z116 (fun _ _ N => ⟨rfl, N⟩) hB HQ116
            · refine gifNo X111 hx (hb hby at_145) ((if0 _ _).trans (feq c114).1) ?_
              show Gs p e below s _ _ _ T111 m 148 #[iv q0, iv q1, iv q2, iv q3, iv q4, iv q5, rv a, iv (4 : Int32), iv oo, .unset] []
              refine giload X111 hx (hb hby at_148) rfl ?_
              show Gs p e below s _ _ _ T111 m 150 #[iv q0, iv q1, iv q2, iv q3, iv q4, iv q5, rv a, iv (4 : Int32), iv oo, .unset] [(.int (4 : Int32))]
              refine gifNo X111 hx (hb hby at_150) (by decide) ?_
              show Gs p e below s _ _ _ T111 m 153 #[iv q0, iv q1, iv q2, iv q3, iv q4, iv q5, rv a, iv (4 : Int32), iv oo, .unset] []
              refine gaload X111 hx (hb hby at_153) rfl rfl ?_
              have HR119 : HR Z T111.heap a aI aT aP kI kT kP I111 D111 P111 (4 : Int32) o111 := ⟨E113, FI113, FT113, FP113, FS113, FO113, VI113, VT113, VP113⟩
              obtain ⟨cq120, kq120, qa120, qb120, qc120⟩ := isOf hZ rfl E113
              obtain ⟨_, _, ⟨T120, L120, k120, n120⟩, -, X120, ⟨Lc120, hQ120, l120, y120, z120⟩, st120⟩ := X111.virtualBack hx (y := mN15) (z := mN15) hown (mvT hZ (hwk hw 82 rfl)) (mvT hZ (hwk hw 83 rfl)) (notFace_of_selects (args := #[]) (mvT hZ (hwk hw 85 rfl))) (mvT hZ (hwk hw 85 rfl)) (mvT hZ (hwk hw 84 rfl)) (by decide) (backOf (W := 0) (rmP4 l Z a0 hw [] a aI aT aP kI kT kP I111 D111 P111 o111 (fun i => (fun i => (fun i => (fun i => (fun _ => False) i ∨ i = oo) i ∨ i = ((oo + (1 : Int32)) &&& (3 : Int32))) i ∨ i = ((oo + (2 : Int32)) &&& (3 : Int32))) i ∨ i = ((oo + (3 : Int32)) &&& (3 : Int32))) T111.heap n0 Z111 hB HR119 inv111) hZ (hwk hw 86 rfl) (hwk hw 2 rfl) (by decide) (by decide)) qa120 qc120 (g := (mkF m 155 #[iv q0, iv q1, iv q2, iv q3, iv q4, iv q5, rv a, iv (4 : Int32), iv oo, .unset] [(.ref a)])) rfl (by rw [hml]; rfl) (Steps.refl _) (argsL := []) (rest := []) (lenOf pd___I_4f1 rfl) rfl (by show 2 * 0 + _ ≤ _; exact Nat.le_of_eq rfl) (hb hby at_155) (fun _ _ => ⟨rfl, rfl, (by decide : 4 + 0 ≤ 16), (by decide : 17 + 0 ≤ 128)⟩)
              dsimp only [Pt.U, Pt.locs, Pt.cells, Pt.slots] at X120 l120 y120 z120 st120 hQ120
              subst l120 y120 z120
              obtain ⟨I120, D120, P120, o120, xr120, rfl, N120q, K120, HQ120, inv120⟩ := hQ120
              have Z120 : n0 ≤ T120.heap.size := Nat.le_trans Z111 K120.1
              obtain ⟨E122, FI122, FT122, FP122, FS122, FO122, VI122, VT122, VP122⟩ := id HQ120
              have N120 := Fr.app N111 N120q
              refine Goes.sts st120 ?_
              show Gs p e below s _ _ _ T120 m 158 #[iv q0, iv q1, iv q2, iv q3, iv q4, iv q5, rv a, iv (4 : Int32), iv oo, .unset] [(.int xr120)]
              refine Goes.st (fun tg kg => XT.pop X120.here hx rfl (hb hby at_158) rfl rfl kg) ?_
              show Gs p e below s _ _ _ T120 m 159 #[iv q0, iv q1, iv q2, iv q3, iv q4, iv q5, rv a, iv (4 : Int32), iv oo, .unset] []
              refine gaload X120 hx (hb hby at_159) rfl rfl ?_
              have HR123 : HR Z T120.heap a aI aT aP kI kT kP I120 D120 P120 (3 : Int32) o120 := ⟨E122, FI122, FT122, FP122, FS122, FO122, VI122, VT122, VP122⟩
              obtain ⟨cq124, kq124, qa124, qb124, qc124⟩ := isOf hZ rfl E122
              obtain ⟨_, _, ⟨T124, L124, k124, n124⟩, -, X124, ⟨Lc124, hQ124, l124, y124, z124⟩, st124⟩ := X120.virtualBack hx (y := mN16) (z := mN16) hown (mvT hZ (hwk hw 24 rfl)) (mvT hZ (hwk hw 25 rfl)) (notFace_of_selects (args := #[]) (mvT hZ (hwk hw 27 rfl))) (mvT hZ (hwk hw 27 rfl)) (mvT hZ (hwk hw 26 rfl)) (by decide) (backOf (W := 0) (rmC3 l Z a0 hw [] a aI aT aP kI kT kP I120 D120 P120 o120 (fun i => (fun i => (fun i => (fun i => (fun _ => False) i ∨ i = oo) i ∨ i = ((oo + (1 : Int32)) &&& (3 : Int32))) i ∨ i = ((oo + (2 : Int32)) &&& (3 : Int32))) i ∨ i = ((oo + (3 : Int32)) &&& (3 : Int32))) T120.heap n0 Z120 hB HR123 inv120) hZ (hwk hw 28 rfl) (hwk hw 2 rfl) (by decide) (by decide)) qa124 qc124 (g := (mkF m 161 #[iv q0, iv q1, iv q2, iv q3, iv q4, iv q5, rv a, iv (4 : Int32), iv oo, .unset] [(.ref a)])) rfl (by rw [hml]; rfl) (Steps.refl _) (argsL := []) (rest := []) (lenOf pd___V_566 rfl) rfl (by show 2 * 0 + _ ≤ _; exact Nat.le_of_eq rfl) (hb hby at_161) (fun _ _ => ⟨rfl, rfl, (by decide : 4 + 0 ≤ 16), (by decide : 17 + 0 ≤ 128)⟩)
              dsimp only [Pt.U, Pt.locs, Pt.cells, Pt.slots] at X124 l124 y124 z124 st124 hQ124
              subst l124 y124 z124
              obtain ⟨rfl, N124q, K124, HQ124⟩ := hQ124
              have Z124 : n0 ≤ T124.heap.size := Nat.le_trans Z120 K124.1
              obtain ⟨E126, FI126, FT126, FP126, FS126, FO126, VI126, VT126, VP126⟩ := id HQ124
              have N124 := Fr.app N120 N124q
              refine Goes.sts st124 ?_
              show Gs p e below s _ _ _ T124 m 164 #[iv q0, iv q1, iv q2, iv q3, iv q4, iv q5, rv a, iv (4 : Int32), iv oo, .unset] []
              exact tailS Z a0 hw hx hby hlk hret hml hown hnm hZ q0 q1 q2 q3 q4 q5 (4 : Int32) oo a aI aT aP kI kT kP I120 D120 h0 T124.heap n0 T124 _ X124 rfl N124 Z124 (fun _ _ N => ⟨rfl, N⟩) hB HQ124
          by_cases c127 : (q2 &&& (16 : Int32)) = (0 : Int32)
          · refine gifYes X106 hx (pc' := 130) (hb hby at_123) ((if0 _ _).trans (teq c127).1) (by decide) (by decide) ?_
            show Gs p e below s _ _ _ T106 m 130 #[iv q0, iv q1, iv q2, iv q3, iv q4, iv q5, rv a, iv (4 : Int32), iv oo, .unset] [(.ref a)]
            refine giconst X106 hx (hb hby at_130) ?_
            show Gs p e below s _ _ _ T106 m 131 #[iv q0, iv q1, iv q2, iv q3, iv q4, iv q5, rv a, iv (4 : Int32), iv oo, .unset] [(.int (0 : Int32)), (.ref a)]
            exact J109 _
          · refine gifNo X106 hx (hb hby at_123) ((if0 _ _).trans (feq c127).1) ?_
            show Gs p e below s _ _ _ T106 m 126 #[iv q0, iv q1, iv q2, iv q3, iv q4, iv q5, rv a, iv (4 : Int32), iv oo, .unset] [(.ref a)]
            refine giconst X106 hx (hb hby at_126) ?_
            show Gs p e below s _ _ _ T106 m 127 #[iv q0, iv q1, iv q2, iv q3, iv q4, iv q5, rv a, iv (4 : Int32), iv oo, .unset] [(.int (1 : Int32)), (.ref a)]
            refine ggoto X106 hx (pc' := 131) (hb hby at_127) (by decide) (by decide) ?_
            show Gs p e below s _ _ _ T106 m 131 #[iv q0, iv q1, iv q2, iv q3, iv q4, iv q5, rv a, iv (4 : Int32), iv oo, .unset] [(.int (1 : Int32)), (.ref a)]
            exact J109 _
        by_cases c128 : (q2 &&& (8 : Int32)) = (0 : Int32)
        · refine gifYes X101 hx (pc' := 98) (hb hby at_91) ((if0 _ _).trans (teq c128).1) (by decide) (by decide) ?_
          show Gs p e below s _ _ _ T101 m 98 #[iv q0, iv q1, iv q2, iv q3, iv q4, iv q5, rv a, iv (4 : Int32), iv oo, .unset] [(.ref a)]
          refine giconst X101 hx (hb hby at_98) ?_
          show Gs p e below s _ _ _ T101 m 99 #[iv q0, iv q1, iv q2, iv q3, iv q4, iv q5, rv a, iv (4 : Int32), iv oo, .unset] [(.int (0 : Int32)), (.ref a)]
          exact J104 _
        · refine gifNo X101 hx (hb hby at_91) ((if0 _ _).trans (feq c128).1) ?_
          show Gs p e below s _ _ _ T101 m 94 #[iv q0, iv q1, iv q2, iv q3, iv q4, iv q5, rv a, iv (4 : Int32), iv oo, .unset] [(.ref a)]
          refine giconst X101 hx (hb hby at_94) ?_
          show Gs p e below s _ _ _ T101 m 95 #[iv q0, iv q1, iv q2, iv q3, iv q4, iv q5, rv a, iv (4 : Int32), iv oo, .unset] [(.int (1 : Int32)), (.ref a)]
          refine ggoto X101 hx (pc' := 99) (hb hby at_95) (by decide) (by decide) ?_
          show Gs p e below s _ _ _ T101 m 99 #[iv q0, iv q1, iv q2, iv q3, iv q4, iv q5, rv a, iv (4 : Int32), iv oo, .unset] [(.int (1 : Int32)), (.ref a)]
          exact J104 _
      by_cases c129 : (q2 &&& (4 : Int32)) = (0 : Int32)
      · refine gifYes X96 hx (pc' := 66) (hb hby at_59) ((if0 _ _).trans (teq c129).1) (by decide) (by decide) ?_
        show Gs p e below s _ _ _ T96 m 66 #[iv q0, iv q1, iv q2, iv q3, iv q4, iv q5, rv a, iv (4 : Int32), iv oo, .unset] [(.ref a)]
        refine giconst X96 hx (hb hby at_66) ?_
        show Gs p e below s _ _ _ T96 m 67 #[iv q0, iv q1, iv q2, iv q3, iv q4, iv q5, rv a, iv (4 : Int32), iv oo, .unset] [(.int (0 : Int32)), (.ref a)]
        exact J99 _
      · refine gifNo X96 hx (hb hby at_59) ((if0 _ _).trans (feq c129).1) ?_
        show Gs p e below s _ _ _ T96 m 62 #[iv q0, iv q1, iv q2, iv q3, iv q4, iv q5, rv a, iv (4 : Int32), iv oo, .unset] [(.ref a)]
        refine giconst X96 hx (hb hby at_62) ?_
        show Gs p e below s _ _ _ T96 m 63 #[iv q0, iv q1, iv q2, iv q3, iv q4, iv q5, rv a, iv (4 : Int32), iv oo, .unset] [(.int (1 : Int32)), (.ref a)]
        refine ggoto X96 hx (pc' := 67) (hb hby at_63) (by decide) (by decide) ?_
        show Gs p e below s _ _ _ T96 m 67 #[iv q0, iv q1, iv q2, iv q3, iv q4, iv q5, rv a, iv (4 : Int32), iv oo, .unset] [(.int (1 : Int32)), (.ref a)]
        exact J99 _
    by_cases c130 : (q2 &&& (1 : Int32)) = (0 : Int32)
    · refine gifYes X3 hx (pc' := 40) (hb hby at_33) ((if0 _ _).trans (teq c130).1) (by decide) (by decide) ?_
      show Gs p e below s _ _ _ T3 m 40 #[iv q0, iv q1, iv q2, iv q3, iv q4, iv q5, rv a, iv (4 : Int32), iv oo, .unset] [(.ref a)]
      refine giconst X3 hx (hb hby at_40) ?_
      show Gs p e below s _ _ _ T3 m 41 #[iv q0, iv q1, iv q2, iv q3, iv q4, iv q5, rv a, iv (4 : Int32), iv oo, .unset] [(.int (0 : Int32)), (.ref a)]
      exact J94 _
    · refine gifNo X3 hx (hb hby at_33) ((if0 _ _).trans (feq c130).1) ?_
      show Gs p e below s _ _ _ T3 m 36 #[iv q0, iv q1, iv q2, iv q3, iv q4, iv q5, rv a, iv (4 : Int32), iv oo, .unset] [(.ref a)]
      refine giconst X3 hx (hb hby at_36) ?_
      show Gs p e below s _ _ _ T3 m 37 #[iv q0, iv q1, iv q2, iv q3, iv q4, iv q5, rv a, iv (4 : Int32), iv oo, .unset] [(.int (1 : Int32)), (.ref a)]
      refine ggoto X3 hx (pc' := 41) (hb hby at_37) (by decide) (by decide) ?_
      show Gs p e below s _ _ _ T3 m 41 #[iv q0, iv q1, iv q2, iv q3, iv q4, iv q5, rv a, iv (4 : Int32), iv oo, .unset] [(.int (1 : Int32)), (.ref a)]
      exact J94 _
set_option maxRecDepth 65536 in
set_option maxHeartbeats 40000000 in
theorem comes_1 {Post : Tables → Env → Array Value → State → Outcome → State → Prop} (hpost : ∀ tb e args s v u, (limb_1_1.after args s (.returned v) u = true ∧ limb_1_2.after args s (.returned v) u = true ∧ True) → FrameEnd s (.returned v) u (Jvm.fieldLocs frame_1_writes args s ++ Jvm.arrayLocs frame_1_arrays args s ++ Jvm.staticLocs frame_1_statics s) 16 128 → Post tb e args s (.returned v) u) :
    ArmFor flags0 classFile x code maxLocals ret World_1 tables_1 room_1 Calls_1 rest_1 Pre_1 Post := by
  intro l hfl _ _ p e ha hc hk s m args below hf hA hF happ hP
  obtain ⟨hcalls, hrest, hpre⟩ := hP
  obtain ⟨-, -, -, hnamed, -, -, -, hat⟩ := (Spec.applies_iff hf).mp happ
  obtain ⟨hg, hn⟩ := and_e (Cond.before_iff.mp (show (Jvm.Cond.and given_1 narrow_1).before args s = true from hpre))
  obtain ⟨hcnt, hg⟩ := and_e hg
  obtain ⟨ga0, hg⟩ := and_e hg
  obtain ⟨ga1, hg⟩ := and_e hg
  obtain ⟨ga2, hg⟩ := and_e hg
  obtain ⟨ga3, hg⟩ := and_e hg
  obtain ⟨ga4, hg⟩ := and_e hg
  have ga5 := hg
  obtain ⟨w0, w1, w2, w3, w4, w5, rfl⟩ : ∃ w0 w1 w2 w3 w4 w5 : Value, args = #[w0, w1, w2, w3, w4, w5] := by
    have hs : args.size = 6 := by simpa [Cond.value, given_1] using hcnt
    obtain ⟨L⟩ := args
    match L, hs with
    | [w0, w1, w2, w3, w4, w5], _ => exact ⟨w0, w1, w2, w3, w4, w5, rfl⟩
  have hw := fun d (hd : d ∈ tables_1) => atoms_spec (ws := Jvm.Cond.code x code maxLocals ret :: tables_1) hat d (List.mem_cons_of_mem _ hd)
  have hfit : Fit s := fun {y c} hc i hi => by
    obtain ⟨ha, rfl⟩ := Array.getElem?_eq_some_iff.mp hc
    have q := List.all_eq_true.mp ((Array.all_eq_true_iff_forall_mem.mp hF) _ (Array.getElem_mem ha)) i (List.mem_range.mpr hi)
    simpa [Array.getElem?_eq_getElem hi] using q
  obtain ⟨i0, q0⟩ := is_v ga0
  obtain rfl : w0 = (.int i0) := Option.some.inj q0
  obtain ⟨i1, q1⟩ := is_v ga1
  obtain rfl : w1 = (.int i1) := Option.some.inj q1
  obtain ⟨i2, q2⟩ := is_v ga2
  obtain rfl : w2 = (.int i2) := Option.some.inj q2
  obtain ⟨i3, q3⟩ := is_v ga3
  obtain rfl : w3 = (.int i3) := Option.some.inj q3
  obtain ⟨i4, q4⟩ := is_v ga4
  obtain rfl : w4 = (.int i4) := Option.some.inj q4
  obtain ⟨i5, q5⟩ := is_v ga5
  obtain rfl : w5 = (.int i5) := Option.some.inj q5
  obtain ⟨n, o, h1, h2, h3, _, L, rfl, ⟨rfl, N⟩, hq⟩ := rm0 l s _ hw tables_1 i0 i1 i2 i3 i4 i5  s.heap s.heap.size (Nat.le_refl _)  p e ha hc hk s m _ below hf ((Spec.applies_iff_loose hf).mp happ).1 ⟨rfl, State.Warmed39.refl s, rfl⟩ trivial
  refine ⟨n, _, h1, h2, h3, hpost _ _ _ _ _ _ ⟨Cond.after_iff.mpr rfl, Cond.after_iff.mpr (eq_i res_at (Term.int_eval (1)) rfl), trivial⟩ ⟨hq.1, hq.2.1, (hq.2.2.sift fun y hy => Or.inr (N y hy)).mono (by decide) (by decide)⟩⟩
theorem main_1_1 : Claimed_1_1 := comes_1 fun _ _ _ _ _ _ h hF => ⟨h.1, hF⟩
theorem main_1_2 : Claimed_1_2 := comes_1 fun _ _ _ _ _ _ h hF => ⟨h.2.1, hF⟩
end Jvm.Pilot.@@N@@
namespace Jvm.Pilot.@@N@@
open Jvm Jvm.ClassFile Sem Op Lib Jvm.Free Jvm.Stand Jvm.Pilot.@@N@@.Jvm.D
/-! MADE BY PROGRAM (witnessworld.py) out of the Statement's table words and the real class files: 17 classes; the members and pool entries that the words name. The judged class is class 1, her method 2. -/
namespace start1
open Jvm.ClassFile
def u (s : String) : CpInfo := .utf8 (stringToUtf16 s)
/-- a pool by its gaps: so many unusable entries, then the entry; so many at the end -/
def gap : Nat → List CpInfo → List CpInfo
  | 0, r => r
  | n + 1, r => .unusable :: gap n r
def poolList (es : List (Nat × CpInfo)) (last : Nat) : List CpInfo := es.foldr (fun e r => gap e.1 (e.2 :: r)) (gap last [])
def pool (es : List (Nat × CpInfo)) (last : Nat) : Array CpInfo := ⟨poolList es last⟩
def fileOf (pool : Array CpInfo) (this : Nat) (attrs : Array Attribute := #[]) (ms : Array MethodInfo := #[]) (fl : Nat := 33) (sup : Nat := 0) (ifs : Array Nat := #[]) (fds : Array FieldInfo := #[]) : ClassFile where
  minorVersion := 0
  majorVersion := 65
  constantPool := pool
  accessFlags := fl
  thisClass := this
  superClass := sup
  interfaces := ifs
  fields := fds
  methods := ms
  attributes := attrs
def plain (name : String) (sup : Option ClassId) : Class where
  name := name
  kind := .ordinary
  loader := none
  accessFlags := 33
  super := sup
  interfaces := #[]
  cf := none
  fields := #[]
  methods := #[]
  instanceTypes := #[]
  staticTypes := #[]
  resolved := #[]
  callSites := []
  init := .initialized
  statics := none
  mirror := none

def pool0 : Array CpInfo := pool [(5, u "<init>"), (0, u "()V"), (1, .class_ 10), (1, u "java/lang/Object")] 113

def k0c0 : Code := { maxStack := 0, maxLocals := 1, code := object_method_1_code, exceptionTable := #[], attributes := #[] }
def k0m0 : Method := { name := "<init>", desc := "()V", sig := { parameters := [], returnType := none }, accessFlags := 1, code := some k0c0 }
/-- java/lang/Object -/
def k0 : Class := { plain "java/lang/Object" none with
  accessFlags := 33
  interfaces := #[]
  cf := some (fileOf pool0 8 #[] #[{ accessFlags := 1, nameIndex := 5, descriptorIndex := 6, attributes := #[] }] 33 0 #[] #[])
  fields := #[]
  methods := #[k0m0]
  instanceTypes := #[]
  staticTypes := #[]
  resolved := Array.replicate 124 none
  statics := none }

def pool1 : Array CpInfo := pool [(2, .class_ 4), (1, u "java/lang/Object"), (0, u "<init>"), (0, u "()V"), (0, .methodref 8 9), (0, .class_ 10), (0, .nameAndType 11 12), (0, u "com/example/redoubt/redoubt/engine/IndexHeap"), (0, u "append"), (0, u "(ID)V"), (0, .methodref 8 14), (0, .nameAndType 15 12), (0, u "add"), (0, .methodref 8 17), (0, .nameAndType 5 18), (0, u "(I)V"), (0, .integer 2147483647), (0, .methodref 21 22), (0, .class_ 23), (0, .nameAndType 24 25), (0, u "com/example/redoubt/redoubt/engine/IndexHeapClearPinLaw"), (0, u "put"), (0, u "(Lcom/example/redoubt/redoubt/engine/IndexHeap;ZID)V"), (0, .methodref 8 27), (0, .nameAndType 28 29), (0, u "poll"), (0, u "()I"), (0, .methodref 8 31), (0, .nameAndType 32 6), (0, u "clear"), (0, .methodref 8 34), (0, .nameAndType 35 29), (0, u "size"), (0, .methodref 8 37), (0, .nameAndType 38 39), (0, u "contains"), (0, u "(I)Z"), (0, .methodref 8 41), (0, .nameAndType 42 43), (0, u "indexAt"), (0, u "(I)I"), (3, u "law"), (0, u "(IIIIII)Z")] 2

def k1m0 : Method := { name := "<init>", desc := "()V", sig := { parameters := [], returnType := none }, accessFlags := 1, code := none }
def k1c1 : Code := { maxStack := 4, maxLocals := 5, code := method_2_code, exceptionTable := #[], attributes := #[] }
def k1m1 : Method := { name := "put", desc := "(Lcom/example/redoubt/redoubt/engine/IndexHeap;ZID)V", sig := { parameters := [(.object "com/example/redoubt/redoubt/engine/IndexHeap"), .boolean, .int, .double], returnType := none }, accessFlags := 10, code := some k1c1 }
def k1c2 : Code := { maxStack := 5, maxLocals := 10, code := code, exceptionTable := #[], attributes := #[] }
def k1m2 : Method := { name := "law", desc := "(IIIIII)Z", sig := { parameters := [.int, .int, .int, .int, .int, .int], returnType := some .boolean }, accessFlags := 9, code := some k1c2 }
/-- com/example/redoubt/redoubt/engine/IndexHeapClearPinLaw -/
def k1 : Class := { plain "com/example/redoubt/redoubt/engine/IndexHeapClearPinLaw" (some 0) with
  accessFlags := 49
  interfaces := #[]
  cf := some (fileOf pool1 21 #[] #[{ accessFlags := 1, nameIndex := 5, descriptorIndex := 6, attributes := #[] }, { accessFlags := 10, nameIndex := 24, descriptorIndex := 25, attributes := #[] }, { accessFlags := 9, nameIndex := 47, descriptorIndex := 48, attributes := #[] }] 49 2 #[] #[])
  fields := #[]
  methods := #[k1m0, k1m1, k1m2]
  instanceTypes := #[]
  staticTypes := #[]
  resolved := Array.replicate 51 none
  statics := none }

def pool2 : Array CpInfo := pool [(1, .methodref 2 3), (0, .class_ 4), (0, .nameAndType 5 6), (0, u "java/lang/Object"), (0, u "<init>"), (0, u "()V"), (0, .fieldref 8 9), (0, .class_ 10), (0, .nameAndType 11 12), (0, u "com/example/redoubt/redoubt/engine/IndexHeap"), (0, u "ordered"), (0, u "Z"), (0, .fieldref 8 14), (0, .nameAndType 15 16), (0, u "indices"), (0, u "[I"), (0, .fieldref 8 18), (0, .nameAndType 19 20), (0, u "times"), (0, u "[D"), (0, .fieldref 8 22), (0, .nameAndType 23 16), (0, u "positions"), (0, .methodref 25 26), (0, .class_ 27), (0, .nameAndType 28 29), (0, u "java/util/Arrays"), (0, u "fill"), (0, u "([II)V"), (0, .fieldref 8 31), (0, .nameAndType 32 33), (0, u "size"), (0, u "I"), (3, u "(I)I"), (11, .methodref 8 50), (0, .nameAndType 51 6), (0, u "order"), (0, .class_ 53), (0, u "java/lang/Double"), (2, .methodref 8 57), (0, .nameAndType 58 59), (0, u "requireNew"), (0, u "(ID)V"), (0, .methodref 8 61), (0, .nameAndType 62 63), (0, u "siftUp"), (0, u "(IID)V"), (0, .methodref 8 65), (0, .nameAndType 66 63), (0, u "put"), (0, .methodref 8 68), (0, .nameAndType 69 70), (0, u "first"), (0, u "()I"), (0, .methodref 8 72), (0, .nameAndType 73 74), (0, u "removeAt"), (0, u "(I)V"), (0, .methodref 8 76), (0, .nameAndType 77 78), (0, u "requireTime"), (0, u "(D)V"), (0, .methodref 8 80), (0, .nameAndType 81 63), (0, u "siftDown"), (9, .methodref 8 92), (0, .nameAndType 93 94), (0, u "isBefore"), (0, u "(DIDI)Z"), (8, .methodref 52 104), (0, .nameAndType 105 106), (0, u "isNaN"), (0, u "(D)Z"), (10, u "contains"), (0, u "(I)Z"), (2, u "indexAt"), (4, u "add"), (0, u "append"), (0, u "poll"), (1, u "clear")] 24

def k2c0 : Code := { maxStack := 2, maxLocals := 2, code := prog_23_method_1_code, exceptionTable := #[], attributes := #[] }
def k2m0 : Method := { name := "<init>", desc := "(I)V", sig := { parameters := [.int], returnType := none }, accessFlags := 1, code := some k2c0 }
def k2c1 : Code := { maxStack := 1, maxLocals := 1, code := prog_23_method_2_code, exceptionTable := #[], attributes := #[] }
def k2m1 : Method := { name := "size", desc := "()I", sig := { parameters := [], returnType := some .int }, accessFlags := 1, code := some k2c1 }
def k2c2 : Code := { maxStack := 2, maxLocals := 2, code := prog_23_method_4_code, exceptionTable := #[], attributes := #[] }
def k2m2 : Method := { name := "contains", desc := "(I)Z", sig := { parameters := [.int], returnType := some .boolean }, accessFlags := 1, code := some k2c2 }
def k2c3 : Code := { maxStack := 2, maxLocals := 2, code := prog_23_method_6_code, exceptionTable := #[], attributes := #[] }
def k2m3 : Method := { name := "indexAt", desc := "(I)I", sig := { parameters := [.int], returnType := some .int }, accessFlags := 1, code := some k2c3 }
def k2c4 : Code := { maxStack := 3, maxLocals := 1, code := prog_23_method_8_code, exceptionTable := #[], attributes := #[] }
def k2m4 : Method := { name := "first", desc := "()I", sig := { parameters := [], returnType := some .int }, accessFlags := 1, code := some k2c4 }
def k2c5 : Code := { maxStack := 5, maxLocals := 5, code := prog_23_method_11_code, exceptionTable := #[], attributes := #[] }
def k2m5 : Method := { name := "add", desc := "(ID)V", sig := { parameters := [.int, .double], returnType := none }, accessFlags := 1, code := some k2c5 }
def k2c6 : Code := { maxStack := 5, maxLocals := 4, code := prog_23_method_12_code, exceptionTable := #[], attributes := #[] }
def k2m6 : Method := { name := "append", desc := "(ID)V", sig := { parameters := [.int, .double], returnType := none }, accessFlags := 1, code := some k2c6 }
def k2c7 : Code := { maxStack := 2, maxLocals := 2, code := prog_23_method_13_code, exceptionTable := #[], attributes := #[] }
def k2m7 : Method := { name := "poll", desc := "()I", sig := { parameters := [], returnType := some .int }, accessFlags := 1, code := some k2c7 }
def k2c8 : Code := { maxStack := 3, maxLocals := 2, code := prog_23_method_15_code, exceptionTable := #[], attributes := #[] }
def k2m8 : Method := { name := "clear", desc := "()V", sig := { parameters := [], returnType := none }, accessFlags := 1, code := some k2c8 }
def k2c9 : Code := { maxStack := 5, maxLocals := 2, code := prog_23_method_19_code, exceptionTable := #[], attributes := #[] }
def k2m9 : Method := { name := "order", desc := "()V", sig := { parameters := [], returnType := none }, accessFlags := 2, code := some k2c9 }
def k2c10 : Code := { maxStack := 5, maxLocals := 5, code := prog_23_method_21_code, exceptionTable := #[], attributes := #[] }
def k2m10 : Method := { name := "removeAt", desc := "(I)V", sig := { parameters := [.int], returnType := none }, accessFlags := 2, code := some k2c10 }
def k2c11 : Code := { maxStack := 7, maxLocals := 7, code := prog_23_method_22_code, exceptionTable := #[], attributes := #[] }
def k2m11 : Method := { name := "siftUp", desc := "(IID)V", sig := { parameters := [.int, .int, .double], returnType := none }, accessFlags := 2, code := some k2c11 }
def k2c12 : Code := { maxStack := 7, maxLocals := 9, code := prog_23_method_23_code, exceptionTable := #[], attributes := #[] }
def k2m12 : Method := { name := "siftDown", desc := "(IID)V", sig := { parameters := [.int, .int, .double], returnType := none }, accessFlags := 2, code := some k2c12 }
def k2c13 : Code := { maxStack := 4, maxLocals := 5, code := prog_23_method_24_code, exceptionTable := #[], attributes := #[] }
def k2m13 : Method := { name := "put", desc := "(IID)V", sig := { parameters := [.int, .int, .double], returnType := none }, accessFlags := 2, code := some k2c13 }
def k2c14 : Code := { maxStack := 3, maxLocals := 4, code := prog_23_method_26_code, exceptionTable := #[], attributes := #[] }
def k2m14 : Method := { name := "requireNew", desc := "(ID)V", sig := { parameters := [.int, .double], returnType := none }, accessFlags := 2, code := some k2c14 }
def k2c15 : Code := { maxStack := 3, maxLocals := 2, code := prog_23_method_27_code, exceptionTable := #[], attributes := #[] }
def k2m15 : Method := { name := "requireTime", desc := "(D)V", sig := { parameters := [.double], returnType := none }, accessFlags := 10, code := some k2c15 }
def k2c16 : Code := { maxStack := 4, maxLocals := 6, code := prog_23_method_28_code, exceptionTable := #[], attributes := #[] }
def k2m16 : Method := { name := "isBefore", desc := "(DIDI)Z", sig := { parameters := [.double, .int, .double, .int], returnType := some .boolean }, accessFlags := 10, code := some k2c16 }
/-- com/example/redoubt/redoubt/engine/IndexHeap -/
def k2 : Class := { plain "com/example/redoubt/redoubt/engine/IndexHeap" (some 0) with
  accessFlags := 49
  interfaces := #[]
  cf := some (fileOf pool2 8 #[] #[{ accessFlags := 1, nameIndex := 5, descriptorIndex := 74, attributes := #[] }, { accessFlags := 1, nameIndex := 32, descriptorIndex := 70, attributes := #[] }, { accessFlags := 1, nameIndex := 117, descriptorIndex := 118, attributes := #[] }, { accessFlags := 1, nameIndex := 121, descriptorIndex := 37, attributes := #[] }, { accessFlags := 1, nameIndex := 69, descriptorIndex := 70, attributes := #[] }, { accessFlags := 1, nameIndex := 126, descriptorIndex := 59, attributes := #[] }, { accessFlags := 1, nameIndex := 127, descriptorIndex := 59, attributes := #[] }, { accessFlags := 1, nameIndex := 128, descriptorIndex := 70, attributes := #[] }, { accessFlags := 1, nameIndex := 130, descriptorIndex := 6, attributes := #[] }, { accessFlags := 2, nameIndex := 51, descriptorIndex := 6, attributes := #[] }, { accessFlags := 2, nameIndex := 73, descriptorIndex := 74, attributes := #[] }, { accessFlags := 2, nameIndex := 62, descriptorIndex := 63, attributes := #[] }, { accessFlags := 2, nameIndex := 81, descriptorIndex := 63, attributes := #[] }, { accessFlags := 2, nameIndex := 66, descriptorIndex := 63, attributes := #[] }, { accessFlags := 2, nameIndex := 58, descriptorIndex := 59, attributes := #[] }, { accessFlags := 10, nameIndex := 77, descriptorIndex := 78, attributes := #[] }, { accessFlags := 10, nameIndex := 93, descriptorIndex := 94, attributes := #[] }] 49 2 #[] #[{ accessFlags := 18, nameIndex := 15, descriptorIndex := 16, attributes := #[] }, { accessFlags := 18, nameIndex := 19, descriptorIndex := 20, attributes := #[] }, { accessFlags := 18, nameIndex := 23, descriptorIndex := 16, attributes := #[] }, { accessFlags := 2, nameIndex := 32, descriptorIndex := 33, attributes := #[] }, { accessFlags := 2, nameIndex := 11, descriptorIndex := 12, attributes := #[] }])
  fields := #[{ name := "indices", type := (.array .int), accessFlags := 18, slot := 0, constantValue := 0 }, { name := "times", type := (.array .double), accessFlags := 18, slot := 1, constantValue := 0 }, { name := "positions", type := (.array .int), accessFlags := 18, slot := 2, constantValue := 0 }, { name := "size", type := .int, accessFlags := 2, slot := 3, constantValue := 0 }, { name := "ordered", type := .boolean, accessFlags := 2, slot := 4, constantValue := 0 }]
  methods := #[k2m0, k2m1, k2m2, k2m3, k2m4, k2m5, k2m6, k2m7, k2m8, k2m9, k2m10, k2m11, k2m12, k2m13, k2m14, k2m15, k2m16]
  instanceTypes := #[(.array .int), (.array .double), (.array .int), .int, .boolean]
  staticTypes := #[]
  resolved := Array.replicate 155 none
  statics := none }

def pool3 : Array CpInfo := pool [(2, .class_ 4), (1, u "java/lang/Object"), (0, u "<init>"), (0, u "()V"), (7, .class_ 16), (1, u "java/util/Arrays"), (57, .class_ 76), (1, u "java/util/Arrays$NaturalOrder"), (36, .class_ 115), (1, u "java/util/Arrays$LegacyMergeSort"), (1, u "Z"), (257, .class_ 376), (0, u "java/util/Arrays$ArrayList"), (68, u "$assertionsDisabled"), (269, u "MIN_ARRAY_SORT_GRAN"), (0, u "I"), (2, u "INSERTIONSORT_THRESHOLD"), (120, u "fill"), (4, u "([II)V"), (129, .class_ 976), (0, u "java/util/Arrays$ArrayItr")] 52

def k3m0 : Method := { name := "<init>", desc := "()V", sig := { parameters := [], returnType := none }, accessFlags := 2, code := none }
def k3c1 : Code := { maxStack := 3, maxLocals := 4, code := jdk_65_method_103_code, exceptionTable := #[], attributes := #[] }
def k3m1 : Method := { name := "fill", desc := "([II)V", sig := { parameters := [(.array .int), .int], returnType := none }, accessFlags := 9, code := some k3c1 }
/-- java/util/Arrays -/
def k3 : Class := { plain "java/util/Arrays" (some 0) with
  accessFlags := 49
  interfaces := #[]
  cf := some (fileOf pool3 14 #[.nestMembers #[975, 375, 113, 74]] #[{ accessFlags := 2, nameIndex := 5, descriptorIndex := 6, attributes := #[] }, { accessFlags := 9, nameIndex := 840, descriptorIndex := 845, attributes := #[] }] 49 2 #[] #[{ accessFlags := 26, nameIndex := 715, descriptorIndex := 716, attributes := #[] }, { accessFlags := 26, nameIndex := 719, descriptorIndex := 716, attributes := #[] }, { accessFlags := 4120, nameIndex := 445, descriptorIndex := 117, attributes := #[] }])
  fields := #[{ name := "MIN_ARRAY_SORT_GRAN", type := .int, accessFlags := 26, slot := 0, constantValue := 0 }, { name := "INSERTIONSORT_THRESHOLD", type := .int, accessFlags := 26, slot := 1, constantValue := 0 }, { name := "$assertionsDisabled", type := .boolean, accessFlags := 4120, slot := 2, constantValue := 0 }]
  methods := #[k3m0, k3m1]
  instanceTypes := #[]
  staticTypes := #[.int, .int, .boolean]
  resolved := Array.replicate 1029 none
  statics := none }

def pool4 : Array CpInfo := pool [(1, .class_ 2), (0, u "java/io/Serializable"), (0, .class_ 4), (0, u "java/lang/Object")] 2

/-- java/io/Serializable -/
def k4 : Class := { plain "java/io/Serializable" (some 0) with
  accessFlags := 1537
  interfaces := #[]
  cf := some (fileOf pool4 1 #[] #[] 1537 3 #[] #[])
  fields := #[]
  methods := #[]
  instanceTypes := #[]
  staticTypes := #[]
  resolved := Array.replicate 7 none
  statics := none }

def pool5 : Array CpInfo := pool [(2, .class_ 4), (1, u "java/lang/Object"), (0, u "<init>"), (0, u "()V"), (1, .class_ 10), (1, u "java/lang/Number"), (2, .class_ 14), (0, u "java/io/Serializable"), (0, u "serialVersionUID"), (0, u "J")] 20

def k5m0 : Method := { name := "<init>", desc := "()V", sig := { parameters := [], returnType := none }, accessFlags := 1, code := none }
/-- java/lang/Number -/
def k5 : Class := { plain "java/lang/Number" (some 0) with
  accessFlags := 1057
  interfaces := #[4]
  cf := some (fileOf pool5 8 #[] #[{ accessFlags := 1, nameIndex := 5, descriptorIndex := 6, attributes := #[] }] 1057 2 #[13] #[{ accessFlags := 26, nameIndex := 15, descriptorIndex := 16, attributes := #[] }])
  fields := #[{ name := "serialVersionUID", type := .long, accessFlags := 26, slot := 0, constantValue := 0 }]
  methods := #[k5m0]
  instanceTypes := #[]
  staticTypes := #[.long]
  resolved := Array.replicate 37 none
  statics := none }

def pool6 : Array CpInfo := pool [(1, .class_ 2), (0, u "java/lang/Comparable"), (0, .class_ 4), (0, u "java/lang/Object")] 7

/-- java/lang/Comparable -/
def k6 : Class := { plain "java/lang/Comparable" (some 0) with
  accessFlags := 1537
  interfaces := #[]
  cf := some (fileOf pool6 1 #[] #[] 1537 3 #[] #[])
  fields := #[]
  methods := #[]
  instanceTypes := #[]
  staticTypes := #[]
  resolved := Array.replicate 12 none
  statics := none }

def pool7 : Array CpInfo := pool [(1, .class_ 2), (0, u "java/lang/constant/Constable"), (0, .class_ 4), (0, u "java/lang/Object")] 6

/-- java/lang/constant/Constable -/
def k7 : Class := { plain "java/lang/constant/Constable" (some 0) with
  accessFlags := 1537
  interfaces := #[]
  cf := some (fileOf pool7 1 #[] #[] 1537 3 #[] #[])
  fields := #[]
  methods := #[]
  instanceTypes := #[]
  staticTypes := #[]
  resolved := Array.replicate 11 none
  statics := none }

def pool8 : Array CpInfo := pool [(1, .class_ 2), (0, u "java/lang/constant/ConstantDesc"), (0, .class_ 4), (0, u "java/lang/Object")] 32

/-- java/lang/constant/ConstantDesc -/
def k8 : Class := { plain "java/lang/constant/ConstantDesc" (some 0) with
  accessFlags := 1537
  interfaces := #[]
  cf := some (fileOf pool8 1 #[] #[] 1537 3 #[] #[])
  fields := #[]
  methods := #[]
  instanceTypes := #[]
  staticTypes := #[]
  resolved := Array.replicate 37 none
  statics := none }

def pool9 : Array CpInfo := pool [(1, .class_ 2), (0, u "java/lang/Double"), (11, u "(D)Z"), (99, .class_ 116), (1, u "java/lang/Number"), (3, u "value"), (0, u "D"), (2, u "isNaN"), (48, u "TYPE"), (0, u "Ljava/lang/Class;"), (0, .class_ 176), (0, u "java/lang/Comparable"), (0, .class_ 178), (0, u "java/lang/constant/Constable"), (0, .class_ 180), (0, u "java/lang/constant/ConstantDesc"), (0, u "POSITIVE_INFINITY"), (3, u "NEGATIVE_INFINITY"), (2, u "NaN"), (2, u "MAX_VALUE"), (0, u "MIN_NORMAL"), (0, u "MIN_VALUE"), (2, u "SIZE"), (0, u "I"), (1, u "PRECISION"), (1, u "MAX_EXPONENT"), (1, u "MIN_EXPONENT"), (1, u "BYTES"), (3, u "serialVersionUID"), (0, u "J")] 79

def k9c0 : Code := { maxStack := 4, maxLocals := 2, code := jdk_117_method_6_code, exceptionTable := #[], attributes := #[] }
def k9m0 : Method := { name := "isNaN", desc := "(D)Z", sig := { parameters := [.double], returnType := some .boolean }, accessFlags := 9, code := some k9c0 }
/-- java/lang/Double -/
def k9 : Class := { plain "java/lang/Double" (some 5) with
  accessFlags := 49
  interfaces := #[6, 7, 8]
  cf := some (fileOf pool9 1 #[] #[{ accessFlags := 9, nameIndex := 124, descriptorIndex := 14, attributes := #[] }] 49 114 #[175, 177, 179] #[{ accessFlags := 25, nameIndex := 181, descriptorIndex := 121, attributes := #[] }, { accessFlags := 25, nameIndex := 185, descriptorIndex := 121, attributes := #[] }, { accessFlags := 25, nameIndex := 188, descriptorIndex := 121, attributes := #[] }, { accessFlags := 25, nameIndex := 191, descriptorIndex := 121, attributes := #[] }, { accessFlags := 25, nameIndex := 192, descriptorIndex := 121, attributes := #[] }, { accessFlags := 25, nameIndex := 193, descriptorIndex := 121, attributes := #[] }, { accessFlags := 25, nameIndex := 196, descriptorIndex := 197, attributes := #[] }, { accessFlags := 25, nameIndex := 199, descriptorIndex := 197, attributes := #[] }, { accessFlags := 25, nameIndex := 201, descriptorIndex := 197, attributes := #[] }, { accessFlags := 25, nameIndex := 203, descriptorIndex := 197, attributes := #[] }, { accessFlags := 25, nameIndex := 205, descriptorIndex := 197, attributes := #[] }, { accessFlags := 25, nameIndex := 173, descriptorIndex := 174, attributes := #[] }, { accessFlags := 18, nameIndex := 120, descriptorIndex := 121, attributes := #[] }, { accessFlags := 26, nameIndex := 209, descriptorIndex := 210, attributes := #[] }])
  fields := #[{ name := "POSITIVE_INFINITY", type := .double, accessFlags := 25, slot := 0, constantValue := 0 }, { name := "NEGATIVE_INFINITY", type := .double, accessFlags := 25, slot := 1, constantValue := 0 }, { name := "NaN", type := .double, accessFlags := 25, slot := 2, constantValue := 0 }, { name := "MAX_VALUE", type := .double, accessFlags := 25, slot := 3, constantValue := 0 }, { name := "MIN_NORMAL", type := .double, accessFlags := 25, slot := 4, constantValue := 0 }, { name := "MIN_VALUE", type := .double, accessFlags := 25, slot := 5, constantValue := 0 }, { name := "SIZE", type := .int, accessFlags := 25, slot := 6, constantValue := 0 }, { name := "PRECISION", type := .int, accessFlags := 25, slot := 7, constantValue := 0 }, { name := "MAX_EXPONENT", type := .int, accessFlags := 25, slot := 8, constantValue := 0 }, { name := "MIN_EXPONENT", type := .int, accessFlags := 25, slot := 9, constantValue := 0 }, { name := "BYTES", type := .int, accessFlags := 25, slot := 10, constantValue := 0 }, { name := "TYPE", type := (.object "java/lang/Class"), accessFlags := 25, slot := 11, constantValue := 0 }, { name := "value", type := .double, accessFlags := 18, slot := 0, constantValue := 0 }, { name := "serialVersionUID", type := .long, accessFlags := 26, slot := 12, constantValue := 0 }]
  methods := #[k9m0]
  instanceTypes := #[.double]
  staticTypes := #[.double, .double, .double, .double, .double, .double, .int, .int, .int, .int, .int, (.object "java/lang/Class"), .long]
  resolved := Array.replicate 290 none
  statics := none }

def pool10 : Array CpInfo := pool [(1, u "java/lang/Cloneable"), (0, .class_ 1), (0, u "java/lang/Object"), (0, .class_ 3)] 3

/-- java/lang/Cloneable -/
def k10 : Class := { plain "java/lang/Cloneable" (some 0) with
  accessFlags := 1537
  interfaces := #[]
  cf := some (fileOf pool10 2 #[] #[] 1537 4 #[] #[])
  fields := #[]
  methods := #[]
  instanceTypes := #[]
  staticTypes := #[]
  resolved := Array.replicate 8 none
  statics := none }

/-- the primitive byte -/
def k11 : Class := { plain "byte" none with kind := .primitive 'B', accessFlags := 0x411 }
/-- [B -/
def k12 : Class := { plain "[B" (some 0) with kind := .array 11 .byte, interfaces := #[10, 4], accessFlags := 1041 }

/-- the primitive double -/
def k13 : Class := { plain "double" none with kind := .primitive 'D', accessFlags := 0x411 }
/-- [D -/
def k14 : Class := { plain "[D" (some 0) with kind := .array 13 .double, interfaces := #[10, 4], accessFlags := 1041 }

/-- the primitive int -/
def k15 : Class := { plain "int" none with kind := .primitive 'I', accessFlags := 0x411 }
/-- [I -/
def k16 : Class := { plain "[I" (some 0) with kind := .array 15 .int, interfaces := #[10, 4], accessFlags := 1041 }

def heap : Heap := #[]
def classes : Array Class := #[k0, k1, k2, k3, k4, k5, k6, k7, k8, k9, k10, k11, k12, k13, k14, k15, k16]
def interned : List (Array UInt16 × Addr) := []
def slotsUsed : Nat := 0
def theMethod : MethodId := ⟨1, 2⟩
def args0 : Array Value := #[.int 3, .int 1, .int 3, .int 5, .int 4, .int 7]
def aboutOver (below : List Frame) : State where
  vm := { classes := classes, interned := interned.toArray }
  heap := heap
  slotsUsed := slotsUsed
  threads := #[{ frames := .invoking theMethod args0 :: below }]
def below0 : List Frame := [.native { method := ⟨0, 0⟩, args := #[] }]
def about1 : State := aboutOver below0
def p0 : Program := .bare "" "" ""
def e0 : Env := launch0.env 0 0 0
theorem w_frames : about1.frames = Frame.invoking theMethod args0 :: below0 := rfl
set_option maxRecDepth 65536 in
theorem w_args : argsFit about1.vm theMethod args0 = true := by decide +kernel
set_option maxRecDepth 65536 in
theorem w_heap : heapFits about1 = true := by decide +kernel
set_option maxRecDepth 65536 in
theorem w_runnable : about1.curStatus? = some .runnable := by decide +kernel
set_option maxRecDepth 65536 in
theorem w_alone : about1.alone = true := by decide +kernel
set_option maxRecDepth 65536 in
theorem w_named : about1.methodNamed? x = some theMethod := by decide +kernel
set_option maxRecDepth 65536 in
theorem w_hears : about1.hears theMethod below0 = true := by decide +kernel
set_option maxRecDepth 65536 in
theorem w_ripe : about1.ripe theMethod args0 below0 = true := by decide +kernel
theorem w_running : about1.status = .running := rfl
set_option maxRecDepth 65536 in
theorem w_room : about1.hasRoom e0.platform room_1 = true :=
  launch0.hasRoom_least _ room_1 (by decide +kernel) (by decide +kernel) (by decide +kernel) (by decide +kernel) (by decide +kernel) (by decide +kernel)
theorem allAtoms_all (ts : List Jvm.Cond) (a : Array Jvm.Value) (st : Jvm.State) : (allAtoms ts).before a st = ts.all (fun c => c.before a st) := by
  induction ts with
  | nil => rfl
  | cons c t ih =>
    show (Jvm.Cond.and c (allAtoms t)).before a st = _
    rw [Jvm.Cond.before_and, ih, List.all_cons]
def words1 : List Jvm.Cond := Jvm.Cond.code x code maxLocals ret :: tables_1
/-- a 'code' word, met by the world's own term for the bytes: nothing is compared byte by byte -/
theorem code_word {y : MethodName} {bytes : ByteArray} {mx : Nat} {rt : Option FieldType} {a : Array Value} {s : State} {m : MethodId} {meth : Method} {c : Code} (h1 : s.methodNamed? y = some m) (h2 : s.vm.method? m = some meth) (h3 : meth.code = some c) (h4 : c.code = bytes)
    (h5 : (c.maxLocals == mx && c.exceptionTable.isEmpty && decide (c.maxStack ≤ mostOperands) && decide (meth.sig.returnType = rt) && !meth.locks && decide (parseMethodDescriptor y.desc = some meth.sig)) = true) : (Jvm.Cond.code y bytes mx rt).before a s = true := by
  simp only [Bool.and_eq_true, beq_iff_eq, Bool.not_eq_true', decide_eq_true_eq] at h5
  obtain ⟨⟨⟨⟨⟨g1, g2⟩, g3⟩, g4⟩, g5⟩, g6⟩ := h5
  simp [Cond.before, Cond.holds, Cond.value, h1, h2, h3, h4, g1, g2, g3, g4, g5, g6]
def isCode : Jvm.Cond → Bool
  | .code _ _ _ _ => true
  | _ => false
theorem all_split {L : List Jvm.Cond} {P : Jvm.Cond → Bool} (h1 : L.all (fun c => isCode c || P c) = true) (h2 : ∀ c ∈ L.filter isCode, P c = true) : L.all P = true := by
  refine List.all_eq_true.mpr fun c hc => ?_
  have h := List.all_eq_true.mp h1 c hc
  rcases Bool.eq_false_or_eq_true (isCode c) with hi | hi
  · exact h2 c (List.mem_filter.mpr ⟨hc, hi⟩)
  · simpa [hi] using h
set_option maxRecDepth 65536 in
theorem w_c0 : (Jvm.Cond.code x code maxLocals ret).before args0 about1 = true := code_word (m := ⟨1, 2⟩) (meth := k1m2) (c := k1c2) (by decide +kernel) rfl rfl rfl (by decide +kernel)
set_option maxRecDepth 65536 in
theorem w_c1 : (Jvm.Cond.code ({ cls := "com/example/redoubt/redoubt/engine/IndexHeap", name := "<init>", desc := "(I)V" } : Jvm.MethodName) prog_23_method_1_code (2 : Nat) (Option.none : Option Jvm.ClassFile.FieldType)).before args0 about1 = true := code_word (m := ⟨2, 0⟩) (meth := k2m0) (c := k2c0) (by decide +kernel) rfl rfl rfl (by decide +kernel)
set_option maxRecDepth 65536 in
theorem w_c2 : (Jvm.Cond.code ({ cls := "java/lang/Object", name := "<init>", desc := "()V" } : Jvm.MethodName) object_method_1_code (1 : Nat) (Option.none : Option Jvm.ClassFile.FieldType)).before args0 about1 = true := code_word (m := ⟨0, 0⟩) (meth := k0m0) (c := k0c0) (by decide +kernel) rfl rfl rfl (by decide +kernel)
set_option maxRecDepth 65536 in
theorem w_c3 : (Jvm.Cond.code ({ cls := "java/util/Arrays", name := "fill", desc := "([II)V" } : Jvm.MethodName) jdk_65_method_103_code (4 : Nat) (Option.none : Option Jvm.ClassFile.FieldType)).before args0 about1 = true := code_word (m := ⟨3, 1⟩) (meth := k3m1) (c := k3c1) (by decide +kernel) rfl rfl rfl (by decide +kernel)
set_option maxRecDepth 65536 in
theorem w_c4 : (Jvm.Cond.code ({ cls := "com/example/redoubt/redoubt/engine/IndexHeap", name := "clear", desc := "()V" } : Jvm.MethodName) prog_23_method_15_code (2 : Nat) (Option.none : Option Jvm.ClassFile.FieldType)).before args0 about1 = true := code_word (m := ⟨2, 8⟩) (meth := k2m8) (c := k2c8) (by decide +kernel) rfl rfl rfl (by decide +kernel)
set_option maxRecDepth 65536 in
theorem w_c5 : (Jvm.Cond.code ({ cls := "com/example/redoubt/redoubt/engine/IndexHeap", name := "size", desc := "()I" } : Jvm.MethodName) prog_23_method_2_code (1 : Nat) (Option.some Jvm.ClassFile.FieldType.int)).before args0 about1 = true := code_word (m := ⟨2, 1⟩) (meth := k2m1) (c := k2c1) (by decide +kernel) rfl rfl rfl (by decide +kernel)
set_option maxRecDepth 65536 in
theorem w_c6 : (Jvm.Cond.code ({ cls := "com/example/redoubt/redoubt/engine/IndexHeap", name := "contains", desc := "(I)Z" } : Jvm.MethodName) prog_23_method_4_code (2 : Nat) (Option.some Jvm.ClassFile.FieldType.boolean)).before args0 about1 = true := code_word (m := ⟨2, 2⟩) (meth := k2m2) (c := k2c2) (by decide +kernel) rfl rfl rfl (by decide +kernel)
set_option maxRecDepth 65536 in
theorem w_c7 : (Jvm.Cond.code ({ cls := "com/example/redoubt/redoubt/engine/IndexHeapClearPinLaw", name := "put", desc := "(Lcom/example/redoubt/redoubt/engine/IndexHeap;ZID)V" } : Jvm.MethodName) method_2_code (5 : Nat) (Option.none : Option Jvm.ClassFile.FieldType)).before args0 about1 = true := code_word (m := ⟨1, 1⟩) (meth := k1m1) (c := k1c1) (by decide +kernel) rfl rfl rfl (by decide +kernel)
set_option maxRecDepth 65536 in
theorem w_c8 : (Jvm.Cond.code ({ cls := "com/example/redoubt/redoubt/engine/IndexHeap", name := "add", desc := "(ID)V" } : Jvm.MethodName) prog_23_method_11_code (5 : Nat) (Option.none : Option Jvm.ClassFile.FieldType)).before args0 about1 = true := code_word (m := ⟨2, 5⟩) (meth := k2m5) (c := k2c5) (by decide +kernel) rfl rfl rfl (by decide +kernel)
set_option maxRecDepth 65536 in
theorem w_c9 : (Jvm.Cond.code ({ cls := "com/example/redoubt/redoubt/engine/IndexHeap", name := "requireNew", desc := "(ID)V" } : Jvm.MethodName) prog_23_method_26_code (4 : Nat) (Option.none : Option Jvm.ClassFile.FieldType)).before args0 about1 = true := code_word (m := ⟨2, 14⟩) (meth := k2m14) (c := k2c14) (by decide +kernel) rfl rfl rfl (by decide +kernel)
set_option maxRecDepth 65536 in
theorem w_c10 : (Jvm.Cond.code ({ cls := "com/example/redoubt/redoubt/engine/IndexHeap", name := "requireTime", desc := "(D)V" } : Jvm.MethodName) prog_23_method_27_code (2 : Nat) (Option.none : Option Jvm.ClassFile.FieldType)).before args0 about1 = true := code_word (m := ⟨2, 15⟩) (meth := k2m15) (c := k2c15) (by decide +kernel) rfl rfl rfl (by decide +kernel)
set_option maxRecDepth 65536 in
theorem w_c11 : (Jvm.Cond.code ({ cls := "java/lang/Double", name := "isNaN", desc := "(D)Z" } : Jvm.MethodName) jdk_117_method_6_code (2 : Nat) (Option.some Jvm.ClassFile.FieldType.boolean)).before args0 about1 = true := code_word (m := ⟨9, 0⟩) (meth := k9m0) (c := k9c0) (by decide +kernel) rfl rfl rfl (by decide +kernel)
set_option maxRecDepth 65536 in
theorem w_c12 : (Jvm.Cond.code ({ cls := "com/example/redoubt/redoubt/engine/IndexHeap", name := "siftUp", desc := "(IID)V" } : Jvm.MethodName) prog_23_method_22_code (7 : Nat) (Option.none : Option Jvm.ClassFile.FieldType)).before args0 about1 = true := code_word (m := ⟨2, 11⟩) (meth := k2m11) (c := k2c11) (by decide +kernel) rfl rfl rfl (by decide +kernel)
set_option maxRecDepth 65536 in
theorem w_c13 : (Jvm.Cond.code ({ cls := "com/example/redoubt/redoubt/engine/IndexHeap", name := "put", desc := "(IID)V" } : Jvm.MethodName) prog_23_method_24_code (5 : Nat) (Option.none : Option Jvm.ClassFile.FieldType)).before args0 about1 = true := code_word (m := ⟨2, 13⟩) (meth := k2m13) (c := k2c13) (by decide +kernel) rfl rfl rfl (by decide +kernel)
set_option maxRecDepth 65536 in
theorem w_c14 : (Jvm.Cond.code ({ cls := "com/example/redoubt/redoubt/engine/IndexHeap", name := "isBefore", desc := "(DIDI)Z" } : Jvm.MethodName) prog_23_method_28_code (6 : Nat) (Option.some Jvm.ClassFile.FieldType.boolean)).before args0 about1 = true := code_word (m := ⟨2, 16⟩) (meth := k2m16) (c := k2c16) (by decide +kernel) rfl rfl rfl (by decide +kernel)
set_option maxRecDepth 65536 in
theorem w_c15 : (Jvm.Cond.code ({ cls := "com/example/redoubt/redoubt/engine/IndexHeap", name := "indexAt", desc := "(I)I" } : Jvm.MethodName) prog_23_method_6_code (2 : Nat) (Option.some Jvm.ClassFile.FieldType.int)).before args0 about1 = true := code_word (m := ⟨2, 3⟩) (meth := k2m3) (c := k2c3) (by decide +kernel) rfl rfl rfl (by decide +kernel)
set_option maxRecDepth 65536 in
theorem w_c16 : (Jvm.Cond.code ({ cls := "com/example/redoubt/redoubt/engine/IndexHeap", name := "append", desc := "(ID)V" } : Jvm.MethodName) prog_23_method_12_code (4 : Nat) (Option.none : Option Jvm.ClassFile.FieldType)).before args0 about1 = true := code_word (m := ⟨2, 6⟩) (meth := k2m6) (c := k2c6) (by decide +kernel) rfl rfl rfl (by decide +kernel)
set_option maxRecDepth 65536 in
theorem w_c17 : (Jvm.Cond.code ({ cls := "com/example/redoubt/redoubt/engine/IndexHeap", name := "poll", desc := "()I" } : Jvm.MethodName) prog_23_method_13_code (2 : Nat) (Option.some Jvm.ClassFile.FieldType.int)).before args0 about1 = true := code_word (m := ⟨2, 7⟩) (meth := k2m7) (c := k2c7) (by decide +kernel) rfl rfl rfl (by decide +kernel)
set_option maxRecDepth 65536 in
theorem w_c18 : (Jvm.Cond.code ({ cls := "com/example/redoubt/redoubt/engine/IndexHeap", name := "first", desc := "()I" } : Jvm.MethodName) prog_23_method_8_code (1 : Nat) (Option.some Jvm.ClassFile.FieldType.int)).before args0 about1 = true := code_word (m := ⟨2, 4⟩) (meth := k2m4) (c := k2c4) (by decide +kernel) rfl rfl rfl (by decide +kernel)
set_option maxRecDepth 65536 in
theorem w_c19 : (Jvm.Cond.code ({ cls := "com/example/redoubt/redoubt/engine/IndexHeap", name := "order", desc := "()V" } : Jvm.MethodName) prog_23_method_19_code (2 : Nat) (Option.none : Option Jvm.ClassFile.FieldType)).before args0 about1 = true := code_word (m := ⟨2, 9⟩) (meth := k2m9) (c := k2c9) (by decide +kernel) rfl rfl rfl (by decide +kernel)
set_option maxRecDepth 65536 in
theorem w_c20 : (Jvm.Cond.code ({ cls := "com/example/redoubt/redoubt/engine/IndexHeap", name := "siftDown", desc := "(IID)V" } : Jvm.MethodName) prog_23_method_23_code (9 : Nat) (Option.none : Option Jvm.ClassFile.FieldType)).before args0 about1 = true := code_word (m := ⟨2, 12⟩) (meth := k2m12) (c := k2c12) (by decide +kernel) rfl rfl rfl (by decide +kernel)
set_option maxRecDepth 65536 in
theorem w_c21 : (Jvm.Cond.code ({ cls := "com/example/redoubt/redoubt/engine/IndexHeap", name := "removeAt", desc := "(I)V" } : Jvm.MethodName) prog_23_method_21_code (5 : Nat) (Option.none : Option Jvm.ClassFile.FieldType)).before args0 about1 = true := code_word (m := ⟨2, 10⟩) (meth := k2m10) (c := k2c10) (by decide +kernel) rfl rfl rfl (by decide +kernel)
def codes1 : List Jvm.Cond := [Jvm.Cond.code x code maxLocals ret, Jvm.Cond.code ({ cls := "com/example/redoubt/redoubt/engine/IndexHeap", name := "<init>", desc := "(I)V" } : Jvm.MethodName) prog_23_method_1_code (2 : Nat) (Option.none : Option Jvm.ClassFile.FieldType), Jvm.Cond.code ({ cls := "java/lang/Object", name := "<init>", desc := "()V" } : Jvm.MethodName) object_method_1_code (1 : Nat) (Option.none : Option Jvm.ClassFile.FieldType), Jvm.Cond.code ({ cls := "java/util/Arrays", name := "fill", desc := "([II)V" } : Jvm.MethodName) jdk_65_method_103_code (4 : Nat) (Option.none : Option Jvm.ClassFile.FieldType), Jvm.Cond.code ({ cls := "com/example/redoubt/redoubt/engine/IndexHeap", name := "clear", desc := "()V" } : Jvm.MethodName) prog_23_method_15_code (2 : Nat) (Option.none : Option Jvm.ClassFile.FieldType), Jvm.Cond.code ({ cls := "com/example/redoubt/redoubt/engine/IndexHeap", name := "size", desc := "()I" } : Jvm.MethodName) prog_23_method_2_code (1 : Nat) (Option.some Jvm.ClassFile.FieldType.int), Jvm.Cond.code ({ cls := "com/example/redoubt/redoubt/engine/IndexHeap", name := "contains", desc := "(I)Z" } : Jvm.MethodName) prog_23_method_4_code (2 : Nat) (Option.some Jvm.ClassFile.FieldType.boolean), Jvm.Cond.code ({ cls := "com/example/redoubt/redoubt/engine/IndexHeapClearPinLaw", name := "put", desc := "(Lcom/example/redoubt/redoubt/engine/IndexHeap;ZID)V" } : Jvm.MethodName) method_2_code (5 : Nat) (Option.none : Option Jvm.ClassFile.FieldType), Jvm.Cond.code ({ cls := "com/example/redoubt/redoubt/engine/IndexHeap", name := "add", desc := "(ID)V" } : Jvm.MethodName) prog_23_method_11_code (5 : Nat) (Option.none : Option Jvm.ClassFile.FieldType), Jvm.Cond.code ({ cls := "com/example/redoubt/redoubt/engine/IndexHeap", name := "requireNew", desc := "(ID)V" } : Jvm.MethodName) prog_23_method_26_code (4 : Nat) (Option.none : Option Jvm.ClassFile.FieldType), Jvm.Cond.code ({ cls := "com/example/redoubt/redoubt/engine/IndexHeap", name := "requireTime", desc := "(D)V" } : Jvm.MethodName) prog_23_method_27_code (2 : Nat) (Option.none : Option Jvm.ClassFile.FieldType), Jvm.Cond.code ({ cls := "java/lang/Double", name := "isNaN", desc := "(D)Z" } : Jvm.MethodName) jdk_117_method_6_code (2 : Nat) (Option.some Jvm.ClassFile.FieldType.boolean), Jvm.Cond.code ({ cls := "com/example/redoubt/redoubt/engine/IndexHeap", name := "siftUp", desc := "(IID)V" } : Jvm.MethodName) prog_23_method_22_code (7 : Nat) (Option.none : Option Jvm.ClassFile.FieldType), Jvm.Cond.code ({ cls := "com/example/redoubt/redoubt/engine/IndexHeap", name := "put", desc := "(IID)V" } : Jvm.MethodName) prog_23_method_24_code (5 : Nat) (Option.none : Option Jvm.ClassFile.FieldType), Jvm.Cond.code ({ cls := "com/example/redoubt/redoubt/engine/IndexHeap", name := "isBefore", desc := "(DIDI)Z" } : Jvm.MethodName) prog_23_method_28_code (6 : Nat) (Option.some Jvm.ClassFile.FieldType.boolean), Jvm.Cond.code ({ cls := "com/example/redoubt/redoubt/engine/IndexHeap", name := "indexAt", desc := "(I)I" } : Jvm.MethodName) prog_23_method_6_code (2 : Nat) (Option.some Jvm.ClassFile.FieldType.int), Jvm.Cond.code ({ cls := "com/example/redoubt/redoubt/engine/IndexHeap", name := "append", desc := "(ID)V" } : Jvm.MethodName) prog_23_method_12_code (4 : Nat) (Option.none : Option Jvm.ClassFile.FieldType), Jvm.Cond.code ({ cls := "com/example/redoubt/redoubt/engine/IndexHeap", name := "poll", desc := "()I" } : Jvm.MethodName) prog_23_method_13_code (2 : Nat) (Option.some Jvm.ClassFile.FieldType.int), Jvm.Cond.code ({ cls := "com/example/redoubt/redoubt/engine/IndexHeap", name := "first", desc := "()I" } : Jvm.MethodName) prog_23_method_8_code (1 : Nat) (Option.some Jvm.ClassFile.FieldType.int), Jvm.Cond.code ({ cls := "com/example/redoubt/redoubt/engine/IndexHeap", name := "order", desc := "()V" } : Jvm.MethodName) prog_23_method_19_code (2 : Nat) (Option.none : Option Jvm.ClassFile.FieldType), Jvm.Cond.code ({ cls := "com/example/redoubt/redoubt/engine/IndexHeap", name := "siftDown", desc := "(IID)V" } : Jvm.MethodName) prog_23_method_23_code (9 : Nat) (Option.none : Option Jvm.ClassFile.FieldType), Jvm.Cond.code ({ cls := "com/example/redoubt/redoubt/engine/IndexHeap", name := "removeAt", desc := "(I)V" } : Jvm.MethodName) prog_23_method_21_code (5 : Nat) (Option.none : Option Jvm.ClassFile.FieldType)]
set_option maxRecDepth 65536 in
theorem codes_eq : words1.filter isCode = codes1 := rfl
theorem w_codes : ∀ c ∈ words1.filter isCode, c.before args0 about1 = true := by
  rw [codes_eq]
  intro c hc
  simp only [codes1, List.mem_cons, List.not_mem_nil, or_false] at hc
  rcases hc with rfl | rfl | rfl | rfl | rfl | rfl | rfl | rfl | rfl | rfl | rfl | rfl | rfl | rfl | rfl | rfl | rfl | rfl | rfl | rfl | rfl | rfl
  · exact w_c0
  · exact w_c1
  · exact w_c2
  · exact w_c3
  · exact w_c4
  · exact w_c5
  · exact w_c6
  · exact w_c7
  · exact w_c8
  · exact w_c9
  · exact w_c10
  · exact w_c11
  · exact w_c12
  · exact w_c13
  · exact w_c14
  · exact w_c15
  · exact w_c16
  · exact w_c17
  · exact w_c18
  · exact w_c19
  · exact w_c20
  · exact w_c21
set_option maxRecDepth 65536 in
theorem w_t1 : (words1.take 24).all (fun c => isCode c || c.before args0 about1) = true := by decide +kernel
set_option maxRecDepth 65536 in
theorem w_t2 : ((words1.drop 24).take 24).all (fun c => isCode c || c.before args0 about1) = true := by decide +kernel
set_option maxRecDepth 65536 in
theorem w_t3 : (((words1.drop 24).drop 24).take 24).all (fun c => isCode c || c.before args0 about1) = true := by decide +kernel
set_option maxRecDepth 65536 in
theorem w_t4 : ((((words1.drop 24).drop 24).drop 24).take 24).all (fun c => isCode c || c.before args0 about1) = true := by decide +kernel
set_option maxRecDepth 65536 in
theorem w_t5 : ((((words1.drop 24).drop 24).drop 24).drop 24).all (fun c => isCode c || c.before args0 about1) = true := by decide +kernel
theorem w_tables : (allAtoms (Jvm.Cond.code x code maxLocals ret :: tables_1)).before args0 about1 = true := by
  rw [allAtoms_all]
  show words1.all (fun c => c.before args0 about1) = true
  refine all_split ?_ w_codes
  rw [← List.take_append_drop 24 words1, List.all_append, w_t1, ← List.take_append_drop 24 (words1.drop 24), List.all_append, w_t2, ← List.take_append_drop 24 ((words1.drop 24).drop 24), List.all_append, w_t3, ← List.take_append_drop 24 (((words1.drop 24).drop 24).drop 24), List.all_append, w_t4, w_t5]
  rfl
set_option maxRecDepth 65536 in
theorem w_case : (Jvm.Cond.and given_1 narrow_1).before args0 about1 = true := by decide +kernel
theorem w_applies : (headSpec (Jvm.Cond.code x code maxLocals ret :: tables_1) room_1).applies x e0.platform about1 = true :=
  (Spec.applies_iff w_frames).mpr ⟨w_running, w_runnable, w_alone, w_named, w_hears, w_ripe, w_room, w_tables⟩
theorem atStart : AtStart classFile x code maxLocals ret World_1 tables_1 room_1 Calls_1 rest_1 Pre_1 launch0 p0 e0 about1 theMethod args0 below0 :=
  ⟨lists_1, trivial, launch0.admits_env _ _ _, launch0.least_env, fairChoices_fair.cas, fairChoices_fair.clock, w_frames, w_args, w_heap, w_applies, trivial, trivial, w_case⟩
end start1
theorem witness_1 : WitnessClaimed_1 := ⟨start1.p0, start1.e0, start1.about1, start1.theMethod, start1.args0, start1.below0, start1.atStart⟩
end Jvm.Pilot.@@N@@
