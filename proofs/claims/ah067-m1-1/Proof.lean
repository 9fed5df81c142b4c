import JvmDerived
import JvmDerived.Pilot.@@N@@Statement
import JvmDerived.Pilot.@@N@@Code
set_option linter.unusedVariables false
set_option linter.unusedSimpArgs false
namespace Jvm.RoadKit
open Sem ClassFile Op Lib Jvm.Stand Jvm.Free Jvm.LawKit
section OwnWalk
variable {p : Program} {l : Launch} {e : Env} {R : Room} {s : State} {m : MethodId} {args : Array Value} {below : List Frame} {meth : Method} {c : Code} {T : State} {locs : List Loc} {cells slots : Nat} {E : Outcome → State → Prop} {pc : Nat} {Ls : Array Slot} {sk : List Value}
/-- what a walk owes from a state on: it comes to an end as the contract says -/
def Goes (p : Program) (e : Env) (below : List Frame) (E : Outcome → State → Prop) (st : State) : Prop :=
  ∃ s₂ o, Steps p.tables e below st s₂ ∧ s₂.status = .running ∧ Ended s₂ below o ∧ E o s₂
abbrev Gs (p : Program) (e : Env) (below : List Frame) (E : Outcome → State → Prop) (T : State) (m : MethodId) (pc : Nat) (Ls : Array Slot) (st : List Value) : Prop := Goes p e below E (T.setTop (mkF m pc Ls st))
/-- the end, the table of interned texts as it was -/
abbrev EN (s : State) (Q : Option Value → Heap → List Loc → Prop) (cs ss : Nat) : Outcome → State → Prop := fun o u => ∃ v L, o = .returned v ∧ Q v u.heap L ∧ FrameEnd s o u L cs ss
/-- the end, where texts may have been interned -/
abbrev EV (s : State) (Q : Option Value → Heap → List Loc → Prop) (cs ss : Nat) : Outcome → State → Prop := fun o u => ∃ v L, o = .returned v ∧ Q v u.heap L ∧ ReturnedEndW s o u L cs ss
theorem Goes.st {st st' : State} (h : ∀ t, Steps p.tables e below st' t → Steps p.tables e below st t) (g : Goes p e below E st') : Goes p e below E st := by
  obtain ⟨s2, o, h1, r⟩ := g
  exact ⟨s2, o, h _ h1, r⟩
theorem Goes.sts {st st' : State} (h : Steps p.tables e below st st') (g : Goes p e below E st') : Goes p e below E st := Goes.st (fun _ k => h.trans k) g
/-- the frame can be left with v -/
def Lv (e : Env) (below : List Frame) (E : Outcome → State → Prop) (m : MethodId) (T : State) (v : Option Value) : Prop :=
  ∃ fs, (∀ (f : JFrame) (acts : List Action), f.method = m → f.locked = none → f.entered = [] → (doReturn e (T.setTop f) acts v).1 = T.setFrames fs) ∧ (T.setFrames fs).status = .running ∧ Ended (T.setFrames fs) below (.returned v) ∧ E (.returned v) (T.setFrames fs)
theorem lvN {Q : Option Value → Heap → List Loc → Prop} {cs ss : Nat} (X : Stand p l e R s m args below meth c T locs cells slots) (hlk : meth.locks = false) {v : Option Value} (hv : meth.sig.returnType = none → v = none) (hq : Q v T.heap locs) (hc : cells ≤ cs) (hs : slots ≤ ss) : Lv e below (EN s Q cs ss) m T v := by
  obtain ⟨fs, hr, hrun, hended, hW, hsame⟩ := X.leave (v := v) hv hlk
  exact ⟨fs, hr, hrun, hended, _, _, rfl, hq, ⟨_, rfl⟩, hW, hsame.mono hc hs⟩
theorem lvV {Q : Option Value → Heap → List Loc → Prop} {cs ss : Nat} {vm0 : Vm} (X : Stand p l e R (s.setVm vm0) m args below meth c T locs cells slots) (hlk : meth.locks = false) {k0 : Nat} (hS : s.Since vm0 k0) (hk : k0 ≤ T.heap.size) {v : Option Value} (hv : meth.sig.returnType = none → v = none) (hq : Q v T.heap locs) (hc : cells ≤ cs) (hs : slots ≤ ss) : Lv e below (EV s Q cs ss) m T v := by
  obtain ⟨fs, hr, hrun, hended, h1, h2, h3, h4⟩ := X.leaveW hS hk (v := v) hv hlk
  exact ⟨fs, hr, hrun, hended, _, _, rfl, hq, h1, h2, h3, h4.mono hc hs⟩
theorem vsome {rt : Option FieldType} {t : FieldType} {v : Option Value} (hret : rt = some t) : rt = none → v = none := fun h => by rw [hret] at h; cases h
theorem Goes.fin {v : Option Value} (lv : Lv e below E m T v) {F : JFrame} (hst : ∀ fs, (∀ (f : JFrame) (acts : List Action), f.method = m → f.locked = none → f.entered = [] → (doReturn e (T.setTop f) acts v).1 = T.setFrames fs) → Steps p.tables e below (T.setTop F) (T.setFrames fs)) : Goes p e below E (T.setTop F) := by
  obtain ⟨fs, hr, hrun, hended, hE⟩ := lv
  exact ⟨_, _, hst fs hr, hrun, hended, hE⟩
theorem Goes.retN (X : Stand p l e R s m args below meth c T locs cells slots) (hx : p.tables.exec = Jvm.exec) {t : FieldType} (hret : meth.sig.returnType = some t) (ht : t = .boolean ∨ t = .byte ∨ t = .char ∨ t = .short) {z : Int32} (hd : decode c.code pc = .ok (.ireturn, 1)) (hn : nar t z = z) (lv : Lv e below E m T (some (.int z))) : Goes p e below E (T.setTop (mkF m pc Ls (.int z :: sk))) :=
  Goes.fin lv fun fs hr => RoadKit.retN X hx hret ht hd (by rw [hn]; exact hr)
theorem Goes.retW (X : Stand p l e R s m args below meth c T locs cells slots) (hx : p.tables.exec = Jvm.exec) {t : FieldType} (hret : meth.sig.returnType = some t) {w : Value} {i : Instr} (hn : narrow t w = w) (hi : (i = .ireturn ∧ (t = .int ∨ t = .boolean ∨ t = .byte ∨ t = .char ∨ t = .short) ∧ ∃ z, w = .int z) ∨ (i = .lreturn ∧ t = .long ∧ ∃ z, w = .long z) ∨ (i = .dreturn ∧ t = .double ∧ ∃ z, w = .double z) ∨ (i = .freturn ∧ t = .float ∧ ∃ z, w = .float z) ∨ (i = .areturn ∧ t.isReference = true ∧ w.isRef = true))
    (hd : decode c.code pc = .ok (i, 1)) (lv : Lv e below E m T (some w)) : Goes p e below E (T.setTop (mkF m pc Ls (w :: sk))) :=
  Goes.fin lv fun fs hr => RoadKit.retOut X hx hret hn hi hd hr
theorem Goes.retI (X : Stand p l e R s m args below meth c T locs cells slots) (hx : p.tables.exec = Jvm.exec) (hret : meth.sig.returnType = some .int) {z : Int32} (hd : decode c.code pc = .ok (.ireturn, 1)) (lv : Lv e below E m T (some (.int z))) : Goes p e below E (T.setTop (mkF m pc Ls (.int z :: sk))) :=
  Goes.retW X hx hret rfl (Or.inl ⟨rfl, Or.inl rfl, _, rfl⟩) hd lv
theorem Goes.retL (X : Stand p l e R s m args below meth c T locs cells slots) (hx : p.tables.exec = Jvm.exec) (hret : meth.sig.returnType = some .long) {z : Int64} (hd : decode c.code pc = .ok (.lreturn, 1)) (lv : Lv e below E m T (some (.long z))) : Goes p e below E (T.setTop (mkF m pc Ls (.long z :: sk))) :=
  Goes.retW X hx hret rfl (Or.inr (Or.inl ⟨rfl, rfl, _, rfl⟩)) hd lv
theorem Goes.retD (X : Stand p l e R s m args below meth c T locs cells slots) (hx : p.tables.exec = Jvm.exec) (hret : meth.sig.returnType = some .double) {z : UInt64} (hd : decode c.code pc = .ok (.dreturn, 1)) (lv : Lv e below E m T (some (.double z))) : Goes p e below E (T.setTop (mkF m pc Ls (.double z :: sk))) :=
  Goes.retW X hx hret rfl (Or.inr (Or.inr (Or.inl ⟨rfl, rfl, _, rfl⟩))) hd lv
theorem Goes.retA (X : Stand p l e R s m args below meth c T locs cells slots) (hx : p.tables.exec = Jvm.exec) {t : FieldType} (hret : meth.sig.returnType = some t) (ht : t.isReference = true) {w : Value} (hn : narrow t w = w) (hw : w.isRef = true) (hd : decode c.code pc = .ok (.areturn, 1)) (lv : Lv e below E m T (some w)) : Goes p e below E (T.setTop (mkF m pc Ls (w :: sk))) :=
  Goes.retW X hx hret hn (Or.inr (Or.inr (Or.inr (Or.inr ⟨rfl, ht, hw⟩)))) hd lv
theorem Goes.retV (X : Stand p l e R s m args below meth c T locs cells slots) (hx : p.tables.exec = Jvm.exec) (hret : meth.sig.returnType = none) (hd : decode c.code pc = .ok (.return_, 1)) (lv : Lv e below E m T none) : Goes p e below E (T.setTop (mkF m pc Ls [])) :=
  Goes.fin lv fun fs hr => X.returnOut hx hret hd hr
theorem hwk {ws : List Jvm.Cond} {Z : State} {a0 : Array Value} (hw : ∀ d ∈ ws, d.before a0 Z = true) (k : Nat) {d : Jvm.Cond} (h : ws[k]? = some d) : d.before a0 Z = true := hw _ (List.mem_of_getElem? h)
theorem selP {U : State} {as : Array Value} {y : MethodName} {n : Nat} (wi : (Cond.instantiable y.cls n).before as U = true) (wp : (Cond.privateMethod y).before as U = true) (wm : (Cond.instanceMethod y).before as U = true) (hy : y.cls ≠ "java/lang/invoke/MethodHandle" ∧ y.cls ≠ "java/lang/invoke/VarHandle") : (Cond.selects y.cls y y).before as U = true := by
  obtain ⟨c, k, h1, h2, -, h3, -⟩ := Cond.instantiable_spec wi
  exact Stand.selects_self_of_private h1 h2 (by simp only [Bool.or_eq_false_iff] at h3; exact h3.1) (Cond.privateMethod_at wp) wm hy
theorem strW {Z : State} {a0 : Array Value} (h1 : (Cond.initialized Bundle.sN).before a0 Z = true) (h2 : (Cond.instantiable Bundle.sN 4).before a0 Z = true) (h3 : (Cond.arrayClass .byte).before a0 Z = true) (h4 : (Cond.laysFinal Bundle.sN Bundle.sN "value" "[B").before a0 Z = true) (h5 : (Cond.laysFinal Bundle.sN Bundle.sN "coder" "B").before a0 Z = true) (h6 : (Cond.soleField Bundle.sN "value").before a0 Z = true) (h7 : (Cond.soleField Bundle.sN "coder").before a0 Z = true) : ∀ a ∈ Bundle.stringAtoms, a.before a0 Z = true := by
  intro d hd
  simp only [Bundle.stringAtoms, List.mem_cons, List.not_mem_nil, or_false] at hd
  rcases hd with rfl | rfl | rfl | rfl | rfl | rfl | rfl <;> assumption
theorem Sta.kept {Z : State} {h h' : Heap} {ws : List Addr} {C n d : String} {w : Value} (F : Sta Z h C n d w) (K : Keep h h' ws) (hns : ∀ x ∈ ws, ∀ cell : Cell, h[x]? = some cell → cell.vm.isStatics = false) : Sta Z h' C n d w := by
  obtain ⟨cf, i, k, f, st, cell, h1, h2, h3, h4, h5, h6, h7⟩ := F
  refine ⟨cf, i, k, f, st, cell, h1, h2, h3, h4, K.2.1 _ _ h5 fun q => ?_, h6, h7⟩
  have := hns _ q _ h5
  rw [h6] at this; cases this
end OwnWalk
section OwnSteps
variable {p : Program} {l : Launch} {e : Env} {R : Room} {s : State} {m : MethodId} {args : Array Value} {below : List Frame} {meth : Method} {c : Code} {T : State} {locs : List Loc} {cells slots : Nat} {E : Outcome → State → Prop} {pc : Nat} {Ls : Array Slot} {sk : List Value}
theorem giloadN (X : Stand p l e R s m args below meth c T locs cells slots) (hx : p.tables.exec = Jvm.exec) {i : Fin 4} {v : Int32} (hd : decode c.code pc = .ok (.iload_n i, 1)) (hl : Ls[i.val]? = some (.val (.int v))) (k : Goes p e below E (T.setTop (mkF m (pc + 1) Ls (.int v :: sk)))) : Goes p e below E (T.setTop (mkF m pc Ls sk)) :=
  Goes.st (fun _ q => XS.iloadN X.here hx rfl hd hl q) k
theorem glloadN (X : Stand p l e R s m args below meth c T locs cells slots) (hx : p.tables.exec = Jvm.exec) {i : Fin 4} {v : Int64} (hd : decode c.code pc = .ok (.lload_n i, 1)) (hl : Ls[i.val]? = some (.val (.long v))) (k : Goes p e below E (T.setTop (mkF m (pc + 1) Ls (.long v :: sk)))) : Goes p e below E (T.setTop (mkF m pc Ls sk)) :=
  Goes.st (fun _ q => XT.lloadN X.here hx rfl hd hl q) k
theorem gdloadN (X : Stand p l e R s m args below meth c T locs cells slots) (hx : p.tables.exec = Jvm.exec) {i : Fin 4} {v : UInt64} (hd : decode c.code pc = .ok (.dload_n i, 1)) (hl : Ls[i.val]? = some (.val (.double v))) (k : Goes p e below E (T.setTop (mkF m (pc + 1) Ls (.double v :: sk)))) : Goes p e below E (T.setTop (mkF m pc Ls sk)) :=
  Goes.st (fun _ q => XS.dloadN X.here hx rfl hd hl q) k
theorem giload (X : Stand p l e R s m args below meth c T locs cells slots) (hx : p.tables.exec = Jvm.exec) {i : Nat} {v : Int32} (hd : decode c.code pc = .ok (.iload i, 2)) (hl : Ls[i]? = some (.val (.int v))) (k : Goes p e below E (T.setTop (mkF m (pc + 2) Ls (.int v :: sk)))) : Goes p e below E (T.setTop (mkF m pc Ls sk)) :=
  Goes.st (fun _ q => XS.iload X.here hx rfl hd hl q) k
theorem glload (X : Stand p l e R s m args below meth c T locs cells slots) (hx : p.tables.exec = Jvm.exec) {i : Nat} {v : Int64} (hd : decode c.code pc = .ok (.lload i, 2)) (hl : Ls[i]? = some (.val (.long v))) (k : Goes p e below E (T.setTop (mkF m (pc + 2) Ls (.long v :: sk)))) : Goes p e below E (T.setTop (mkF m pc Ls sk)) :=
  Goes.st (fun _ q => XT.lload X.here hx rfl hd hl q) k
theorem gdload (X : Stand p l e R s m args below meth c T locs cells slots) (hx : p.tables.exec = Jvm.exec) {i : Nat} {v : UInt64} (hd : decode c.code pc = .ok (.dload i, 2)) (hl : Ls[i]? = some (.val (.double v))) (k : Goes p e below E (T.setTop (mkF m (pc + 2) Ls (.double v :: sk)))) : Goes p e below E (T.setTop (mkF m pc Ls sk)) :=
  Goes.st (fun _ q => XS.dload X.here hx rfl hd hl q) k
theorem galoadN (X : Stand p l e R s m args below meth c T locs cells slots) (hx : p.tables.exec = Jvm.exec) {i : Fin 4} {v : Value} (hd : decode c.code pc = .ok (.aload_n i, 1)) (hl : Ls[i.val]? = some (.val v)) (hv : v.isRef = true) (k : Goes p e below E (T.setTop (mkF m (pc + 1) Ls (v :: sk)))) : Goes p e below E (T.setTop (mkF m pc Ls sk)) :=
  Goes.st (fun _ q => XS.aloadN X.here hx rfl hd hl hv q) k
theorem gaload (X : Stand p l e R s m args below meth c T locs cells slots) (hx : p.tables.exec = Jvm.exec) {i : Nat} {v : Value} (hd : decode c.code pc = .ok (.aload i, 2)) (hl : Ls[i]? = some (.val v)) (hv : v.isRef = true) (k : Goes p e below E (T.setTop (mkF m (pc + 2) Ls (v :: sk)))) : Goes p e below E (T.setTop (mkF m pc Ls sk)) :=
  Goes.st (fun _ q => XS.aload X.here hx rfl hd hl hv q) k
theorem giconst (X : Stand p l e R s m args below meth c T locs cells slots) (hx : p.tables.exec = Jvm.exec) {i : Int} (hd : decode c.code pc = .ok (.iconst i, 1)) (k : Goes p e below E (T.setTop (mkF m (pc + 1) Ls (.int (Int32.ofInt i) :: sk)))) : Goes p e below E (T.setTop (mkF m pc Ls sk)) :=
  Goes.st (fun _ q => XS.iconst X.here hx rfl hd q) k
theorem giadd (X : Stand p l e R s m args below meth c T locs cells slots) (hx : p.tables.exec = Jvm.exec) {x y : Int32} (hd : decode c.code pc = .ok (.iadd, 1)) (_ : True) (k : Goes p e below E (T.setTop (mkF m (pc + 1) Ls (.int (x + y) :: sk)))) : Goes p e below E (T.setTop (mkF m pc Ls (.int y :: .int x :: sk))) :=
  Goes.st (fun _ q => XS.iadd X.here hx rfl hd rfl q) k
theorem gisub (X : Stand p l e R s m args below meth c T locs cells slots) (hx : p.tables.exec = Jvm.exec) {x y : Int32} (hd : decode c.code pc = .ok (.isub, 1)) (_ : True) (k : Goes p e below E (T.setTop (mkF m (pc + 1) Ls (.int (x - y) :: sk)))) : Goes p e below E (T.setTop (mkF m pc Ls (.int y :: .int x :: sk))) :=
  Goes.st (fun _ q => XS.isub X.here hx rfl hd rfl q) k
theorem giand (X : Stand p l e R s m args below meth c T locs cells slots) (hx : p.tables.exec = Jvm.exec) {x y : Int32} (hd : decode c.code pc = .ok (.iand, 1)) (_ : True) (k : Goes p e below E (T.setTop (mkF m (pc + 1) Ls (.int (x &&& y) :: sk)))) : Goes p e below E (T.setTop (mkF m pc Ls (.int y :: .int x :: sk))) :=
  Goes.st (fun _ q => XS.iand X.here hx rfl hd rfl q) k
theorem gimul (X : Stand p l e R s m args below meth c T locs cells slots) (hx : p.tables.exec = Jvm.exec) {x y : Int32} (hd : decode c.code pc = .ok (.imul, 1)) (_ : True) (k : Goes p e below E (T.setTop (mkF m (pc + 1) Ls (.int (x * y) :: sk)))) : Goes p e below E (T.setTop (mkF m pc Ls (.int y :: .int x :: sk))) :=
  Goes.st (fun _ q => XS.imul X.here hx rfl hd rfl q) k
theorem gdup (X : Stand p l e R s m args below meth c T locs cells slots) (hx : p.tables.exec = Jvm.exec) {x : Value} (hd : decode c.code pc = .ok (.dup, 1)) (_ : True) (hc : x.category = 1) (k : Goes p e below E (T.setTop (mkF m (pc + 1) Ls (x :: x :: sk)))) : Goes p e below E (T.setTop (mkF m pc Ls (x :: sk))) :=
  Goes.st (fun _ q => XS.dup X.here hx rfl hd rfl hc q) k
theorem gistoreN (X : Stand p l e R s m args below meth c T locs cells slots) (hx : p.tables.exec = Jvm.exec) {i : Fin 4} {x : Int32} {l' : Array Slot} (hd : decode c.code pc = .ok (.istore_n i, 1)) (_ : True) (hl : storeLocals Ls i.val (.int x) = some l') (k : Goes p e below E (T.setTop (mkF m (pc + 1) l' sk))) : Goes p e below E (T.setTop (mkF m pc Ls (.int x :: sk))) :=
  Goes.st (fun _ q => XS.istoreN X.here hx rfl hd rfl hl q) k
theorem gistore (X : Stand p l e R s m args below meth c T locs cells slots) (hx : p.tables.exec = Jvm.exec) {i : Nat} {x : Int32} {l' : Array Slot} (hd : decode c.code pc = .ok (.istore i, 2)) (_ : True) (hl : storeLocals Ls i (.int x) = some l') (k : Goes p e below E (T.setTop (mkF m (pc + 2) l' sk))) : Goes p e below E (T.setTop (mkF m pc Ls (.int x :: sk))) :=
  Goes.st (fun _ q => XS.istore X.here hx rfl hd rfl hl q) k
theorem gdstoreN (X : Stand p l e R s m args below meth c T locs cells slots) (hx : p.tables.exec = Jvm.exec) {i : Fin 4} {x : UInt64} {l' : Array Slot} (hd : decode c.code pc = .ok (.dstore_n i, 1)) (_ : True) (hl : storeLocals Ls i.val (.double x) = some l') (k : Goes p e below E (T.setTop (mkF m (pc + 1) l' sk))) : Goes p e below E (T.setTop (mkF m pc Ls (.double x :: sk))) :=
  Goes.st (fun _ q => XS.dstoreN X.here hx rfl hd rfl hl q) k
theorem gdstore (X : Stand p l e R s m args below meth c T locs cells slots) (hx : p.tables.exec = Jvm.exec) {i : Nat} {x : UInt64} {l' : Array Slot} (hd : decode c.code pc = .ok (.dstore i, 2)) (_ : True) (hl : storeLocals Ls i (.double x) = some l') (k : Goes p e below E (T.setTop (mkF m (pc + 2) l' sk))) : Goes p e below E (T.setTop (mkF m pc Ls (.double x :: sk))) :=
  Goes.st (fun _ q => XS.dstore X.here hx rfl hd rfl hl q) k
theorem glstore (X : Stand p l e R s m args below meth c T locs cells slots) (hx : p.tables.exec = Jvm.exec) {i : Nat} {x : Int64} {l' : Array Slot} (hd : decode c.code pc = .ok (.lstore i, 2)) (_ : True) (hl : storeLocals Ls i (.long x) = some l') (k : Goes p e below E (T.setTop (mkF m (pc + 2) l' sk))) : Goes p e below E (T.setTop (mkF m pc Ls (.long x :: sk))) :=
  Goes.st (fun _ q => XT.lstore X.here hx rfl hd rfl hl q) k
theorem gastoreN (X : Stand p l e R s m args below meth c T locs cells slots) (hx : p.tables.exec = Jvm.exec) {i : Fin 4} {x : Value} {l' : Array Slot} (hd : decode c.code pc = .ok (.astore_n i, 1)) (_ : True) (hv : x.isRef = true) (hl : storeLocals Ls i.val x = some l') (k : Goes p e below E (T.setTop (mkF m (pc + 1) l' sk))) : Goes p e below E (T.setTop (mkF m pc Ls (x :: sk))) :=
  Goes.st (fun _ q => XS.astoreN X.here hx rfl hd rfl hv hl q) k
theorem gastore (X : Stand p l e R s m args below meth c T locs cells slots) (hx : p.tables.exec = Jvm.exec) {i : Nat} {x : Value} {l' : Array Slot} (hd : decode c.code pc = .ok (.astore i, 2)) (_ : True) (hv : x.isRef = true) (hl : storeLocals Ls i x = some l') (k : Goes p e below E (T.setTop (mkF m (pc + 2) l' sk))) : Goes p e below E (T.setTop (mkF m pc Ls (x :: sk))) :=
  Goes.st (fun _ q => XS.astore X.here hx rfl hd rfl hv hl q) k
theorem ggoto (X : Stand p l e R s m args below meth c T locs cells slots) (hx : p.tables.exec = Jvm.exec) {o : Int} {pc' : Nat} (hd : decode c.code pc = .ok (.goto o, 3)) (ho : 0 ≤ (pc : Int) + o) (hp : ((pc : Int) + o).toNat = pc') (k : Goes p e below E (T.setTop (mkF m pc' Ls sk))) : Goes p e below E (T.setTop (mkF m pc Ls sk)) :=
  Goes.st (fun _ q => XS.goto X.here hx rfl rfl hd ho hp q) k
theorem gifYes (X : Stand p l e R s m args below meth c T locs cells slots) (hx : p.tables.exec = Jvm.exec) {cd : ClassFile.Cond} {o : Int} {x : Int32} {pc' : Nat} (hd : decode c.code pc = .ok (.ifCond cd o, 3)) (hc : ifCond.holds cd x = true) (ho : 0 ≤ (pc : Int) + o) (hp : ((pc : Int) + o).toNat = pc') (k : Goes p e below E (T.setTop (mkF m pc' Ls sk))) : Goes p e below E (T.setTop (mkF m pc Ls (.int x :: sk))) :=
  Goes.st (fun _ q => XS.ifYes X.here hx rfl rfl hd rfl hc ho hp q) k
theorem gifNo (X : Stand p l e R s m args below meth c T locs cells slots) (hx : p.tables.exec = Jvm.exec) {cd : ClassFile.Cond} {o : Int} {x : Int32} (hd : decode c.code pc = .ok (.ifCond cd o, 3)) (hc : ifCond.holds cd x = false) (k : Goes p e below E (T.setTop (mkF m (pc + 3) Ls sk))) : Goes p e below E (T.setTop (mkF m pc Ls (.int x :: sk))) :=
  Goes.st (fun _ q => XS.ifNo X.here hx rfl hd rfl hc q) k
theorem gicmpYes (X : Stand p l e R s m args below meth c T locs cells slots) (hx : p.tables.exec = Jvm.exec) {cd : ClassFile.Cond} {o : Int} {x y : Int32} {pc' : Nat} (hd : decode c.code pc = .ok (.if_icmp cd o, 3)) (hc : if_icmp.holds cd x y = true) (ho : 0 ≤ (pc : Int) + o) (hp : ((pc : Int) + o).toNat = pc') (k : Goes p e below E (T.setTop (mkF m pc' Ls sk))) : Goes p e below E (T.setTop (mkF m pc Ls (.int y :: .int x :: sk))) :=
  Goes.st (fun _ q => XS.icmpYes X.here hx rfl rfl hd rfl hc ho hp q) k
theorem gicmpNo (X : Stand p l e R s m args below meth c T locs cells slots) (hx : p.tables.exec = Jvm.exec) {cd : ClassFile.Cond} {o : Int} {x y : Int32} (hd : decode c.code pc = .ok (.if_icmp cd o, 3)) (hc : if_icmp.holds cd x y = false) (k : Goes p e below E (T.setTop (mkF m (pc + 3) Ls sk))) : Goes p e below E (T.setTop (mkF m pc Ls (.int y :: .int x :: sk))) :=
  Goes.st (fun _ q => XS.icmpNo X.here hx rfl hd rfl hc q) k
end OwnSteps
section OwnHeld
open Bundle
variable {p : Program} {l : Launch} {e : Env} {R : Room} {s : State} {args : Array Value} {below : List Frame} {Z : State} {a0 : Array Value} {EL : List (String × Nat)} {h : Heap} {vm0 : Vm}
/-- a callee that asks that the constants of EL are held as their texts say, and may intern -/
theorem backOfSI {y : MethodName} {bytes : ByteArray} {maxL : Nat} {ret : Option FieldType} {rm : Room} {len W : Nat} {as' : Array Value} {Q : Option Value → Heap → List Loc → Prop}
    (hM : MetFree l y (head1 [Cond.code y bytes maxL ret] rm) (fun a U => a = as' ∧ Z.Warmed39 U.vm ∧ U.heap = h ∧ CHv Z EL U.vm h) (fun _ _ _ _ _ => True) (fun _ U o U' => ∃ v L, o = .returned v ∧ Q v U'.heap L ∧ ReturnedEndW U o U' L rm.cells rm.slots))
    (hZ : Z.Warmed39 vm0) (wc : (Cond.code y bytes maxL ret).before a0 Z = true) (wz : (Cond.initialized y.cls).before a0 Z = true) (hf : rm.frames + 1 ≤ R.frames) (hl : W + (maxL + 11) + rm.locals ≤ R.locals) (hEL : EW Z a0 EL) (H : CHv Z EL vm0 h) :
    BackS l R p e below (s.setVm vm0) args y len W (fun A a => a = as' ∧ A.U.heap = h ∧ A.cells + rm.cells ≤ R.cells ∧ A.slots + rm.slots ≤ R.slots)
      (fun A _ v B => ∃ L, Q v B.U.heap L ∧ B.locs = A.locs ++ L ∧ B.cells = A.cells + rm.cells ∧ B.slots = A.slots + rm.slots) := by
  have warm : ∀ (m : MethodId) (meth : Method) (c : Code) (A : Pt), Stand p l e R (s.setVm vm0) m args below meth c A.U A.locs A.cells A.slots → Z.Warmed39 A.U.vm := fun _ _ _ _ Y => wtrans (s := s.setVm vm0) hZ Y.warmed
  refine BackS.of_freeW (bytes := bytes) (maxL := maxL) (ret := ret) (E := fun _ _ o t L k n => (k = rm.cells ∧ n = rm.slots) ∧ ∃ v, o = .returned v ∧ Q v t.heap L) hM hf hl ?_ ?_ (fun _ _ _ _ _ _ _ _ _ => trivial) ?_ ?_
  · intro m meth c A a Y hp
    have hU := warm m meth c A Y
    refine ⟨?_, mv hU wc, mv hU wz, hp.2.2⟩
    show (Cond.and _ .tt).before a A.U = true
    rw [Cond.before_and, mv hU wc]; rfl
  · intro m meth c A a g mk Y hp
    exact ⟨hp.1, warm m meth c A Y, hp.2.1, (CHv.at Y hZ hEL H).1⟩
  · rintro _ _ _ _ ⟨v, L, h1, h2, h3⟩
    exact ⟨L, _, _, h3, ⟨rfl, rfl⟩, v, h1, h2⟩
  · rintro m meth c A a g mk v t L k n Y hp _ _ ⟨⟨rfl, rfl⟩, v', e3, e4⟩
    cases e3
    exact ⟨L, e4, rfl, rfl, rfl⟩
/-- the end, where texts may have been interned and the constants of EL are still held -/
abbrev EH (Z : State) (EL : List (String × Nat)) (s : State) (Q : Option Value → Heap → List Loc → Prop) (cs ss : Nat) : Outcome → State → Prop := fun o u => ∃ v L, o = .returned v ∧ Q v u.heap L ∧ CHr Z EL s.vm s.heap u.vm u.heap ∧ ReturnedEndW s o u L cs ss
theorem lvH {m : MethodId} {meth : Method} {c : Code} {T : State} {locs : List Loc} {cells slots : Nat} {Q : Option Value → Heap → List Loc → Prop} {cs ss : Nat} (X : Stand p l e R (s.setVm vm0) m args below meth c T locs cells slots) (hlk : meth.locks = false) {k0 : Nat} (hS : s.Since vm0 k0) (hk : k0 ≤ T.heap.size) (hZ : Z.Warmed39 vm0) (hEL : EW Z a0 EL) (eT : T.heap = h) (hR : CHr Z EL s.vm s.heap vm0 h) {v : Option Value} (hv : meth.sig.returnType = none → v = none) (hq : Q v T.heap locs) (hc : cells ≤ cs) (hs : slots ≤ ss) : Lv e below (EH Z EL s Q cs ss) m T v := by
  obtain ⟨fs, hr, hrun, hended, h1, h2, h3, h4⟩ := X.leaveW hS hk (v := v) hv hlk
  subst eT
  have q := hR.trans (CHv.at X hZ hEL hR.1)
  exact ⟨fs, hr, hrun, hended, _, _, rfl, hq, q, h1, h2, h3, h4.mono hc hs⟩
end OwnHeld
end Jvm.RoadKit
namespace Jvm.Pilot.@@N@@
open Jvm Jvm.ClassFile Sem Op Lib Jvm.Free Jvm.Stand Jvm.LawKit Jvm.RoadKit Bundle Jvm.Free.Fl Jvm.Pilot.@@N@@.Jvm.D
abbrev mN0 : MethodName := (⟨"java/lang/Math", "max", "(II)I"⟩ : MethodName)
abbrev mN1 : MethodName := (⟨"java/lang/Math", "min", "(II)I"⟩ : MethodName)
abbrev mN2 : MethodName := (⟨"java/util/AbstractCollection", "<init>", "()V"⟩ : MethodName)
abbrev mN3 : MethodName := (⟨"java/util/AbstractList", "<init>", "()V"⟩ : MethodName)
abbrev mN4 : MethodName := (⟨"java/util/ArrayList", "<init>", "()V"⟩ : MethodName)
abbrev mN5 : MethodName := (⟨"java/lang/String", "isEmpty", "()Z"⟩ : MethodName)
abbrev mN6 : MethodName := (⟨"java/lang/String", "coder", "()B"⟩ : MethodName)
abbrev mN7 : MethodName := (⟨"java/lang/String", "length", "()I"⟩ : MethodName)
abbrev mN8 : MethodName := (⟨"java/lang/String", "isLatin1", "()Z"⟩ : MethodName)
abbrev mN9 : MethodName := (⟨"jdk/internal/util/Preconditions", "checkIndex", "(IILjava/util/function/BiFunction;)I"⟩ : MethodName)
abbrev mN10 : MethodName := (⟨"java/lang/String", "checkIndex", "(II)V"⟩ : MethodName)
abbrev mN11 : MethodName := (⟨"java/lang/StringLatin1", "charAt", "([BI)C"⟩ : MethodName)
abbrev mN12 : MethodName := (⟨"java/lang/String", "charAt", "(I)C"⟩ : MethodName)
abbrev mN13 : MethodName := (⟨"com/example/redoubt/redoubt/engine/Names", "fitsCsvField", "(Ljava/lang/String;)Z"⟩ : MethodName)
abbrev mN14 : MethodName := (⟨"java/util/Objects", "requireNonNull", "(Ljava/lang/Object;Ljava/lang/String;)Ljava/lang/Object;"⟩ : MethodName)
abbrev mN15 : MethodName := (⟨"com/example/redoubt/redoubt/engine/Job", "requireId", "(Ljava/lang/String;)Ljava/lang/String;"⟩ : MethodName)
abbrev mN16 : MethodName := (⟨"java/lang/Record", "<init>", "()V"⟩ : MethodName)
abbrev mN17 : MethodName := (⟨"com/example/redoubt/redoubt/engine/Job", "<init>", "(Ljava/lang/String;ID)V"⟩ : MethodName)
abbrev mN18 : MethodName := (⟨"java/util/ArrayList", "grow", "(I)[Ljava/lang/Object;"⟩ : MethodName)
abbrev mN19 : MethodName := (⟨"java/util/ArrayList", "grow", "()[Ljava/lang/Object;"⟩ : MethodName)
abbrev mN20 : MethodName := (⟨"java/util/ArrayList", "add", "(Ljava/lang/Object;[Ljava/lang/Object;I)V"⟩ : MethodName)
abbrev mN21 : MethodName := (⟨"java/util/ArrayList", "add", "(Ljava/lang/Object;)Z"⟩ : MethodName)
abbrev mN22 : MethodName := (⟨"java/util/Objects", "checkIndex", "(II)I"⟩ : MethodName)
abbrev mN23 : MethodName := (⟨"java/util/ArrayList", "elementData", "(I)Ljava/lang/Object;"⟩ : MethodName)
abbrev mN24 : MethodName := (⟨"java/util/ArrayList", "get", "(I)Ljava/lang/Object;"⟩ : MethodName)
abbrev mN25 : MethodName := (⟨"com/example/redoubt/redoubt/engine/Job", "procs", "()I"⟩ : MethodName)
abbrev mN26 : MethodName := (⟨"com/example/redoubt/redoubt/engine/Job", "time", "()D"⟩ : MethodName)
abbrev mN27 : MethodName := (⟨"java/util/Arrays", "fill", "([II)V"⟩ : MethodName)
abbrev mN28 : MethodName := (⟨"java/util/List", "get", "(I)Ljava/lang/Object;"⟩ : MethodName)
abbrev mN29 : MethodName := (⟨"com/example/redoubt/redoubt/policies/FirstFitQueue", "<init>", "(Ljava/util/List;[II)V"⟩ : MethodName)
abbrev mN30 : MethodName := (⟨"com/example/redoubt/redoubt/policies/FirstFitQueue", "liftFewest", "(I)Z"⟩ : MethodName)
abbrev mN31 : MethodName := (⟨"com/example/redoubt/redoubt/policies/FirstFitQueue", "rankAt", "(I)I"⟩ : MethodName)
abbrev mN32 : MethodName := (⟨"com/example/redoubt/redoubt/policies/FirstFitQueue", "place", "(II)I"⟩ : MethodName)
abbrev mN33 : MethodName := (⟨"com/example/redoubt/redoubt/policies/FirstFitQueue", "set", "(IZ)V"⟩ : MethodName)
abbrev mN34 : MethodName := (⟨"com/example/redoubt/redoubt/policies/FirstFitQueue", "add", "(II)I"⟩ : MethodName)
abbrev mN35 : MethodName := (⟨"com/example/redoubt/redoubt/policies/FirstFitQueue", "firstFitting", "(II)I"⟩ : MethodName)
abbrev mN36 : MethodName := (⟨"com/example/redoubt/redoubt/policies/FirstFitQueueFirstFittingPinLaw", "rankIn", "([II)I"⟩ : MethodName)
abbrev mN37 : MethodName := (⟨"com/example/redoubt/redoubt/policies/FirstFitQueueFirstFittingPinLaw", "pick", "(IZIIII)I"⟩ : MethodName)
def ELs : List (String × Nat) := [("com/example/redoubt/redoubt/policies/FirstFitQueueFirstFittingPinLaw", 21), ("com/example/redoubt/redoubt/policies/FirstFitQueueFirstFittingPinLaw", 30), ("com/example/redoubt/redoubt/policies/FirstFitQueueFirstFittingPinLaw", 32)]
theorem hELs {Z : State} {a0 : Array Value} (hw : ∀ d ∈ tables_1, d.before a0 Z = true) : EW Z a0 ELs := EW.cons (hwk hw 38 rfl) (by decide) (EW.cons (hwk hw 142 rfl) (by decide) (EW.cons (hwk hw 143 rfl) (by decide) EW.nil))
def imax (u w : Int32) : Int32 := if u < w then w else u
def imin (u w : Int32) : Int32 := if w < u then w else u
def sel {α : Type} (j : Int32) (a b d : α) : α := if j = 0 then a else if j = 1 then b else d
def rk (o0 o1 j : Int32) : Int32 := if o0 = j then 0 else if o1 = j then 1 else 2
def put1 (j i r d : Int32) : Int32 := if j = i then r else d
abbrev cCh (ch : Int32) : Int32 := (ch &&& (255 : Int32)).toUInt32.toUInt16.toUInt32.toInt32
theorem own_idem (x : Int32) : nar .char x.toUInt32.toUInt16.toUInt32.toInt32 = x.toUInt32.toUInt16.toUInt32.toInt32 := by
  have a := c_i2c x
  have b := c_i2c x.toUInt32.toUInt16.toUInt32.toInt32
  apply Int32.toInt_inj.mp
  show (x.toUInt32.toUInt16.toUInt32.toInt32).toUInt32.toUInt16.toUInt32.toInt32.toInt = _
  omega
theorem own_d0 : ¬ (0 : Int32) < (cmpValue (FP.dcmp FP.dconst1 FP.dconst0) .l) → False := by decide +kernel
theorem own_d0' : (0 : Int32) < (cmpValue (FP.dcmp FP.dconst1 FP.dconst0) .l) := by decide +kernel
theorem own_d1 : (cmpValue (FP.dcmp FP.dconst1 (9218868437227405312 : UInt64)) .g) < (0 : Int32) := by decide +kernel
theorem dj29_65_0 : decode jdk_29_method_65_code 0 = .ok (.iload_n 0, 1) := by decide +kernel
theorem dj29_65_1 : decode jdk_29_method_65_code 1 = .ok (.iload_n 1, 1) := by decide +kernel
theorem dj29_65_2 : decode jdk_29_method_65_code 2 = .ok (.if_icmp .lt 7, 3) := by decide +kernel
theorem dj29_65_5 : decode jdk_29_method_65_code 5 = .ok (.iload_n 0, 1) := by decide +kernel
theorem dj29_65_6 : decode jdk_29_method_65_code 6 = .ok (.goto 4, 3) := by decide +kernel
theorem dj29_65_9 : decode jdk_29_method_65_code 9 = .ok (.iload_n 1, 1) := by decide +kernel
theorem dj29_65_10 : decode jdk_29_method_65_code 10 = .ok (.ireturn, 1) := by decide +kernel
theorem pf_java_lang_Math_max__II_I : plainFor (⟨"java/lang/Math", "max", "(II)I"⟩ : MethodName) = true := by unfold plainFor; decide +kernel
theorem ef_Mx (m : MethodId) (x0 : Int32) (x1 : Int32) : entryFrame m #[(.int x0), (.int x1)] 2 = mkF m 0 #[iv x0, iv x1] [] := by first | (simp [entryFrame, mkF, argsToLocals, Value.category]; done) | rfl
def QMx (Z : State) (g1 g2 : Int32) (h0 : Heap) (n0 : Nat) (v : Option Value) (h : Heap) (L : List Loc) : Prop := v = some (.int (imax g1 g2)) ∧ Fr n0 L ∧ h = h0
set_option maxRecDepth 65536 in
set_option maxHeartbeats 40000000 in
theorem rmMx (l : Launch) (Z : State) (a0 : Array Value) (hw : ∀ d ∈ tables_1, d.before a0 Z = true) (ws : List Jvm.Cond) (g1 g2 : Int32) (h0 : Heap) (n0 : Nat) (Z0 : n0 ≤ h0.size)  :
    MetFree l mN0 (head1 (Jvm.Cond.code mN0 jdk_29_method_65_code 2 (some .int) :: ws) ({ frames := 0, cells := 0, slots := 0, locals := 0 } : Room)) (fun aa U => aa = #[(.int g1), (.int g2)] ∧ Z.Warmed39 U.vm ∧ U.heap = h0) (fun _ _ _ _ _ => True) (fun _ u1_ o_ u2_ => ∃ v_ l_, o_ = .returned v_ ∧ QMx Z g1 g2 h0 n0 v_ u2_.heap l_ ∧ FrameEnd u1_ o_ u2_ l_ ({ frames := 0, cells := 0, slots := 0, locals := 0 } : Room).cells ({ frames := 0, cells := 0, slots := 0, locals := 0 } : Room).slots) := by
  refine MetFree.of_bodySF pf_java_lang_Math_max__II_I hisR ?_
  intro p e s m args below meth c s₁ Bd hml0 hP hK
  obtain ⟨rfl, hZ, hh⟩ := hP
  have hx := Bd.exec
  have hby := Bd.bytes
  have hlk := BodyLoose.notSynchronized Bd
  have hret := Bd.returns
  have hml : c.maxLocals = 2 := hml0
  have hown : s.vm.findClass "java/lang/Math" = some m.cls := findClass_of_methodNamed Bd.named
  have hnm := (name_of_methodNamed Bd.named Bd.method).1
  have X0 : Stand p l e ({ frames := 0, cells := 0, slots := 0, locals := 0 } : Room) s m #[(.int g1), (.int g2)] below meth c s₁ [] 0 0 := Stand.of_body Bd
  have e0 : s₁.heap = h0 := by rw [← hh, Bd.state]; rfl
  have N0 := Fr.nil n0
  refine Goes.st (E := (EN s (QMx Z g1 g2 h0 n0) ({ frames := 0, cells := 0, slots := 0, locals := 0 } : Room).cells ({ frames := 0, cells := 0, slots := 0, locals := 0 } : Room).slots)) (fun tg kg => castTop (ef_Mx m g1 g2) kg) ?_
  show Gs p e below _ s₁ m 0 #[iv g1, iv g2] []
  refine giloadN X0 hx (hb hby dj29_65_0) rfl ?_
  refine giloadN X0 hx (hb hby dj29_65_1) rfl ?_
  by_cases c1 : g1 < g2
  · refine gicmpYes X0 hx (pc := 2) (pc' := 9) (hb hby dj29_65_2) (tlt c1).1 (by decide) (by decide) ?_
    refine giloadN X0 hx (hb hby dj29_65_9) rfl ?_
    refine Goes.retI X0 hx hret (hb hby dj29_65_10) (lvN X0 hlk (vsome hret) ?_ (by decide) (by decide))
    rw [e0]
    exact ⟨by rw [imax, if_pos c1], N0, rfl⟩
  · refine gicmpNo X0 hx (hb hby dj29_65_2) (flt c1).1 ?_
    refine giloadN X0 hx (hb hby dj29_65_5) rfl ?_
    refine ggoto X0 hx (pc := 6) (pc' := 10) (hb hby dj29_65_6) (by decide) (by decide) ?_
    refine Goes.retI X0 hx hret (hb hby dj29_65_10) (lvN X0 hlk (vsome hret) ?_ (by decide) (by decide))
    rw [e0]
    exact ⟨by rw [imax, if_neg c1], N0, rfl⟩
theorem dj29_69_0 : decode jdk_29_method_69_code 0 = .ok (.iload_n 0, 1) := by decide +kernel
theorem dj29_69_1 : decode jdk_29_method_69_code 1 = .ok (.iload_n 1, 1) := by decide +kernel
theorem dj29_69_2 : decode jdk_29_method_69_code 2 = .ok (.if_icmp .gt 7, 3) := by decide +kernel
theorem dj29_69_5 : decode jdk_29_method_69_code 5 = .ok (.iload_n 0, 1) := by decide +kernel
theorem dj29_69_6 : decode jdk_29_method_69_code 6 = .ok (.goto 4, 3) := by decide +kernel
theorem dj29_69_9 : decode jdk_29_method_69_code 9 = .ok (.iload_n 1, 1) := by decide +kernel
theorem dj29_69_10 : decode jdk_29_method_69_code 10 = .ok (.ireturn, 1) := by decide +kernel
theorem pf_java_lang_Math_min__II_I : plainFor (⟨"java/lang/Math", "min", "(II)I"⟩ : MethodName) = true := by unfold plainFor; decide +kernel
theorem ef_Mn (m : MethodId) (x0 : Int32) (x1 : Int32) : entryFrame m #[(.int x0), (.int x1)] 2 = mkF m 0 #[iv x0, iv x1] [] := by first | (simp [entryFrame, mkF, argsToLocals, Value.category]; done) | rfl
def QMn (Z : State) (g1 g2 : Int32) (h0 : Heap) (n0 : Nat) (v : Option Value) (h : Heap) (L : List Loc) : Prop := v = some (.int (imin g1 g2)) ∧ Fr n0 L ∧ h = h0
set_option maxRecDepth 65536 in
set_option maxHeartbeats 40000000 in
theorem rmMn (l : Launch) (Z : State) (a0 : Array Value) (hw : ∀ d ∈ tables_1, d.before a0 Z = true) (ws : List Jvm.Cond) (g1 g2 : Int32) (h0 : Heap) (n0 : Nat) (Z0 : n0 ≤ h0.size)  :
    MetFree l mN1 (head1 (Jvm.Cond.code mN1 jdk_29_method_69_code 2 (some .int) :: ws) ({ frames := 0, cells := 0, slots := 0, locals := 0 } : Room)) (fun aa U => aa = #[(.int g1), (.int g2)] ∧ Z.Warmed39 U.vm ∧ U.heap = h0) (fun _ _ _ _ _ => True) (fun _ u1_ o_ u2_ => ∃ v_ l_, o_ = .returned v_ ∧ QMn Z g1 g2 h0 n0 v_ u2_.heap l_ ∧ FrameEnd u1_ o_ u2_ l_ ({ frames := 0, cells := 0, slots := 0, locals := 0 } : Room).cells ({ frames := 0, cells := 0, slots := 0, locals := 0 } : Room).slots) := by
  refine MetFree.of_bodySF pf_java_lang_Math_min__II_I hisR ?_
  intro p e s m args below meth c s₁ Bd hml0 hP hK
  obtain ⟨rfl, hZ, hh⟩ := hP
  have hx := Bd.exec
  have hby := Bd.bytes
  have hlk := BodyLoose.notSynchronized Bd
  have hret := Bd.returns
  have hml : c.maxLocals = 2 := hml0
  have hown : s.vm.findClass "java/lang/Math" = some m.cls := findClass_of_methodNamed Bd.named
  have hnm := (name_of_methodNamed Bd.named Bd.method).1
  have X0 : Stand p l e ({ frames := 0, cells := 0, slots := 0, locals := 0 } : Room) s m #[(.int g1), (.int g2)] below meth c s₁ [] 0 0 := Stand.of_body Bd
  have e0 : s₁.heap = h0 := by rw [← hh, Bd.state]; rfl
  have N0 := Fr.nil n0
  refine Goes.st (E := (EN s (QMn Z g1 g2 h0 n0) ({ frames := 0, cells := 0, slots := 0, locals := 0 } : Room).cells ({ frames := 0, cells := 0, slots := 0, locals := 0 } : Room).slots)) (fun tg kg => castTop (ef_Mn m g1 g2) kg) ?_
  show Gs p e below _ s₁ m 0 #[iv g1, iv g2] []
  refine giloadN X0 hx (hb hby dj29_69_0) rfl ?_
  refine giloadN X0 hx (hb hby dj29_69_1) rfl ?_
  by_cases c1 : g2 < g1
  · refine gicmpYes X0 hx (pc := 2) (pc' := 9) (hb hby dj29_69_2) (tlt c1).2.2.1 (by decide) (by decide) ?_
    refine giloadN X0 hx (hb hby dj29_69_9) rfl ?_
    refine Goes.retI X0 hx hret (hb hby dj29_69_10) (lvN X0 hlk (vsome hret) ?_ (by decide) (by decide))
    rw [e0]
    exact ⟨by rw [imin, if_pos c1], N0, rfl⟩
  · refine gicmpNo X0 hx (hb hby dj29_69_2) (flt c1).2.2.1 ?_
    refine giloadN X0 hx (hb hby dj29_69_5) rfl ?_
    refine ggoto X0 hx (pc := 6) (pc' := 10) (hb hby dj29_69_6) (by decide) (by decide) ?_
    refine Goes.retI X0 hx hret (hb hby dj29_69_10) (lvN X0 hlk (vsome hret) ?_ (by decide) (by decide))
    rw [e0]
    exact ⟨by rw [imin, if_neg c1], N0, rfl⟩
theorem dj22_1_0 : decode jdk_22_method_1_code 0 = .ok (.aload_n 0, 1) := by decide +kernel
theorem dj22_1_1 : decode jdk_22_method_1_code 1 = .ok (.invokespecial 1, 3) := by decide +kernel
theorem dj22_1_4 : decode jdk_22_method_1_code 4 = .ok (.return_, 1) := by decide +kernel
theorem pn_java_util_AbstractCollection : plainName "java/util/AbstractCollection" = true := by first | (simp [plainName, overriddenIn]; done) | decide +kernel
theorem ef_Ac (m : MethodId) (x0 : Addr) : entryFrame m #[(.ref x0)] 1 = mkF m 0 #[rv x0] [] := by first | (simp [entryFrame, mkF, argsToLocals, Value.category]; done) | rfl
def QAc (Z : State) (a : Addr) (h0 : Heap) (n0 : Nat) (v : Option Value) (h : Heap) (L : List Loc) : Prop := v = none ∧ Fr n0 L ∧ h = h0
set_option maxRecDepth 65536 in
set_option maxHeartbeats 40000000 in
theorem rmAc (l : Launch) (Z : State) (a0 : Array Value) (hw : ∀ d ∈ tables_1, d.before a0 Z = true) (ws : List Jvm.Cond) (a : Addr) (h0 : Heap) (n0 : Nat) (Z0 : n0 ≤ h0.size)  :
    MetFree l mN2 (head1 (Jvm.Cond.code mN2 jdk_22_method_1_code 1 none :: ws) ({ frames := 1, cells := 0, slots := 0, locals := 12 } : Room)) (fun aa U => aa = #[(.ref a)] ∧ Z.Warmed39 U.vm ∧ U.heap = h0) (fun _ _ _ _ _ => True) (fun _ u1_ o_ u2_ => ∃ v_ l_, o_ = .returned v_ ∧ QAc Z a h0 n0 v_ u2_.heap l_ ∧ FrameEnd u1_ o_ u2_ l_ ({ frames := 1, cells := 0, slots := 0, locals := 12 } : Room).cells ({ frames := 1, cells := 0, slots := 0, locals := 12 } : Room).slots) := by
  refine MetFree.of_bodySF (plainFor_of_name pn_java_util_AbstractCollection) hisR ?_
  intro p e s m args below meth c s₁ Bd hml0 hP hK
  obtain ⟨rfl, hZ, hh⟩ := hP
  have hx := Bd.exec
  have hby := Bd.bytes
  have hlk := BodyLoose.notSynchronized Bd
  have hret := Bd.returns
  have hml : c.maxLocals = 1 := hml0
  have hown : s.vm.findClass "java/util/AbstractCollection" = some m.cls := findClass_of_methodNamed Bd.named
  have hnm := (name_of_methodNamed Bd.named Bd.method).1
  have X0 : Stand p l e ({ frames := 1, cells := 0, slots := 0, locals := 12 } : Room) s m #[(.ref a)] below meth c s₁ [] 0 0 := Stand.of_body Bd
  have e0 : s₁.heap = h0 := by rw [← hh, Bd.state]; rfl
  have N0 := Fr.nil n0
  refine Goes.st (E := (EN s (QAc Z a h0 n0) ({ frames := 1, cells := 0, slots := 0, locals := 12 } : Room).cells ({ frames := 1, cells := 0, slots := 0, locals := 12 } : Room).slots)) (fun tg kg => castTop (ef_Ac m a) kg) ?_
  show Gs p e below _ s₁ m 0 #[rv a] []
  refine galoadN X0 hx (hb hby dj22_1_0) rfl rfl ?_
  obtain ⟨T1, X1, e1, st1⟩ := initO X0 hx hZ hown (hwk hw 27 rfl) (hwk hw 28 rfl) (hwk hw 29 rfl) e0 (g := (mkF m 1 #[rv a] [(.ref a)])) rfl (by rw [hml]; rfl) rfl (hb hby dj22_1_1) (by decide) (W := 0) (by show 2 * 0 + _ ≤ _; exact Nat.le_of_eq rfl) (by decide)
  refine Goes.st st1 ?_
  show Gs p e below _ T1 m 4 #[rv a] []
  refine Goes.retV X1 hx hret (hb hby dj22_1_4) (lvN X1 hlk (fun _ => rfl) ?_ (by decide) (by decide))
  rw [e1]
  exact ⟨rfl, N0, rfl⟩
theorem dj39_1_0 : decode jdk_39_method_1_code 0 = .ok (.aload_n 0, 1) := by decide +kernel
theorem dj39_1_1 : decode jdk_39_method_1_code 1 = .ok (.invokespecial 1, 3) := by decide +kernel
theorem dj39_1_4 : decode jdk_39_method_1_code 4 = .ok (.aload_n 0, 1) := by decide +kernel
theorem dj39_1_5 : decode jdk_39_method_1_code 5 = .ok (.iconst 0, 1) := by decide +kernel
theorem dj39_1_6 : decode jdk_39_method_1_code 6 = .ok (.putfield 7, 3) := by decide +kernel
theorem dj39_1_9 : decode jdk_39_method_1_code 9 = .ok (.return_, 1) := by decide +kernel
theorem pn_java_util_AbstractList : plainName "java/util/AbstractList" = true := by first | (simp [plainName, overriddenIn]; done) | decide +kernel
theorem pd___V_566 : parseMethodDescriptor "()V" = some ⟨[], none⟩ := by decide +kernel
theorem ef_Ab (m : MethodId) (x0 : Addr) : entryFrame m #[(.ref x0)] 1 = mkF m 0 #[rv x0] [] := by first | (simp [entryFrame, mkF, argsToLocals, Value.category]; done) | rfl
def QAb (Z : State) (a : Addr) (u0 u1 u2 : Value) (h0 : Heap) (n0 : Nat) (v : Option Value) (h : Heap) (L : List Loc) : Prop := v = none ∧ Fr n0 L ∧ Keep h0 h [a] ∧ Fld Z h a "java/util/AbstractList" "modCount" "I" (.int (0 : Int32)) ∧ Fld Z h a "java/util/ArrayList" "elementData" "[Ljava/lang/Object;" u1 ∧ Fld Z h a "java/util/ArrayList" "size" "I" u2
set_option maxRecDepth 65536 in
set_option maxHeartbeats 40000000 in
theorem rmAb (l : Launch) (Z : State) (a0 : Array Value) (hw : ∀ d ∈ tables_1, d.before a0 Z = true) (ws : List Jvm.Cond) (a : Addr) (u0 u1 u2 : Value) (h0 : Heap) (n0 : Nat) (Z0 : n0 ≤ h0.size) (Ea : Exa Z h0 a "java/util/ArrayList") (ga : n0 ≤ a) (Fm : Fld Z h0 a "java/util/AbstractList" "modCount" "I" u0) (Fe : Fld Z h0 a "java/util/ArrayList" "elementData" "[Ljava/lang/Object;" u1) (Fs : Fld Z h0 a "java/util/ArrayList" "size" "I" u2) :
    MetFree l mN3 (head1 (Jvm.Cond.code mN3 jdk_39_method_1_code 1 none :: ws) ({ frames := 2, cells := 0, slots := 0, locals := 24 } : Room)) (fun aa U => aa = #[(.ref a)] ∧ Z.Warmed39 U.vm ∧ U.heap = h0) (fun _ _ _ _ _ => True) (fun _ u1_ o_ u2_ => ∃ v_ l_, o_ = .returned v_ ∧ QAb Z a u0 u1 u2 h0 n0 v_ u2_.heap l_ ∧ FrameEnd u1_ o_ u2_ l_ ({ frames := 2, cells := 0, slots := 0, locals := 24 } : Room).cells ({ frames := 2, cells := 0, slots := 0, locals := 24 } : Room).slots) := by
  refine MetFree.of_bodySF (plainFor_of_name pn_java_util_AbstractList) hisR ?_
  intro p e s m args below meth c s₁ Bd hml0 hP hK
  obtain ⟨rfl, hZ, hh⟩ := hP
  have hx := Bd.exec
  have hby := Bd.bytes
  have hlk := BodyLoose.notSynchronized Bd
  have hret := Bd.returns
  have hml : c.maxLocals = 1 := hml0
  have hown : s.vm.findClass "java/util/AbstractList" = some m.cls := findClass_of_methodNamed Bd.named
  have hnm := (name_of_methodNamed Bd.named Bd.method).1
  have X0 : Stand p l e ({ frames := 2, cells := 0, slots := 0, locals := 24 } : Room) s m #[(.ref a)] below meth c s₁ [] 0 0 := Stand.of_body Bd
  have e0 : s₁.heap = h0 := by rw [← hh, Bd.state]; rfl
  have N0 := Fr.nil n0
  refine Goes.st (E := (EN s (QAb Z a u0 u1 u2 h0 n0) ({ frames := 2, cells := 0, slots := 0, locals := 24 } : Room).cells ({ frames := 2, cells := 0, slots := 0, locals := 24 } : Room).slots)) (fun tg kg => castTop (ef_Ab m a) kg) ?_
  have K0 : Keep h0 h0 [a] := Keep.refl _ _
  show Gs p e below _ s₁ m 0 #[rv a] []
  refine galoadN X0 hx (hb hby dj39_1_0) rfl rfl ?_
  obtain ⟨_, _, ⟨T1, L1, k1, n1⟩, -, X1, ⟨Lc1, hQ1, l1, y1, z1⟩, st1⟩ := X0.specialBack hx (y := mN2) rfl hown (mvT hZ (hwk hw 21 rfl)) (mvT hZ (hwk hw 22 rfl)) (mvT hZ (hwk hw 26 rfl)) (by decide) (backOf (W := 0) (rmAc l Z a0 hw [] a h0 n0 Z0 ) hZ (hwk hw 26 rfl) (hwk hw 25 rfl) (by decide) (by decide)) (g := (mkF m 1 #[rv a] [(.ref a)])) rfl (by rw [hml]; rfl) (Steps.refl _) (a := a) (argsL := []) (rest := []) (lenOf pd___V_566 rfl) rfl (by show 2 * 0 + _ ≤ _; exact Nat.le_of_eq rfl) (hb hby dj39_1_1) (fun _ _ => ⟨rfl, e0, (by decide : 0 + 0 ≤ 0), (by decide : 0 + 0 ≤ 0)⟩)
  dsimp only [Pt.U, Pt.locs, Pt.cells, Pt.slots] at X1 l1 y1 z1 st1 hQ1
  subst l1 y1 z1
  obtain ⟨rfl, N1q, eh1⟩ := hQ1
  have N1 := Fr.app N0 N1q
  refine Goes.sts st1 ?_
  show Gs p e below _ T1 m 4 #[rv a] []
  refine galoadN X1 hx (hb hby dj39_1_4) rfl rfl ?_
  refine giconst X1 hx (hb hby dj39_1_5) ?_
  obtain ⟨T2, h2, X2, e2, W2, st2⟩ := putF X1 hx hZ hown (host := "") (Or.inl (hwk hw 30 rfl)) Via.refl eh1 Fm Ea (Or.inl (hwk hw 31 rfl)) (hwk hw 10 rfl) (ty := .int) (by decide) rfl rfl (g := (mkF m 6 #[rv a] [(.int (0 : Int32)), (.ref a)])) rfl rfl (hb hby dj39_1_6)
  have N2 := Fr.snoc X2 N1 ga
  have G2 := Fm.same W2
  refine Goes.st st2 ?_
  have KK3 := K0.wr W2 (Or.inl (List.mem_of_getElem? (i := 0) rfl))
  have Z2 : n0 ≤ h2.size := by have := W2.size; have := Z0; omega
  show Gs p e below _ T2 m 9 #[rv a] []
  have f4 := (Fe.other W2 (Or.inr (slot_ne (Or.inl (hwk hw 34 rfl)) (Or.inl (hwk hw 31 rfl)) (by decide) (t := (.array (.object "java/lang/Object"))) (t' := .int) (by decide) (by decide))))
  have f5 := (Fs.other W2 (Or.inr (slot_ne (Or.inl (hwk hw 122 rfl)) (Or.inl (hwk hw 31 rfl)) (by decide) (t := .int) (t' := .int) (by decide) (by decide))))
  refine Goes.retV X2 hx hret (hb hby dj39_1_9) (lvN X2 hlk (fun _ => rfl) ?_ (by decide) (by decide))
  rw [e2]
  exact ⟨rfl, N2, KK3, G2, f4, f5⟩
theorem dj38_2_0 : decode jdk_38_method_2_code 0 = .ok (.aload_n 0, 1) := by decide +kernel
theorem dj38_2_1 : decode jdk_38_method_2_code 1 = .ok (.invokespecial 1, 3) := by decide +kernel
theorem dj38_2_4 : decode jdk_38_method_2_code 4 = .ok (.aload_n 0, 1) := by decide +kernel
theorem dj38_2_5 : decode jdk_38_method_2_code 5 = .ok (.getstatic 39, 3) := by decide +kernel
theorem dj38_2_8 : decode jdk_38_method_2_code 8 = .ok (.putfield 9, 3) := by decide +kernel
theorem dj38_2_11 : decode jdk_38_method_2_code 11 = .ok (.return_, 1) := by decide +kernel
theorem pn_java_util_ArrayList : plainName "java/util/ArrayList" = true := by first | (simp [plainName, overriddenIn]; done) | decide +kernel
theorem ef_Ai (m : MethodId) (x0 : Addr) : entryFrame m #[(.ref x0)] 1 = mkF m 0 #[rv x0] [] := by first | (simp [entryFrame, mkF, argsToLocals, Value.category]; done) | rfl
def QAi (Z : State) (a dE : Addr) (h0 : Heap) (n0 : Nat) (v : Option Value) (h : Heap) (L : List Loc) : Prop := v = none ∧ Fr n0 L ∧ Keep h0 h [a] ∧ Fld Z h a "java/util/AbstractList" "modCount" "I" (.int (0 : Int32)) ∧ Fld Z h a "java/util/ArrayList" "elementData" "[Ljava/lang/Object;" (.ref dE) ∧ Fld Z h a "java/util/ArrayList" "size" "I" (.int (0 : Int32))
set_option maxRecDepth 65536 in
set_option maxHeartbeats 40000000 in
theorem rmAi (l : Launch) (Z : State) (a0 : Array Value) (hw : ∀ d ∈ tables_1, d.before a0 Z = true) (ws : List Jvm.Cond) (a dE : Addr) (h0 : Heap) (n0 : Nat) (Z0 : n0 ≤ h0.size) (Ea : Exa Z h0 a "java/util/ArrayList") (ga : n0 ≤ a) (Fm : Fld Z h0 a "java/util/AbstractList" "modCount" "I" (.int (0 : Int32))) (Fe : Fld Z h0 a "java/util/ArrayList" "elementData" "[Ljava/lang/Object;" .null) (Fs : Fld Z h0 a "java/util/ArrayList" "size" "I" (.int (0 : Int32))) (Sde : Sta Z h0 "java/util/ArrayList" "DEFAULTCAPACITY_EMPTY_ELEMENTDATA" "[Ljava/lang/Object;" (.ref dE)) :
    MetFree l mN4 (head1 (Jvm.Cond.code mN4 jdk_38_method_2_code 1 none :: ws) ({ frames := 3, cells := 0, slots := 0, locals := 36 } : Room)) (fun aa U => aa = #[(.ref a)] ∧ Z.Warmed39 U.vm ∧ U.heap = h0) (fun _ _ _ _ _ => True) (fun _ u1_ o_ u2_ => ∃ v_ l_, o_ = .returned v_ ∧ QAi Z a dE h0 n0 v_ u2_.heap l_ ∧ FrameEnd u1_ o_ u2_ l_ ({ frames := 3, cells := 0, slots := 0, locals := 36 } : Room).cells ({ frames := 3, cells := 0, slots := 0, locals := 36 } : Room).slots) := by
  refine MetFree.of_bodySF (plainFor_of_name pn_java_util_ArrayList) hisR ?_
  intro p e s m args below meth c s₁ Bd hml0 hP hK
  obtain ⟨rfl, hZ, hh⟩ := hP
  have hx := Bd.exec
  have hby := Bd.bytes
  have hlk := BodyLoose.notSynchronized Bd
  have hret := Bd.returns
  have hml : c.maxLocals = 1 := hml0
  have hown : s.vm.findClass "java/util/ArrayList" = some m.cls := findClass_of_methodNamed Bd.named
  have hnm := (name_of_methodNamed Bd.named Bd.method).1
  have X0 : Stand p l e ({ frames := 3, cells := 0, slots := 0, locals := 36 } : Room) s m #[(.ref a)] below meth c s₁ [] 0 0 := Stand.of_body Bd
  have e0 : s₁.heap = h0 := by rw [← hh, Bd.state]; rfl
  have N0 := Fr.nil n0
  refine Goes.st (E := (EN s (QAi Z a dE h0 n0) ({ frames := 3, cells := 0, slots := 0, locals := 36 } : Room).cells ({ frames := 3, cells := 0, slots := 0, locals := 36 } : Room).slots)) (fun tg kg => castTop (ef_Ai m a) kg) ?_
  have K0 : Keep h0 h0 [a] := Keep.refl _ _
  show Gs p e below _ s₁ m 0 #[rv a] []
  refine galoadN X0 hx (hb hby dj38_2_0) rfl rfl ?_
  obtain ⟨_, _, ⟨T1, L1, k1, n1⟩, -, X1, ⟨Lc1, hQ1, l1, y1, z1⟩, st1⟩ := X0.specialBack hx (y := mN3) rfl hown (mvT hZ (hwk hw 15 rfl)) (mvT hZ (hwk hw 16 rfl)) (mvT hZ (hwk hw 20 rfl)) (by decide) (backOf (W := 0) (rmAb l Z a0 hw [] a (.int (0 : Int32)) .null (.int (0 : Int32)) h0 n0 Z0 Ea ga Fm Fe Fs) hZ (hwk hw 20 rfl) (hwk hw 19 rfl) (by decide) (by decide)) (g := (mkF m 1 #[rv a] [(.ref a)])) rfl (by rw [hml]; rfl) (Steps.refl _) (a := a) (argsL := []) (rest := []) (lenOf pd___V_566 rfl) rfl (by show 2 * 0 + _ ≤ _; exact Nat.le_of_eq rfl) (hb hby dj38_2_1) (fun _ _ => ⟨rfl, e0, (by decide : 0 + 0 ≤ 0), (by decide : 0 + 0 ≤ 0)⟩)
  dsimp only [Pt.U, Pt.locs, Pt.cells, Pt.slots] at X1 l1 y1 z1 st1 hQ1
  subst l1 y1 z1
  obtain ⟨rfl, N1q, K1, R1_0, R1_1, R1_2⟩ := hQ1
  have KK2 := K0.trans K1 (allS (Or.inl (List.mem_of_getElem? (i := 0) rfl)) all0)
  have Z1 : n0 ≤ T1.heap.size := Nat.le_trans Z0 K1.1
  have N1 := Fr.app N0 N1q
  refine Goes.sts st1 ?_
  show Gs p e below _ T1 m 4 #[rv a] []
  refine galoadN X1 hx (hb hby dj38_2_4) rfl rfl ?_
  have f4 := (Sde.kept K1 (nsS (Exa.nostat Ea) ns0))
  obtain ⟨T3, X3, e3, st3⟩ := getS X1 hx hZ hown (host := "") (hwk hw 32 rfl) Via.refl rfl f4 (g := (mkF m 5 #[rv a] [(.ref a)])) rfl (hb hby dj38_2_5)
  refine Goes.st st3 ?_
  have f6 := (Ea.keep K1)
  obtain ⟨T5, h5, X5, e5, W5, st5⟩ := putF X3 hx hZ hown (host := "") (Or.inl (hwk hw 33 rfl)) Via.refl e3 R1_1 f6 (Or.inl (hwk hw 34 rfl)) (hwk hw 10 rfl) (ty := (.array (.object "java/lang/Object"))) (by decide) rfl rfl (g := (mkF m 8 #[rv a] [(.ref dE), (.ref a)])) rfl rfl (hb hby dj38_2_8)
  have N5 := Fr.snoc X5 N1 ga
  have G5 := R1_1.same W5
  refine Goes.st st5 ?_
  have KK7 := KK2.wr W5 (Or.inl (List.mem_of_getElem? (i := 0) rfl))
  have Z5 : n0 ≤ h5.size := by have := W5.size; have := Z1; omega
  show Gs p e below _ T5 m 11 #[rv a] []
  have f8 := (R1_0.other W5 (Or.inr (slot_ne (Or.inl (hwk hw 31 rfl)) (Or.inl (hwk hw 34 rfl)) (by decide) (t := .int) (t' := (.array (.object "java/lang/Object"))) (by decide) (by decide))))
  have f9 := (R1_2.other W5 (Or.inr (slot_ne (Or.inl (hwk hw 122 rfl)) (Or.inl (hwk hw 34 rfl)) (by decide) (t := .int) (t' := (.array (.object "java/lang/Object"))) (by decide) (by decide))))
  refine Goes.retV X5 hx hret (hb hby dj38_2_11) (lvN X5 hlk (fun _ => rfl) ?_ (by decide) (by decide))
  rw [e5]
  exact ⟨rfl, N5, KK7, f8, G5, f9⟩
theorem dj42_55_0 : decode jdk_42_method_55_code 0 = .ok (.aload_n 0, 1) := by decide +kernel
theorem dj42_55_1 : decode jdk_42_method_55_code 1 = .ok (.getfield 9, 3) := by decide +kernel
theorem dj42_55_4 : decode jdk_42_method_55_code 4 = .ok (.arraylength, 1) := by decide +kernel
theorem dj42_55_5 : decode jdk_42_method_55_code 5 = .ok (.ifCond .ne 7, 3) := by decide +kernel
theorem dj42_55_12 : decode jdk_42_method_55_code 12 = .ok (.iconst 0, 1) := by decide +kernel
theorem dj42_55_13 : decode jdk_42_method_55_code 13 = .ok (.ireturn, 1) := by decide +kernel
theorem pn_java_lang_String : plainName "java/lang/String" = true := by first | (simp [plainName, overriddenIn]; done) | decide +kernel
theorem ef_Em (m : MethodId) (x0 : Addr) : entryFrame m #[(.ref x0)] 1 = mkF m 0 #[rv x0] [] := by first | (simp [entryFrame, mkF, argsToLocals, Value.category]; done) | rfl
def QEm (Z : State) (rb bb : Addr) (kb : ClassId) (ch : Int32) (h0 : Heap) (n0 : Nat) (v : Option Value) (h : Heap) (L : List Loc) : Prop := v = some (.int (0 : Int32)) ∧ Fr n0 L ∧ h = h0
set_option maxRecDepth 65536 in
set_option maxHeartbeats 40000000 in
theorem rmEm (l : Launch) (Z : State) (a0 : Array Value) (hw : ∀ d ∈ tables_1, d.before a0 Z = true) (ws : List Jvm.Cond) (rb bb : Addr) (kb : ClassId) (ch : Int32) (h0 : Heap) (n0 : Nat) (Z0 : n0 ≤ h0.size) (Vb : Fld Z h0 rb "java/lang/String" "value" "[B" (.ref bb)) (Ab : Arv Z h0 bb kb .byte (1 : Int32) [(.int ch)] (.int (0 : Int32))) :
    MetFree l mN5 (head1 (Jvm.Cond.code mN5 jdk_42_method_55_code 1 (some .boolean) :: ws) ({ frames := 0, cells := 0, slots := 0, locals := 0 } : Room)) (fun aa U => aa = #[(.ref rb)] ∧ Z.Warmed39 U.vm ∧ U.heap = h0) (fun _ _ _ _ _ => True) (fun _ u1_ o_ u2_ => ∃ v_ l_, o_ = .returned v_ ∧ QEm Z rb bb kb ch h0 n0 v_ u2_.heap l_ ∧ FrameEnd u1_ o_ u2_ l_ ({ frames := 0, cells := 0, slots := 0, locals := 0 } : Room).cells ({ frames := 0, cells := 0, slots := 0, locals := 0 } : Room).slots) := by
  refine MetFree.of_bodySF (plainFor_of_name pn_java_lang_String) hisR ?_
  intro p e s m args below meth c s₁ Bd hml0 hP hK
  obtain ⟨rfl, hZ, hh⟩ := hP
  have hx := Bd.exec
  have hby := Bd.bytes
  have hlk := BodyLoose.notSynchronized Bd
  have hret := Bd.returns
  have hml : c.maxLocals = 1 := hml0
  have hown : s.vm.findClass "java/lang/String" = some m.cls := findClass_of_methodNamed Bd.named
  have hnm := (name_of_methodNamed Bd.named Bd.method).1
  have X0 : Stand p l e ({ frames := 0, cells := 0, slots := 0, locals := 0 } : Room) s m #[(.ref rb)] below meth c s₁ [] 0 0 := Stand.of_body Bd
  have e0 : s₁.heap = h0 := by rw [← hh, Bd.state]; rfl
  have N0 := Fr.nil n0
  refine Goes.st (E := (EN s (QEm Z rb bb kb ch h0 n0) ({ frames := 0, cells := 0, slots := 0, locals := 0 } : Room).cells ({ frames := 0, cells := 0, slots := 0, locals := 0 } : Room).slots)) (fun tg kg => castTop (ef_Em m rb) kg) ?_
  show Gs p e below _ s₁ m 0 #[rv rb] []
  refine galoadN X0 hx (hb hby dj42_55_0) rfl rfl ?_
  obtain ⟨T1, X1, e1, st1⟩ := getF X0 hx hZ hown (host := "") (Or.inl (hwk hw 68 rfl)) Via.refl e0 Vb (g := (mkF m 1 #[rv rb] [(.ref rb)])) rfl rfl (hb hby dj42_55_1)
  refine Goes.st st1 ?_
  obtain ⟨cl2, Ar2, qk2, Sz2, qz2, Ha2, Gf2⟩ := id Ab
  refine Goes.st (fun tg kg => X1.arraylength hx (cell := cl2) (by rw [e1]; exact Ar2.1) (State.isArrayOf_alike hZ.alike Ar2.2.1) (g := (mkF m 4 #[rv rb] [(.ref bb)])) rfl (rest := []) rfl (hb hby dj42_55_4) tg kg) ?_
  rw [len_of Sz2 qz2]
  show Gs p e below _ T1 m 5 #[rv rb] [(.int (1 : Int32))]
  refine gifYes X1 hx (pc := 5) (pc' := 12) (hb hby dj42_55_5) (by decide) (by decide) (by decide) ?_
  refine giconst X1 hx (hb hby dj42_55_12) ?_
  refine Goes.retN X1 hx hret (by simp) (hb hby dj42_55_13) (by decide) (lvN X1 hlk (vsome hret) ?_ (by decide) (by decide))
  rw [e1]
  exact ⟨rfl, N0, rfl⟩
theorem dj42_152_0 : decode jdk_42_method_152_code 0 = .ok (.getstatic 38, 3) := by decide +kernel
theorem dj42_152_3 : decode jdk_42_method_152_code 3 = .ok (.ifCond .eq 10, 3) := by decide +kernel
theorem dj42_152_6 : decode jdk_42_method_152_code 6 = .ok (.aload_n 0, 1) := by decide +kernel
theorem dj42_152_7 : decode jdk_42_method_152_code 7 = .ok (.getfield 15, 3) := by decide +kernel
theorem dj42_152_10 : decode jdk_42_method_152_code 10 = .ok (.goto 4, 3) := by decide +kernel
theorem dj42_152_14 : decode jdk_42_method_152_code 14 = .ok (.ireturn, 1) := by decide +kernel
theorem ef_Co (m : MethodId) (x0 : Addr) : entryFrame m #[(.ref x0)] 1 = mkF m 0 #[rv x0] [] := by first | (simp [entryFrame, mkF, argsToLocals, Value.category]; done) | rfl
def QCo (Z : State) (rb bb : Addr) (kb : ClassId) (ch : Int32) (cs : Int32) (h0 : Heap) (n0 : Nat) (v : Option Value) (h : Heap) (L : List Loc) : Prop := v = some (.int (0 : Int32)) ∧ Fr n0 L ∧ h = h0
set_option maxRecDepth 65536 in
set_option maxHeartbeats 40000000 in
theorem rmCo (l : Launch) (Z : State) (a0 : Array Value) (hw : ∀ d ∈ tables_1, d.before a0 Z = true) (ws : List Jvm.Cond) (rb bb : Addr) (kb : ClassId) (ch : Int32) (cs : Int32) (h0 : Heap) (n0 : Nat) (Z0 : n0 ≤ h0.size) (Scs : Sta Z h0 "java/lang/String" "COMPACT_STRINGS" "Z" (.int cs)) (hcs : ¬ cs = (0 : Int32)) (Vb : Fld Z h0 rb "java/lang/String" "value" "[B" (.ref bb)) (Cb : Fld Z h0 rb "java/lang/String" "coder" "B" (.int (0 : Int32))) (Ab : Arv Z h0 bb kb .byte (1 : Int32) [(.int ch)] (.int (0 : Int32))) :
    MetFree l mN6 (head1 (Jvm.Cond.code mN6 jdk_42_method_152_code 1 (some .byte) :: ws) ({ frames := 0, cells := 0, slots := 0, locals := 0 } : Room)) (fun aa U => aa = #[(.ref rb)] ∧ Z.Warmed39 U.vm ∧ U.heap = h0) (fun _ _ _ _ _ => True) (fun _ u1_ o_ u2_ => ∃ v_ l_, o_ = .returned v_ ∧ QCo Z rb bb kb ch cs h0 n0 v_ u2_.heap l_ ∧ FrameEnd u1_ o_ u2_ l_ ({ frames := 0, cells := 0, slots := 0, locals := 0 } : Room).cells ({ frames := 0, cells := 0, slots := 0, locals := 0 } : Room).slots) := by
  refine MetFree.of_bodySF (plainFor_of_name pn_java_lang_String) hisR ?_
  intro p e s m args below meth c s₁ Bd hml0 hP hK
  obtain ⟨rfl, hZ, hh⟩ := hP
  have hx := Bd.exec
  have hby := Bd.bytes
  have hlk := BodyLoose.notSynchronized Bd
  have hret := Bd.returns
  have hml : c.maxLocals = 1 := hml0
  have hown : s.vm.findClass "java/lang/String" = some m.cls := findClass_of_methodNamed Bd.named
  have hnm := (name_of_methodNamed Bd.named Bd.method).1
  have X0 : Stand p l e ({ frames := 0, cells := 0, slots := 0, locals := 0 } : Room) s m #[(.ref rb)] below meth c s₁ [] 0 0 := Stand.of_body Bd
  have e0 : s₁.heap = h0 := by rw [← hh, Bd.state]; rfl
  have N0 := Fr.nil n0
  refine Goes.st (E := (EN s (QCo Z rb bb kb ch cs h0 n0) ({ frames := 0, cells := 0, slots := 0, locals := 0 } : Room).cells ({ frames := 0, cells := 0, slots := 0, locals := 0 } : Room).slots)) (fun tg kg => castTop (ef_Co m rb) kg) ?_
  show Gs p e below _ s₁ m 0 #[rv rb] []
  obtain ⟨T1, X1, e1, st1⟩ := getS X0 hx hZ hown (host := "") (hwk hw 83 rfl) Via.refl e0 Scs (g := (mkF m 0 #[rv rb] [])) rfl (hb hby dj42_152_0)
  refine Goes.st st1 ?_
  refine gifNo X1 hx (hb hby dj42_152_3) ((if0 _ _).trans (feq hcs).1) ?_
  refine galoadN X1 hx (hb hby dj42_152_6) rfl rfl ?_
  obtain ⟨T2, X2, e2, st2⟩ := getF X1 hx hZ hown (host := "") (Or.inl (hwk hw 84 rfl)) Via.refl e1 Cb (g := (mkF m 7 #[rv rb] [(.ref rb)])) rfl rfl (hb hby dj42_152_7)
  refine Goes.st st2 ?_
  refine ggoto X2 hx (pc := 10) (pc' := 14) (hb hby dj42_152_10) (by decide) (by decide) ?_
  refine Goes.retN X2 hx hret (by simp) (hb hby dj42_152_14) (by decide) (lvN X2 hlk (vsome hret) ?_ (by decide) (by decide))
  rw [e2]
  exact ⟨rfl, N0, rfl⟩
theorem dj42_54_0 : decode jdk_42_method_54_code 0 = .ok (.aload_n 0, 1) := by decide +kernel
theorem dj42_54_1 : decode jdk_42_method_54_code 1 = .ok (.getfield 9, 3) := by decide +kernel
theorem dj42_54_4 : decode jdk_42_method_54_code 4 = .ok (.arraylength, 1) := by decide +kernel
theorem dj42_54_5 : decode jdk_42_method_54_code 5 = .ok (.aload_n 0, 1) := by decide +kernel
theorem dj42_54_6 : decode jdk_42_method_54_code 6 = .ok (.invokevirtual 335, 3) := by decide +kernel
theorem dj42_54_9 : decode jdk_42_method_54_code 9 = .ok (.ishr, 1) := by decide +kernel
theorem dj42_54_10 : decode jdk_42_method_54_code 10 = .ok (.ireturn, 1) := by decide +kernel
theorem pd___B_4b2 : parseMethodDescriptor "()B" = some ⟨[], some .byte⟩ := by decide +kernel
theorem ef_Le (m : MethodId) (x0 : Addr) : entryFrame m #[(.ref x0)] 1 = mkF m 0 #[rv x0] [] := by first | (simp [entryFrame, mkF, argsToLocals, Value.category]; done) | rfl
def QLe (Z : State) (rb bb : Addr) (kb : ClassId) (ch : Int32) (cs : Int32) (h0 : Heap) (n0 : Nat) (v : Option Value) (h : Heap) (L : List Loc) : Prop := v = some (.int (1 : Int32)) ∧ Fr n0 L ∧ h = h0
set_option maxRecDepth 65536 in
set_option maxHeartbeats 40000000 in
theorem rmLe (l : Launch) (Z : State) (a0 : Array Value) (hw : ∀ d ∈ tables_1, d.before a0 Z = true) (ws : List Jvm.Cond) (rb bb : Addr) (kb : ClassId) (ch : Int32) (cs : Int32) (h0 : Heap) (n0 : Nat) (Z0 : n0 ≤ h0.size) (Scs : Sta Z h0 "java/lang/String" "COMPACT_STRINGS" "Z" (.int cs)) (hcs : ¬ cs = (0 : Int32)) (Eb : Exa Z h0 rb "java/lang/String") (Vb : Fld Z h0 rb "java/lang/String" "value" "[B" (.ref bb)) (Cb : Fld Z h0 rb "java/lang/String" "coder" "B" (.int (0 : Int32))) (Ab : Arv Z h0 bb kb .byte (1 : Int32) [(.int ch)] (.int (0 : Int32))) :
    MetFree l mN7 (head1 (Jvm.Cond.code mN7 jdk_42_method_54_code 1 (some .int) :: ws) ({ frames := 1, cells := 0, slots := 0, locals := 13 } : Room)) (fun aa U => aa = #[(.ref rb)] ∧ Z.Warmed39 U.vm ∧ U.heap = h0) (fun _ _ _ _ _ => True) (fun _ u1_ o_ u2_ => ∃ v_ l_, o_ = .returned v_ ∧ QLe Z rb bb kb ch cs h0 n0 v_ u2_.heap l_ ∧ FrameEnd u1_ o_ u2_ l_ ({ frames := 1, cells := 0, slots := 0, locals := 13 } : Room).cells ({ frames := 1, cells := 0, slots := 0, locals := 13 } : Room).slots) := by
  refine MetFree.of_bodySF (plainFor_of_name pn_java_lang_String) hisR ?_
  intro p e s m args below meth c s₁ Bd hml0 hP hK
  obtain ⟨rfl, hZ, hh⟩ := hP
  have hx := Bd.exec
  have hby := Bd.bytes
  have hlk := BodyLoose.notSynchronized Bd
  have hret := Bd.returns
  have hml : c.maxLocals = 1 := hml0
  have hown : s.vm.findClass "java/lang/String" = some m.cls := findClass_of_methodNamed Bd.named
  have hnm := (name_of_methodNamed Bd.named Bd.method).1
  have X0 : Stand p l e ({ frames := 1, cells := 0, slots := 0, locals := 13 } : Room) s m #[(.ref rb)] below meth c s₁ [] 0 0 := Stand.of_body Bd
  have e0 : s₁.heap = h0 := by rw [← hh, Bd.state]; rfl
  have N0 := Fr.nil n0
  refine Goes.st (E := (EN s (QLe Z rb bb kb ch cs h0 n0) ({ frames := 1, cells := 0, slots := 0, locals := 13 } : Room).cells ({ frames := 1, cells := 0, slots := 0, locals := 13 } : Room).slots)) (fun tg kg => castTop (ef_Le m rb) kg) ?_
  show Gs p e below _ s₁ m 0 #[rv rb] []
  refine galoadN X0 hx (hb hby dj42_54_0) rfl rfl ?_
  obtain ⟨T1, X1, e1, st1⟩ := getF X0 hx hZ hown (host := "") (Or.inl (hwk hw 68 rfl)) Via.refl e0 Vb (g := (mkF m 1 #[rv rb] [(.ref rb)])) rfl rfl (hb hby dj42_54_1)
  refine Goes.st st1 ?_
  obtain ⟨cl2, Ar2, qk2, Sz2, qz2, Ha2, Gf2⟩ := id Ab
  refine Goes.st (fun tg kg => X1.arraylength hx (cell := cl2) (by rw [e1]; exact Ar2.1) (State.isArrayOf_alike hZ.alike Ar2.2.1) (g := (mkF m 4 #[rv rb] [(.ref bb)])) rfl (rest := []) rfl (hb hby dj42_54_4) tg kg) ?_
  rw [len_of Sz2 qz2]
  show Gs p e below _ T1 m 5 #[rv rb] [(.int (1 : Int32))]
  refine galoadN X1 hx (hb hby dj42_54_5) rfl rfl ?_
  obtain ⟨cq3, kq3, qa3, qb3, qc3⟩ := isOf hZ e1 Eb
  obtain ⟨_, _, ⟨T3, L3, k3, n3⟩, -, X3, ⟨Lc3, hQ3, l3, y3, z3⟩, st3⟩ := X1.virtualBack hx (y := mN6) (z := mN6) hown (mvT hZ (hwk hw 78 rfl)) (mvT hZ (hwk hw 79 rfl)) (notFace_of_selects (args := #[]) (mvT hZ (hwk hw 81 rfl))) (mvT hZ (hwk hw 81 rfl)) (mvT hZ (hwk hw 80 rfl)) (by decide) (backOf (W := 1) (rmCo l Z a0 hw [] rb bb kb ch cs h0 n0 Z0 Scs hcs Vb Cb Ab) hZ (hwk hw 82 rfl) (hwk hw 39 rfl) (by decide) (by decide)) qa3 qc3 (g := (mkF m 6 #[rv rb] [(.ref rb), (.int (1 : Int32))])) rfl (by rw [hml]; rfl) (Steps.refl _) (argsL := []) (rest := [(.int (1 : Int32))]) (lenOf pd___B_4b2 rfl) rfl (by show 2 * 0 + _ ≤ _; exact Nat.le_of_eq rfl) (hb hby dj42_54_6) (fun _ _ => ⟨rfl, e1, (by decide : 0 + 0 ≤ 0), (by decide : 0 + 0 ≤ 0)⟩)
  dsimp only [Pt.U, Pt.locs, Pt.cells, Pt.slots] at X3 l3 y3 z3 st3 hQ3
  subst l3 y3 z3
  obtain ⟨rfl, N3q, eh3⟩ := hQ3
  have N3 := Fr.app N0 N3q
  refine Goes.sts st3 ?_
  show Gs p e below _ T3 m 9 #[rv rb] [(.int (0 : Int32)), (.int (1 : Int32))]
  refine Goes.st (fun tg kg => XT.ishr X3.here hx rfl (hb hby dj42_54_9) rfl kg) ?_
  show Gs p e below _ T3 m 10 #[rv rb] [(.int ((1 : Int32) >>> ((0 : Int32) &&& 31)))]
  rw [show ((1 : Int32) >>> ((0 : Int32) &&& 31)) = (1 : Int32) from by decide]
  show Gs p e below _ T3 m 10 #[rv rb] [(.int (1 : Int32))]
  refine Goes.retI X3 hx hret (hb hby dj42_54_10) (lvN X3 hlk (vsome hret) ?_ (by decide) (by decide))
  rw [eh3]
  exact ⟨rfl, N3, rfl⟩
theorem dj42_154_0 : decode jdk_42_method_154_code 0 = .ok (.getstatic 38, 3) := by decide +kernel
theorem dj42_154_3 : decode jdk_42_method_154_code 3 = .ok (.ifCond .eq 14, 3) := by decide +kernel
theorem dj42_154_6 : decode jdk_42_method_154_code 6 = .ok (.aload_n 0, 1) := by decide +kernel
theorem dj42_154_7 : decode jdk_42_method_154_code 7 = .ok (.getfield 15, 3) := by decide +kernel
theorem dj42_154_10 : decode jdk_42_method_154_code 10 = .ok (.ifCond .ne 7, 3) := by decide +kernel
theorem dj42_154_13 : decode jdk_42_method_154_code 13 = .ok (.iconst 1, 1) := by decide +kernel
theorem dj42_154_14 : decode jdk_42_method_154_code 14 = .ok (.goto 4, 3) := by decide +kernel
theorem dj42_154_18 : decode jdk_42_method_154_code 18 = .ok (.ireturn, 1) := by decide +kernel
theorem ef_Il (m : MethodId) (x0 : Addr) : entryFrame m #[(.ref x0)] 1 = mkF m 0 #[rv x0] [] := by first | (simp [entryFrame, mkF, argsToLocals, Value.category]; done) | rfl
def QIl (Z : State) (rb bb : Addr) (kb : ClassId) (ch : Int32) (cs : Int32) (h0 : Heap) (n0 : Nat) (v : Option Value) (h : Heap) (L : List Loc) : Prop := v = some (.int (1 : Int32)) ∧ Fr n0 L ∧ h = h0
set_option maxRecDepth 65536 in
set_option maxHeartbeats 40000000 in
theorem rmIl (l : Launch) (Z : State) (a0 : Array Value) (hw : ∀ d ∈ tables_1, d.before a0 Z = true) (ws : List Jvm.Cond) (rb bb : Addr) (kb : ClassId) (ch : Int32) (cs : Int32) (h0 : Heap) (n0 : Nat) (Z0 : n0 ≤ h0.size) (Scs : Sta Z h0 "java/lang/String" "COMPACT_STRINGS" "Z" (.int cs)) (hcs : ¬ cs = (0 : Int32)) (Vb : Fld Z h0 rb "java/lang/String" "value" "[B" (.ref bb)) (Cb : Fld Z h0 rb "java/lang/String" "coder" "B" (.int (0 : Int32))) (Ab : Arv Z h0 bb kb .byte (1 : Int32) [(.int ch)] (.int (0 : Int32))) :
    MetFree l mN8 (head1 (Jvm.Cond.code mN8 jdk_42_method_154_code 1 (some .boolean) :: ws) ({ frames := 0, cells := 0, slots := 0, locals := 0 } : Room)) (fun aa U => aa = #[(.ref rb)] ∧ Z.Warmed39 U.vm ∧ U.heap = h0) (fun _ _ _ _ _ => True) (fun _ u1_ o_ u2_ => ∃ v_ l_, o_ = .returned v_ ∧ QIl Z rb bb kb ch cs h0 n0 v_ u2_.heap l_ ∧ FrameEnd u1_ o_ u2_ l_ ({ frames := 0, cells := 0, slots := 0, locals := 0 } : Room).cells ({ frames := 0, cells := 0, slots := 0, locals := 0 } : Room).slots) := by
  refine MetFree.of_bodySF (plainFor_of_name pn_java_lang_String) hisR ?_
  intro p e s m args below meth c s₁ Bd hml0 hP hK
  obtain ⟨rfl, hZ, hh⟩ := hP
  have hx := Bd.exec
  have hby := Bd.bytes
  have hlk := BodyLoose.notSynchronized Bd
  have hret := Bd.returns
  have hml : c.maxLocals = 1 := hml0
  have hown : s.vm.findClass "java/lang/String" = some m.cls := findClass_of_methodNamed Bd.named
  have hnm := (name_of_methodNamed Bd.named Bd.method).1
  have X0 : Stand p l e ({ frames := 0, cells := 0, slots := 0, locals := 0 } : Room) s m #[(.ref rb)] below meth c s₁ [] 0 0 := Stand.of_body Bd
  have e0 : s₁.heap = h0 := by rw [← hh, Bd.state]; rfl
  have N0 := Fr.nil n0
  refine Goes.st (E := (EN s (QIl Z rb bb kb ch cs h0 n0) ({ frames := 0, cells := 0, slots := 0, locals := 0 } : Room).cells ({ frames := 0, cells := 0, slots := 0, locals := 0 } : Room).slots)) (fun tg kg => castTop (ef_Il m rb) kg) ?_
  show Gs p e below _ s₁ m 0 #[rv rb] []
  obtain ⟨T1, X1, e1, st1⟩ := getS X0 hx hZ hown (host := "") (hwk hw 83 rfl) Via.refl e0 Scs (g := (mkF m 0 #[rv rb] [])) rfl (hb hby dj42_154_0)
  refine Goes.st st1 ?_
  refine gifNo X1 hx (hb hby dj42_154_3) ((if0 _ _).trans (feq hcs).1) ?_
  refine galoadN X1 hx (hb hby dj42_154_6) rfl rfl ?_
  obtain ⟨T2, X2, e2, st2⟩ := getF X1 hx hZ hown (host := "") (Or.inl (hwk hw 84 rfl)) Via.refl e1 Cb (g := (mkF m 7 #[rv rb] [(.ref rb)])) rfl rfl (hb hby dj42_154_7)
  refine Goes.st st2 ?_
  refine gifNo X2 hx (hb hby dj42_154_10) (by decide) ?_
  refine giconst X2 hx (hb hby dj42_154_13) ?_
  refine ggoto X2 hx (pc := 14) (pc' := 18) (hb hby dj42_154_14) (by decide) (by decide) ?_
  refine Goes.retN X2 hx hret (by simp) (hb hby dj42_154_18) (by decide) (lvN X2 hlk (vsome hret) ?_ (by decide) (by decide))
  rw [e2]
  exact ⟨rfl, N0, rfl⟩
def QPc (Z : State) (ix nn : Int32) (h0 : Heap) (n0 : Nat) (v : Option Value) (h : Heap) (L : List Loc) : Prop := v = some (.int ix) ∧ Fr n0 L ∧ h = h0
theorem dj41_11_0 : decode jdk_41_method_11_code 0 = .ok (.iload_n 0, 1) := by decide +kernel
theorem dj41_11_1 : decode jdk_41_method_11_code 1 = .ok (.ifCond .lt 8, 3) := by decide +kernel
theorem dj41_11_4 : decode jdk_41_method_11_code 4 = .ok (.iload_n 0, 1) := by decide +kernel
theorem dj41_11_5 : decode jdk_41_method_11_code 5 = .ok (.iload_n 1, 1) := by decide +kernel
theorem dj41_11_6 : decode jdk_41_method_11_code 6 = .ok (.if_icmp .lt 10, 3) := by decide +kernel
theorem dj41_11_16 : decode jdk_41_method_11_code 16 = .ok (.iload_n 0, 1) := by decide +kernel
theorem dj41_11_17 : decode jdk_41_method_11_code 17 = .ok (.ireturn, 1) := by decide +kernel
theorem pn_jdk_internal_util_Preconditions : plainName "jdk/internal/util/Preconditions" = true := by first | (simp [plainName, overriddenIn]; done) | decide +kernel
theorem ef_PcN (m : MethodId) (x0 : Int32) (x1 : Int32) : entryFrame m #[(.int x0), (.int x1), .null] 3 = mkF m 0 #[iv x0, iv x1, .val .null] [] := by first | (simp [entryFrame, mkF, argsToLocals, Value.category]; done) | rfl
set_option maxRecDepth 65536 in
set_option maxHeartbeats 40000000 in
theorem rmPcN (l : Launch) (Z : State) (a0 : Array Value) (hw : ∀ d ∈ tables_1, d.before a0 Z = true) (ws : List Jvm.Cond) (ix nn : Int32) (h0 : Heap) (n0 : Nat) (Z0 : n0 ≤ h0.size) (hi1 : ¬ ix < (0 : Int32)) (hi2 : ix < nn) :
    MetFree l mN9 (head1 (Jvm.Cond.code mN9 jdk_41_method_11_code 3 (some .int) :: ws) ({ frames := 0, cells := 0, slots := 0, locals := 0 } : Room)) (fun aa U => aa = #[(.int ix), (.int nn), .null] ∧ Z.Warmed39 U.vm ∧ U.heap = h0) (fun _ _ _ _ _ => True) (fun _ u1_ o_ u2_ => ∃ v_ l_, o_ = .returned v_ ∧ QPc Z ix nn h0 n0 v_ u2_.heap l_ ∧ FrameEnd u1_ o_ u2_ l_ ({ frames := 0, cells := 0, slots := 0, locals := 0 } : Room).cells ({ frames := 0, cells := 0, slots := 0, locals := 0 } : Room).slots) := by
  refine MetFree.of_bodySF (plainFor_of_name pn_jdk_internal_util_Preconditions) hisR ?_
  intro p e s m args below meth c s₁ Bd hml0 hP hK
  obtain ⟨rfl, hZ, hh⟩ := hP
  have hx := Bd.exec
  have hby := Bd.bytes
  have hlk := BodyLoose.notSynchronized Bd
  have hret := Bd.returns
  have hml : c.maxLocals = 3 := hml0
  have hown : s.vm.findClass "jdk/internal/util/Preconditions" = some m.cls := findClass_of_methodNamed Bd.named
  have hnm := (name_of_methodNamed Bd.named Bd.method).1
  have X0 : Stand p l e ({ frames := 0, cells := 0, slots := 0, locals := 0 } : Room) s m #[(.int ix), (.int nn), .null] below meth c s₁ [] 0 0 := Stand.of_body Bd
  have e0 : s₁.heap = h0 := by rw [← hh, Bd.state]; rfl
  have N0 := Fr.nil n0
  refine Goes.st (E := (EN s (QPc Z ix nn h0 n0) ({ frames := 0, cells := 0, slots := 0, locals := 0 } : Room).cells ({ frames := 0, cells := 0, slots := 0, locals := 0 } : Room).slots)) (fun tg kg => castTop (ef_PcN m ix nn) kg) ?_
  show Gs p e below _ s₁ m 0 #[iv ix, iv nn, .val .null] []
  refine giloadN X0 hx (hb hby dj41_11_0) rfl ?_
  refine gifNo X0 hx (hb hby dj41_11_1) ((if0 _ _).trans (flt hi1).1) ?_
  refine giloadN X0 hx (hb hby dj41_11_4) rfl ?_
  refine giloadN X0 hx (hb hby dj41_11_5) rfl ?_
  refine gicmpYes X0 hx (pc := 6) (pc' := 16) (hb hby dj41_11_6) (tlt hi2).1 (by decide) (by decide) ?_
  refine giloadN X0 hx (hb hby dj41_11_16) rfl ?_
  refine Goes.retI X0 hx hret (hb hby dj41_11_17) (lvN X0 hlk (vsome hret) ?_ (by decide) (by decide))
  rw [e0]
  exact ⟨rfl, N0, rfl⟩
theorem ef_PcR (m : MethodId) (x0 : Int32) (x1 : Int32) (x2 : Addr) : entryFrame m #[(.int x0), (.int x1), (.ref x2)] 3 = mkF m 0 #[iv x0, iv x1, rv x2] [] := by first | (simp [entryFrame, mkF, argsToLocals, Value.category]; done) | rfl
set_option maxRecDepth 65536 in
set_option maxHeartbeats 40000000 in
theorem rmPcR (l : Launch) (Z : State) (a0 : Array Value) (hw : ∀ d ∈ tables_1, d.before a0 Z = true) (ws : List Jvm.Cond) (ix nn : Int32) (fm : Addr) (h0 : Heap) (n0 : Nat) (Z0 : n0 ≤ h0.size) (hi1 : ¬ ix < (0 : Int32)) (hi2 : ix < nn) :
    MetFree l mN9 (head1 (Jvm.Cond.code mN9 jdk_41_method_11_code 3 (some .int) :: ws) ({ frames := 0, cells := 0, slots := 0, locals := 0 } : Room)) (fun aa U => aa = #[(.int ix), (.int nn), (.ref fm)] ∧ Z.Warmed39 U.vm ∧ U.heap = h0) (fun _ _ _ _ _ => True) (fun _ u1_ o_ u2_ => ∃ v_ l_, o_ = .returned v_ ∧ QPc Z ix nn h0 n0 v_ u2_.heap l_ ∧ FrameEnd u1_ o_ u2_ l_ ({ frames := 0, cells := 0, slots := 0, locals := 0 } : Room).cells ({ frames := 0, cells := 0, slots := 0, locals := 0 } : Room).slots) := by
  refine MetFree.of_bodySF (plainFor_of_name pn_jdk_internal_util_Preconditions) hisR ?_
  intro p e s m args below meth c s₁ Bd hml0 hP hK
  obtain ⟨rfl, hZ, hh⟩ := hP
  have hx := Bd.exec
  have hby := Bd.bytes
  have hlk := BodyLoose.notSynchronized Bd
  have hret := Bd.returns
  have hml : c.maxLocals = 3 := hml0
  have hown : s.vm.findClass "jdk/internal/util/Preconditions" = some m.cls := findClass_of_methodNamed Bd.named
  have hnm := (name_of_methodNamed Bd.named Bd.method).1
  have X0 : Stand p l e ({ frames := 0, cells := 0, slots := 0, locals := 0 } : Room) s m #[(.int ix), (.int nn), (.ref fm)] below meth c s₁ [] 0 0 := Stand.of_body Bd
  have e0 : s₁.heap = h0 := by rw [← hh, Bd.state]; rfl
  have N0 := Fr.nil n0
  refine Goes.st (E := (EN s (QPc Z ix nn h0 n0) ({ frames := 0, cells := 0, slots := 0, locals := 0 } : Room).cells ({ frames := 0, cells := 0, slots := 0, locals := 0 } : Room).slots)) (fun tg kg => castTop (ef_PcR m ix nn fm) kg) ?_
  show Gs p e below _ s₁ m 0 #[iv ix, iv nn, rv fm] []
  refine giloadN X0 hx (hb hby dj41_11_0) rfl ?_
  refine gifNo X0 hx (hb hby dj41_11_1) ((if0 _ _).trans (flt hi1).1) ?_
  refine giloadN X0 hx (hb hby dj41_11_4) rfl ?_
  refine giloadN X0 hx (hb hby dj41_11_5) rfl ?_
  refine gicmpYes X0 hx (pc := 6) (pc' := 16) (hb hby dj41_11_6) (tlt hi2).1 (by decide) (by decide) ?_
  refine giloadN X0 hx (hb hby dj41_11_16) rfl ?_
  refine Goes.retI X0 hx hret (hb hby dj41_11_17) (lvN X0 hlk (vsome hret) ?_ (by decide) (by decide))
  rw [e0]
  exact ⟨rfl, N0, rfl⟩
theorem rmPcV (l : Launch) (Z : State) (a0 : Array Value) (hw : ∀ d ∈ tables_1, d.before a0 Z = true) (ws : List Jvm.Cond) (ix nn : Int32) (fm : Value) (h0 : Heap) (n0 : Nat) (Z0 : n0 ≤ h0.size) (hi1 : ¬ ix < (0 : Int32)) (hi2 : ix < nn) (hfm : fm.isRef = true) :
    MetFree l mN9 (head1 (Jvm.Cond.code mN9 jdk_41_method_11_code 3 (some .int) :: ws) ({ frames := 0, cells := 0, slots := 0, locals := 0 } : Room)) (fun aa U => aa = #[(.int ix), (.int nn), fm] ∧ Z.Warmed39 U.vm ∧ U.heap = h0) (fun _ _ _ _ _ => True) (fun _ u1_ o_ u2_ => ∃ v_ l_, o_ = .returned v_ ∧ QPc Z ix nn h0 n0 v_ u2_.heap l_ ∧ FrameEnd u1_ o_ u2_ l_ ({ frames := 0, cells := 0, slots := 0, locals := 0 } : Room).cells ({ frames := 0, cells := 0, slots := 0, locals := 0 } : Room).slots) := by
  cases fm with
  | null => exact rmPcN l Z a0 hw ws ix nn h0 n0 Z0 hi1 hi2
  | ref a => exact rmPcR l Z a0 hw ws ix nn a h0 n0 Z0 hi1 hi2
  | int _ => cases hfm
  | long _ => cases hfm
  | float _ => cases hfm
  | double _ => cases hfm
  | retAddr _ => cases hfm
theorem dj42_155_0 : decode jdk_42_method_155_code 0 = .ok (.iload_n 0, 1) := by decide +kernel
theorem dj42_155_1 : decode jdk_42_method_155_code 1 = .ok (.iload_n 1, 1) := by decide +kernel
theorem dj42_155_2 : decode jdk_42_method_155_code 2 = .ok (.getstatic 1053, 3) := by decide +kernel
theorem dj42_155_5 : decode jdk_42_method_155_code 5 = .ok (.invokestatic 1059, 3) := by decide +kernel
theorem dj42_155_8 : decode jdk_42_method_155_code 8 = .ok (.pop, 1) := by decide +kernel
theorem dj42_155_9 : decode jdk_42_method_155_code 9 = .ok (.return_, 1) := by decide +kernel
theorem pd__IILjava_util_function_BiFunction__I_3fc2 : parseMethodDescriptor "(IILjava/util/function/BiFunction;)I" = some ⟨[.int, .int, (.object "java/util/function/BiFunction")], some .int⟩ := by decide +kernel
theorem ef_Sx (m : MethodId) (x0 : Int32) (x1 : Int32) : entryFrame m #[(.int x0), (.int x1)] 2 = mkF m 0 #[iv x0, iv x1] [] := by first | (simp [entryFrame, mkF, argsToLocals, Value.category]; done) | rfl
def QSx (Z : State) (ix nn : Int32) (fm : Value) (h0 : Heap) (n0 : Nat) (v : Option Value) (h : Heap) (L : List Loc) : Prop := v = none ∧ Fr n0 L ∧ h = h0
set_option maxRecDepth 65536 in
set_option maxHeartbeats 40000000 in
theorem rmSx (l : Launch) (Z : State) (a0 : Array Value) (hw : ∀ d ∈ tables_1, d.before a0 Z = true) (ws : List Jvm.Cond) (ix nn : Int32) (fm : Value) (h0 : Heap) (n0 : Nat) (Z0 : n0 ≤ h0.size) (Sfm : Sta Z h0 "jdk/internal/util/Preconditions" "SIOOBE_FORMATTER" "Ljava/util/function/BiFunction;" fm) (hfm : fm.isRef = true) (hi1 : ¬ ix < (0 : Int32)) (hi2 : ix < nn) :
    MetFree l mN10 (head1 (Jvm.Cond.code mN10 jdk_42_method_155_code 2 none :: ws) ({ frames := 1, cells := 0, slots := 0, locals := 14 } : Room)) (fun aa U => aa = #[(.int ix), (.int nn)] ∧ Z.Warmed39 U.vm ∧ U.heap = h0) (fun _ _ _ _ _ => True) (fun _ u1_ o_ u2_ => ∃ v_ l_, o_ = .returned v_ ∧ QSx Z ix nn fm h0 n0 v_ u2_.heap l_ ∧ FrameEnd u1_ o_ u2_ l_ ({ frames := 1, cells := 0, slots := 0, locals := 14 } : Room).cells ({ frames := 1, cells := 0, slots := 0, locals := 14 } : Room).slots) := by
  refine MetFree.of_bodySF (plainFor_of_name pn_java_lang_String) hisR ?_
  intro p e s m args below meth c s₁ Bd hml0 hP hK
  obtain ⟨rfl, hZ, hh⟩ := hP
  have hx := Bd.exec
  have hby := Bd.bytes
  have hlk := BodyLoose.notSynchronized Bd
  have hret := Bd.returns
  have hml : c.maxLocals = 2 := hml0
  have hown : s.vm.findClass "java/lang/String" = some m.cls := findClass_of_methodNamed Bd.named
  have hnm := (name_of_methodNamed Bd.named Bd.method).1
  have X0 : Stand p l e ({ frames := 1, cells := 0, slots := 0, locals := 14 } : Room) s m #[(.int ix), (.int nn)] below meth c s₁ [] 0 0 := Stand.of_body Bd
  have e0 : s₁.heap = h0 := by rw [← hh, Bd.state]; rfl
  have N0 := Fr.nil n0
  refine Goes.st (E := (EN s (QSx Z ix nn fm h0 n0) ({ frames := 1, cells := 0, slots := 0, locals := 14 } : Room).cells ({ frames := 1, cells := 0, slots := 0, locals := 14 } : Room).slots)) (fun tg kg => castTop (ef_Sx m ix nn) kg) ?_
  show Gs p e below _ s₁ m 0 #[iv ix, iv nn] []
  refine giloadN X0 hx (hb hby dj42_155_0) rfl ?_
  refine giloadN X0 hx (hb hby dj42_155_1) rfl ?_
  obtain ⟨T1, X1, e1, st1⟩ := getS X0 hx hZ hown (host := "") (hwk hw 102 rfl) Via.refl e0 Sfm (g := (mkF m 2 #[iv ix, iv nn] [(.int nn), (.int ix)])) rfl (hb hby dj42_155_2)
  refine Goes.st st1 ?_
  obtain ⟨_, _, ⟨T2, L2, k2, n2⟩, -, X2, ⟨Lc2, hQ2, l2, y2, z2⟩, st2⟩ := Jvm.LawKit.callS X1 hx (y := mN9) hown (mvT hZ (hwk hw 104 rfl)) (mvT hZ (hwk hw 105 rfl)) (mvT hZ (hwk hw 103 rfl)) (mvT hZ (hwk hw 106 rfl)) (by decide) (backOf (W := 0) (rmPcV l Z a0 hw [] ix nn fm h0 n0 Z0 hi1 hi2 hfm) hZ (hwk hw 106 rfl) (hwk hw 103 rfl) (by decide) (by decide)) (g := (mkF m 5 #[iv ix, iv nn] [fm, (.int nn), (.int ix)])) rfl (by rw [hml]; rfl) (argsL := [(.int ix), (.int nn), fm]) (rest := []) (lenOf pd__IILjava_util_function_BiFunction__I_3fc2 rfl) rfl (by show 2 * 0 + _ ≤ _; exact Nat.le_of_eq rfl) (hb hby dj42_155_5) (fun _ _ => ⟨rfl, e1, (by decide : 0 + 0 ≤ 0), (by decide : 0 + 0 ≤ 0)⟩)
  dsimp only [Pt.U, Pt.locs, Pt.cells, Pt.slots] at X2 l2 y2 z2 st2 hQ2
  subst l2 y2 z2
  obtain ⟨rfl, N2q, eh2⟩ := hQ2
  have N2 := Fr.app N0 N2q
  refine Goes.st st2 ?_
  show Gs p e below _ T2 m 8 #[iv ix, iv nn] [(.int ix)]
  refine Goes.st (fun tg kg => XT.pop X2.here hx rfl (hb hby dj42_155_8) rfl rfl kg) ?_
  show Gs p e below _ T2 m 9 #[iv ix, iv nn] []
  refine Goes.retV X2 hx hret (hb hby dj42_155_9) (lvN X2 hlk (fun _ => rfl) ?_ (by decide) (by decide))
  rw [eh2]
  exact ⟨rfl, N2, rfl⟩
theorem dj43_2_0 : decode jdk_43_method_2_code 0 = .ok (.iload_n 1, 1) := by decide +kernel
theorem dj43_2_1 : decode jdk_43_method_2_code 1 = .ok (.aload_n 0, 1) := by decide +kernel
theorem dj43_2_2 : decode jdk_43_method_2_code 2 = .ok (.arraylength, 1) := by decide +kernel
theorem dj43_2_3 : decode jdk_43_method_2_code 3 = .ok (.invokestatic 9, 3) := by decide +kernel
theorem dj43_2_6 : decode jdk_43_method_2_code 6 = .ok (.aload_n 0, 1) := by decide +kernel
theorem dj43_2_7 : decode jdk_43_method_2_code 7 = .ok (.iload_n 1, 1) := by decide +kernel
theorem dj43_2_8 : decode jdk_43_method_2_code 8 = .ok (.baload, 1) := by decide +kernel
theorem dj43_2_9 : decode jdk_43_method_2_code 9 = .ok (.sipush 255, 3) := by decide +kernel
theorem dj43_2_12 : decode jdk_43_method_2_code 12 = .ok (.iand, 1) := by decide +kernel
theorem dj43_2_13 : decode jdk_43_method_2_code 13 = .ok (.i2c, 1) := by decide +kernel
theorem dj43_2_14 : decode jdk_43_method_2_code 14 = .ok (.ireturn, 1) := by decide +kernel
theorem pn_java_lang_StringLatin1 : plainName "java/lang/StringLatin1" = true := by first | (simp [plainName, overriddenIn]; done) | decide +kernel
theorem pd__II_V_b3d : parseMethodDescriptor "(II)V" = some ⟨[.int, .int], none⟩ := by decide +kernel
theorem ef_Lc (m : MethodId) (x0 : Addr) (x1 : Int32) : entryFrame m #[(.ref x0), (.int x1)] 2 = mkF m 0 #[rv x0, iv x1] [] := by first | (simp [entryFrame, mkF, argsToLocals, Value.category]; done) | rfl
def QLc (Z : State) (bb : Addr) (kb : ClassId) (ch : Int32) (fm : Value) (h0 : Heap) (n0 : Nat) (v : Option Value) (h : Heap) (L : List Loc) : Prop := v = some (.int (cCh ch)) ∧ Fr n0 L ∧ h = h0
set_option maxRecDepth 65536 in
set_option maxHeartbeats 40000000 in
theorem rmLc (l : Launch) (Z : State) (a0 : Array Value) (hw : ∀ d ∈ tables_1, d.before a0 Z = true) (ws : List Jvm.Cond) (bb : Addr) (kb : ClassId) (ch : Int32) (fm : Value) (h0 : Heap) (n0 : Nat) (Z0 : n0 ≤ h0.size) (Sfm : Sta Z h0 "jdk/internal/util/Preconditions" "SIOOBE_FORMATTER" "Ljava/util/function/BiFunction;" fm) (hfm : fm.isRef = true) (Ab : Arv Z h0 bb kb .byte (1 : Int32) [(.int ch)] (.int (0 : Int32))) :
    MetFree l mN11 (head1 (Jvm.Cond.code mN11 jdk_43_method_2_code 2 (some .char) :: ws) ({ frames := 2, cells := 0, slots := 0, locals := 27 } : Room)) (fun aa U => aa = #[(.ref bb), (.int (0 : Int32))] ∧ Z.Warmed39 U.vm ∧ U.heap = h0) (fun _ _ _ _ _ => True) (fun _ u1_ o_ u2_ => ∃ v_ l_, o_ = .returned v_ ∧ QLc Z bb kb ch fm h0 n0 v_ u2_.heap l_ ∧ FrameEnd u1_ o_ u2_ l_ ({ frames := 2, cells := 0, slots := 0, locals := 27 } : Room).cells ({ frames := 2, cells := 0, slots := 0, locals := 27 } : Room).slots) := by
  refine MetFree.of_bodySF (plainFor_of_name pn_java_lang_StringLatin1) hisR ?_
  intro p e s m args below meth c s₁ Bd hml0 hP hK
  obtain ⟨rfl, hZ, hh⟩ := hP
  have hx := Bd.exec
  have hby := Bd.bytes
  have hlk := BodyLoose.notSynchronized Bd
  have hret := Bd.returns
  have hml : c.maxLocals = 2 := hml0
  have hown : s.vm.findClass "java/lang/StringLatin1" = some m.cls := findClass_of_methodNamed Bd.named
  have hnm := (name_of_methodNamed Bd.named Bd.method).1
  have X0 : Stand p l e ({ frames := 2, cells := 0, slots := 0, locals := 27 } : Room) s m #[(.ref bb), (.int (0 : Int32))] below meth c s₁ [] 0 0 := Stand.of_body Bd
  have e0 : s₁.heap = h0 := by rw [← hh, Bd.state]; rfl
  have N0 := Fr.nil n0
  refine Goes.st (E := (EN s (QLc Z bb kb ch fm h0 n0) ({ frames := 2, cells := 0, slots := 0, locals := 27 } : Room).cells ({ frames := 2, cells := 0, slots := 0, locals := 27 } : Room).slots)) (fun tg kg => castTop (ef_Lc m bb (0 : Int32)) kg) ?_
  show Gs p e below _ s₁ m 0 #[rv bb, iv (0 : Int32)] []
  refine giloadN X0 hx (hb hby dj43_2_0) rfl ?_
  refine galoadN X0 hx (hb hby dj43_2_1) rfl rfl ?_
  obtain ⟨cl1, Ar1, qk1, Sz1, qz1, Ha1, Gf1⟩ := id Ab
  refine Goes.st (fun tg kg => X0.arraylength hx (cell := cl1) (by rw [e0]; exact Ar1.1) (State.isArrayOf_alike hZ.alike Ar1.2.1) (g := (mkF m 2 #[rv bb, iv (0 : Int32)] [(.ref bb), (.int (0 : Int32))])) rfl (rest := [(.int (0 : Int32))]) rfl (hb hby dj43_2_2) tg kg) ?_
  rw [len_of Sz1 qz1]
  show Gs p e below _ s₁ m 3 #[rv bb, iv (0 : Int32)] [(.int (1 : Int32)), (.int (0 : Int32))]
  obtain ⟨_, _, ⟨T2, L2, k2, n2⟩, -, X2, ⟨Lc2, hQ2, l2, y2, z2⟩, st2⟩ := Jvm.LawKit.callS X0 hx (y := mN10) hown (mvT hZ (hwk hw 99 rfl)) (mvT hZ (hwk hw 100 rfl)) (mvT hZ (hwk hw 39 rfl)) (mvT hZ (hwk hw 101 rfl)) (by decide) (backOf (W := 0) (rmSx l Z a0 hw [] (0 : Int32) (1 : Int32) fm h0 n0 Z0 Sfm hfm (by decide) (by decide)) hZ (hwk hw 101 rfl) (hwk hw 39 rfl) (by decide) (by decide)) (g := (mkF m 3 #[rv bb, iv (0 : Int32)] [(.int (1 : Int32)), (.int (0 : Int32))])) rfl (by rw [hml]; rfl) (argsL := [(.int (0 : Int32)), (.int (1 : Int32))]) (rest := []) (lenOf pd__II_V_b3d rfl) rfl (by show 2 * 0 + _ ≤ _; exact Nat.le_of_eq rfl) (hb hby dj43_2_3) (fun _ _ => ⟨rfl, e0, (by decide : 0 + 0 ≤ 0), (by decide : 0 + 0 ≤ 0)⟩)
  dsimp only [Pt.U, Pt.locs, Pt.cells, Pt.slots] at X2 l2 y2 z2 st2 hQ2
  subst l2 y2 z2
  obtain ⟨rfl, N2q, eh2⟩ := hQ2
  have N2 := Fr.app N0 N2q
  refine Goes.st st2 ?_
  show Gs p e below _ T2 m 6 #[rv bb, iv (0 : Int32)] []
  refine galoadN X2 hx (hb hby dj43_2_6) rfl rfl ?_
  refine giloadN X2 hx (hb hby dj43_2_7) rfl ?_
  show Gs p e below _ T2 m 8 #[rv bb, iv (0 : Int32)] [(.int (0 : Int32)), (.ref bb)]
  obtain ⟨cl3, Ar3, qk3, Sz3, qz3, Ha3, Gf3⟩ := id Ab
  have in3 := inb_of (j := (0 : Int32)) Sz3 ⟨by decide, by decide⟩
  refine Goes.st (fun tg kg => X2.baloadBytes hx (j := (0 : Int32)) (v := (.int ch)) (by rw [eh2]; exact Ar3.1) (State.isArrayOf_alike hZ.alike Ar3.2.1) Ar3.2.2 in3 (Ha3.at in3 rfl) (g := (mkF m 8 #[rv bb, iv (0 : Int32)] [(.int (0 : Int32)), (.ref bb)])) rfl rfl (hb hby dj43_2_8) tg kg) ?_
  show Gs p e below _ T2 m 9 #[rv bb, iv (0 : Int32)] [(.int ch)]
  refine Goes.st (fun tg kg => XS.sipush X2.here hx rfl (hb hby dj43_2_9) kg) ?_
  refine giand X2 hx (hb hby dj43_2_12) trivial ?_
  show Gs p e below _ T2 m 13 #[rv bb, iv (0 : Int32)] [(.int (ch &&& (255 : Int32)))]
  refine Goes.st (fun tg kg => XT.i2c X2.here hx rfl (hb hby dj43_2_13) rfl kg) ?_
  show Gs p e below _ T2 m 14 #[rv bb, iv (0 : Int32)] [(.int ((ch &&& (255 : Int32))).toUInt32.toUInt16.toUInt32.toInt32)]
  refine Goes.retN X2 hx hret (by simp) (hb hby dj43_2_14) (own_idem _) (lvN X2 hlk (vsome hret) ?_ (by decide) (by decide))
  rw [eh2]
  exact ⟨rfl, N2, rfl⟩
theorem dj42_56_0 : decode jdk_42_method_56_code 0 = .ok (.aload_n 0, 1) := by decide +kernel
theorem dj42_56_1 : decode jdk_42_method_56_code 1 = .ok (.invokevirtual 492, 3) := by decide +kernel
theorem dj42_56_4 : decode jdk_42_method_56_code 4 = .ok (.ifCond .eq 12, 3) := by decide +kernel
theorem dj42_56_7 : decode jdk_42_method_56_code 7 = .ok (.aload_n 0, 1) := by decide +kernel
theorem dj42_56_8 : decode jdk_42_method_56_code 8 = .ok (.getfield 9, 3) := by decide +kernel
theorem dj42_56_11 : decode jdk_42_method_56_code 11 = .ok (.iload_n 1, 1) := by decide +kernel
theorem dj42_56_12 : decode jdk_42_method_56_code 12 = .ok (.invokestatic 495, 3) := by decide +kernel
theorem dj42_56_15 : decode jdk_42_method_56_code 15 = .ok (.ireturn, 1) := by decide +kernel
theorem pd___Z_58a : parseMethodDescriptor "()Z" = some ⟨[], some .boolean⟩ := by decide +kernel
theorem pd___BI_C_e03 : parseMethodDescriptor "([BI)C" = some ⟨[(.array .byte), .int], some .char⟩ := by decide +kernel
theorem ef_Ca (m : MethodId) (x0 : Addr) (x1 : Int32) : entryFrame m #[(.ref x0), (.int x1)] 2 = mkF m 0 #[rv x0, iv x1] [] := by first | (simp [entryFrame, mkF, argsToLocals, Value.category]; done) | rfl
def QCa (Z : State) (rb bb : Addr) (kb : ClassId) (ch : Int32) (cs : Int32) (fm : Value) (h0 : Heap) (n0 : Nat) (v : Option Value) (h : Heap) (L : List Loc) : Prop := v = some (.int (cCh ch)) ∧ Fr n0 L ∧ h = h0
set_option maxRecDepth 65536 in
set_option maxHeartbeats 40000000 in
theorem rmCa (l : Launch) (Z : State) (a0 : Array Value) (hw : ∀ d ∈ tables_1, d.before a0 Z = true) (ws : List Jvm.Cond) (rb bb : Addr) (kb : ClassId) (ch : Int32) (cs : Int32) (fm : Value) (h0 : Heap) (n0 : Nat) (Z0 : n0 ≤ h0.size) (Scs : Sta Z h0 "java/lang/String" "COMPACT_STRINGS" "Z" (.int cs)) (hcs : ¬ cs = (0 : Int32)) (Eb : Exa Z h0 rb "java/lang/String") (Vb : Fld Z h0 rb "java/lang/String" "value" "[B" (.ref bb)) (Cb : Fld Z h0 rb "java/lang/String" "coder" "B" (.int (0 : Int32))) (Ab : Arv Z h0 bb kb .byte (1 : Int32) [(.int ch)] (.int (0 : Int32))) (Sfm : Sta Z h0 "jdk/internal/util/Preconditions" "SIOOBE_FORMATTER" "Ljava/util/function/BiFunction;" fm) (hfm : fm.isRef = true) :
    MetFree l mN12 (head1 (Jvm.Cond.code mN12 jdk_42_method_56_code 2 (some .char) :: ws) ({ frames := 3, cells := 0, slots := 0, locals := 40 } : Room)) (fun aa U => aa = #[(.ref rb), (.int (0 : Int32))] ∧ Z.Warmed39 U.vm ∧ U.heap = h0) (fun _ _ _ _ _ => True) (fun _ u1_ o_ u2_ => ∃ v_ l_, o_ = .returned v_ ∧ QCa Z rb bb kb ch cs fm h0 n0 v_ u2_.heap l_ ∧ FrameEnd u1_ o_ u2_ l_ ({ frames := 3, cells := 0, slots := 0, locals := 40 } : Room).cells ({ frames := 3, cells := 0, slots := 0, locals := 40 } : Room).slots) := by
  refine MetFree.of_bodySF (plainFor_of_name pn_java_lang_String) hisR ?_
  intro p e s m args below meth c s₁ Bd hml0 hP hK
  obtain ⟨rfl, hZ, hh⟩ := hP
  have hx := Bd.exec
  have hby := Bd.bytes
  have hlk := BodyLoose.notSynchronized Bd
  have hret := Bd.returns
  have hml : c.maxLocals = 2 := hml0
  have hown : s.vm.findClass "java/lang/String" = some m.cls := findClass_of_methodNamed Bd.named
  have hnm := (name_of_methodNamed Bd.named Bd.method).1
  have X0 : Stand p l e ({ frames := 3, cells := 0, slots := 0, locals := 40 } : Room) s m #[(.ref rb), (.int (0 : Int32))] below meth c s₁ [] 0 0 := Stand.of_body Bd
  have e0 : s₁.heap = h0 := by rw [← hh, Bd.state]; rfl
  have N0 := Fr.nil n0
  refine Goes.st (E := (EN s (QCa Z rb bb kb ch cs fm h0 n0) ({ frames := 3, cells := 0, slots := 0, locals := 40 } : Room).cells ({ frames := 3, cells := 0, slots := 0, locals := 40 } : Room).slots)) (fun tg kg => castTop (ef_Ca m rb (0 : Int32)) kg) ?_
  show Gs p e below _ s₁ m 0 #[rv rb, iv (0 : Int32)] []
  refine galoadN X0 hx (hb hby dj42_56_0) rfl rfl ?_
  obtain ⟨cq1, kq1, qa1, qb1, qc1⟩ := isOf hZ e0 Eb
  obtain ⟨_, _, ⟨T1, L1, k1, n1⟩, -, X1, ⟨Lc1, hQ1, l1, y1, z1⟩, st1⟩ := X0.virtualBack hx (y := mN8) (z := mN8) hown (mvT hZ (hwk hw 90 rfl)) (mvT hZ (hwk hw 91 rfl)) (notFace_of_selects (args := #[]) (mvT hZ (hwk hw 93 rfl))) (mvT hZ (hwk hw 93 rfl)) (mvT hZ (hwk hw 92 rfl)) (by decide) (backOf (W := 0) (rmIl l Z a0 hw [] rb bb kb ch cs h0 n0 Z0 Scs hcs Vb Cb Ab) hZ (hwk hw 94 rfl) (hwk hw 39 rfl) (by decide) (by decide)) qa1 qc1 (g := (mkF m 1 #[rv rb, iv (0 : Int32)] [(.ref rb)])) rfl (by rw [hml]; rfl) (Steps.refl _) (argsL := []) (rest := []) (lenOf pd___Z_58a rfl) rfl (by show 2 * 0 + _ ≤ _; exact Nat.le_of_eq rfl) (hb hby dj42_56_1) (fun _ _ => ⟨rfl, e0, (by decide : 0 + 0 ≤ 0), (by decide : 0 + 0 ≤ 0)⟩)
  dsimp only [Pt.U, Pt.locs, Pt.cells, Pt.slots] at X1 l1 y1 z1 st1 hQ1
  subst l1 y1 z1
  obtain ⟨rfl, N1q, eh1⟩ := hQ1
  have N1 := Fr.app N0 N1q
  refine Goes.sts st1 ?_
  show Gs p e below _ T1 m 4 #[rv rb, iv (0 : Int32)] [(.int (1 : Int32))]
  refine gifNo X1 hx (hb hby dj42_56_4) (by decide) ?_
  refine galoadN X1 hx (hb hby dj42_56_7) rfl rfl ?_
  obtain ⟨T2, X2, e2, st2⟩ := getF X1 hx hZ hown (host := "") (Or.inl (hwk hw 68 rfl)) Via.refl eh1 Vb (g := (mkF m 8 #[rv rb, iv (0 : Int32)] [(.ref rb)])) rfl rfl (hb hby dj42_56_8)
  refine Goes.st st2 ?_
  refine giloadN X2 hx (hb hby dj42_56_11) rfl ?_
  obtain ⟨_, _, ⟨T3, L3, k3, n3⟩, -, X3, ⟨Lc3, hQ3, l3, y3, z3⟩, st3⟩ := Jvm.LawKit.callS X2 hx (y := mN11) hown (mvT hZ (hwk hw 95 rfl)) (mvT hZ (hwk hw 96 rfl)) (mvT hZ (hwk hw 97 rfl)) (mvT hZ (hwk hw 98 rfl)) (by decide) (backOf (W := 0) (rmLc l Z a0 hw [] bb kb ch fm h0 n0 Z0 Sfm hfm Ab) hZ (hwk hw 98 rfl) (hwk hw 97 rfl) (by decide) (by decide)) (g := (mkF m 12 #[rv rb, iv (0 : Int32)] [(.int (0 : Int32)), (.ref bb)])) rfl (by rw [hml]; rfl) (argsL := [(.ref bb), (.int (0 : Int32))]) (rest := []) (lenOf pd___BI_C_e03 rfl) rfl (by show 2 * 0 + _ ≤ _; exact Nat.le_of_eq rfl) (hb hby dj42_56_12) (fun _ _ => ⟨rfl, e2, (by decide : 0 + 0 ≤ 0), (by decide : 0 + 0 ≤ 0)⟩)
  dsimp only [Pt.U, Pt.locs, Pt.cells, Pt.slots] at X3 l3 y3 z3 st3 hQ3
  subst l3 y3 z3
  obtain ⟨rfl, N3q, eh3⟩ := hQ3
  have N3 := Fr.app N1 N3q
  refine Goes.st st3 ?_
  show Gs p e below _ T3 m 15 #[rv rb, iv (0 : Int32)] [(.int (cCh ch))]
  refine Goes.retN X3 hx hret (by simp) (hb hby dj42_56_15) (own_idem _) (lvN X3 hlk (vsome hret) ?_ (by decide) (by decide))
  rw [eh3]
  exact ⟨rfl, N3, rfl⟩
theorem dp39_2_0 : decode prog_39_method_2_code 0 = .ok (.iconst 0, 1) := by decide +kernel
theorem dp39_2_1 : decode prog_39_method_2_code 1 = .ok (.istore_n 1, 1) := by decide +kernel
theorem dp39_2_2 : decode prog_39_method_2_code 2 = .ok (.iload_n 1, 1) := by decide +kernel
theorem dp39_2_3 : decode prog_39_method_2_code 3 = .ok (.aload_n 0, 1) := by decide +kernel
theorem dp39_2_4 : decode prog_39_method_2_code 4 = .ok (.invokevirtual 7, 3) := by decide +kernel
theorem dp39_2_7 : decode prog_39_method_2_code 7 = .ok (.if_icmp .ge 41, 3) := by decide +kernel
theorem dp39_2_10 : decode prog_39_method_2_code 10 = .ok (.aload_n 0, 1) := by decide +kernel
theorem dp39_2_11 : decode prog_39_method_2_code 11 = .ok (.iload_n 1, 1) := by decide +kernel
theorem dp39_2_12 : decode prog_39_method_2_code 12 = .ok (.invokevirtual 13, 3) := by decide +kernel
theorem dp39_2_15 : decode prog_39_method_2_code 15 = .ok (.istore_n 2, 1) := by decide +kernel
theorem dp39_2_16 : decode prog_39_method_2_code 16 = .ok (.iload_n 2, 1) := by decide +kernel
theorem dp39_2_17 : decode prog_39_method_2_code 17 = .ok (.bipush 44, 2) := by decide +kernel
theorem dp39_2_19 : decode prog_39_method_2_code 19 = .ok (.if_icmp .eq 21, 3) := by decide +kernel
theorem dp39_2_22 : decode prog_39_method_2_code 22 = .ok (.iload_n 2, 1) := by decide +kernel
theorem dp39_2_23 : decode prog_39_method_2_code 23 = .ok (.bipush 34, 2) := by decide +kernel
theorem dp39_2_25 : decode prog_39_method_2_code 25 = .ok (.if_icmp .eq 15, 3) := by decide +kernel
theorem dp39_2_28 : decode prog_39_method_2_code 28 = .ok (.iload_n 2, 1) := by decide +kernel
theorem dp39_2_29 : decode prog_39_method_2_code 29 = .ok (.bipush 10, 2) := by decide +kernel
theorem dp39_2_31 : decode prog_39_method_2_code 31 = .ok (.if_icmp .eq 9, 3) := by decide +kernel
theorem dp39_2_34 : decode prog_39_method_2_code 34 = .ok (.iload_n 2, 1) := by decide +kernel
theorem dp39_2_35 : decode prog_39_method_2_code 35 = .ok (.bipush 13, 2) := by decide +kernel
theorem dp39_2_37 : decode prog_39_method_2_code 37 = .ok (.if_icmp .ne 5, 3) := by decide +kernel
theorem dp39_2_42 : decode prog_39_method_2_code 42 = .ok (.iinc 1 1, 3) := by decide +kernel
theorem dp39_2_45 : decode prog_39_method_2_code 45 = .ok (.goto (-43), 3) := by decide +kernel
theorem dp39_2_48 : decode prog_39_method_2_code 48 = .ok (.iconst 1, 1) := by decide +kernel
theorem dp39_2_49 : decode prog_39_method_2_code 49 = .ok (.ireturn, 1) := by decide +kernel
theorem pn_com_example_redoubt_redoubt_engine_Names : plainName "com/example/redoubt/redoubt/engine/Names" = true := by first | (simp [plainName, overriddenIn]; done) | decide +kernel
theorem pd___I_4f1 : parseMethodDescriptor "()I" = some ⟨[], some .int⟩ := by decide +kernel
theorem pd__I_C_76f : parseMethodDescriptor "(I)C" = some ⟨[.int], some .char⟩ := by decide +kernel
theorem ef_Fi (m : MethodId) (x0 : Addr) : entryFrame m #[(.ref x0)] 3 = mkF m 0 #[rv x0, .unset, .unset] [] := by first | (simp [entryFrame, mkF, argsToLocals, Value.category]; done) | rfl
def QFi (Z : State) (rb bb : Addr) (kb : ClassId) (ch : Int32) (cs : Int32) (fm : Value) (h0 : Heap) (n0 : Nat) (v : Option Value) (h : Heap) (L : List Loc) : Prop := v = some (.int (1 : Int32)) ∧ Fr n0 L ∧ h = h0
set_option maxRecDepth 65536 in
set_option maxHeartbeats 40000000 in
theorem rmFi (l : Launch) (Z : State) (a0 : Array Value) (hw : ∀ d ∈ tables_1, d.before a0 Z = true) (ws : List Jvm.Cond) (rb bb : Addr) (kb : ClassId) (ch : Int32) (cs : Int32) (fm : Value) (h0 : Heap) (n0 : Nat) (Z0 : n0 ≤ h0.size) (Scs : Sta Z h0 "java/lang/String" "COMPACT_STRINGS" "Z" (.int cs)) (hcs : ¬ cs = (0 : Int32)) (Eb : Exa Z h0 rb "java/lang/String") (Vb : Fld Z h0 rb "java/lang/String" "value" "[B" (.ref bb)) (Cb : Fld Z h0 rb "java/lang/String" "coder" "B" (.int (0 : Int32))) (Ab : Arv Z h0 bb kb .byte (1 : Int32) [(.int ch)] (.int (0 : Int32))) (Sfm : Sta Z h0 "jdk/internal/util/Preconditions" "SIOOBE_FORMATTER" "Ljava/util/function/BiFunction;" fm) (hfm : fm.isRef = true) (hc0 : ¬ cCh ch = (44 : Int32)) (hc1 : ¬ cCh ch = (34 : Int32)) (hc2 : ¬ cCh ch = (10 : Int32)) (hc3 : ¬ cCh ch = (13 : Int32)) :
    MetFree l mN13 (head1 (Jvm.Cond.code mN13 prog_39_method_2_code 3 (some .boolean) :: ws) ({ frames := 4, cells := 0, slots := 0, locals := 53 } : Room)) (fun aa U => aa = #[(.ref rb)] ∧ Z.Warmed39 U.vm ∧ U.heap = h0) (fun _ _ _ _ _ => True) (fun _ u1_ o_ u2_ => ∃ v_ l_, o_ = .returned v_ ∧ QFi Z rb bb kb ch cs fm h0 n0 v_ u2_.heap l_ ∧ FrameEnd u1_ o_ u2_ l_ ({ frames := 4, cells := 0, slots := 0, locals := 53 } : Room).cells ({ frames := 4, cells := 0, slots := 0, locals := 53 } : Room).slots) := by
  refine MetFree.of_bodySF (plainFor_of_name pn_com_example_redoubt_redoubt_engine_Names) hisR ?_
  intro p e s m args below meth c s₁ Bd hml0 hP hK
  obtain ⟨rfl, hZ, hh⟩ := hP
  have hx := Bd.exec
  have hby := Bd.bytes
  have hlk := BodyLoose.notSynchronized Bd
  have hret := Bd.returns
  have hml : c.maxLocals = 3 := hml0
  have hown : s.vm.findClass "com/example/redoubt/redoubt/engine/Names" = some m.cls := findClass_of_methodNamed Bd.named
  have hnm := (name_of_methodNamed Bd.named Bd.method).1
  have X0 : Stand p l e ({ frames := 4, cells := 0, slots := 0, locals := 53 } : Room) s m #[(.ref rb)] below meth c s₁ [] 0 0 := Stand.of_body Bd
  have e0 : s₁.heap = h0 := by rw [← hh, Bd.state]; rfl
  have N0 := Fr.nil n0
  refine Goes.st (E := (EN s (QFi Z rb bb kb ch cs fm h0 n0) ({ frames := 4, cells := 0, slots := 0, locals := 53 } : Room).cells ({ frames := 4, cells := 0, slots := 0, locals := 53 } : Room).slots)) (fun tg kg => castTop (ef_Fi m rb) kg) ?_
  show Gs p e below _ s₁ m 0 #[rv rb, .unset, .unset] []
  refine giconst X0 hx (hb hby dp39_2_0) ?_
  refine gistoreN X0 hx (hb hby dp39_2_1) trivial (l' := #[rv rb, iv (0 : Int32), .unset]) rfl ?_
  refine giloadN X0 hx (hb hby dp39_2_2) rfl ?_
  refine galoadN X0 hx (hb hby dp39_2_3) rfl rfl ?_
  obtain ⟨cq1, kq1, qa1, qb1, qc1⟩ := isOf hZ e0 Eb
  obtain ⟨_, _, ⟨T1, L1, k1, n1⟩, -, X1, ⟨Lc1, hQ1, l1, y1, z1⟩, st1⟩ := X0.virtualBack hx (y := mN7) (z := mN7) hown (mvT hZ (hwk hw 73 rfl)) (mvT hZ (hwk hw 74 rfl)) (notFace_of_selects (args := #[]) (mvT hZ (hwk hw 76 rfl))) (mvT hZ (hwk hw 76 rfl)) (mvT hZ (hwk hw 75 rfl)) (by decide) (backOf (W := 1) (rmLe l Z a0 hw [] rb bb kb ch cs h0 n0 Z0 Scs hcs Eb Vb Cb Ab) hZ (hwk hw 77 rfl) (hwk hw 39 rfl) (by decide) (by decide)) qa1 qc1 (g := (mkF m 4 #[rv rb, iv (0 : Int32), .unset] [(.ref rb), (.int (0 : Int32))])) rfl (by rw [hml]; rfl) (Steps.refl _) (argsL := []) (rest := [(.int (0 : Int32))]) (lenOf pd___I_4f1 rfl) rfl (by show 2 * 0 + _ ≤ _; exact Nat.le_of_eq rfl) (hb hby dp39_2_4) (fun _ _ => ⟨rfl, e0, (by decide : 0 + 0 ≤ 0), (by decide : 0 + 0 ≤ 0)⟩)
  dsimp only [Pt.U, Pt.locs, Pt.cells, Pt.slots] at X1 l1 y1 z1 st1 hQ1
  subst l1 y1 z1
  obtain ⟨rfl, N1q, eh1⟩ := hQ1
  have N1 := Fr.app N0 N1q
  refine Goes.sts st1 ?_
  show Gs p e below _ T1 m 7 #[rv rb, iv (0 : Int32), .unset] [(.int (1 : Int32)), (.int (0 : Int32))]
  refine gicmpNo X1 hx (hb hby dp39_2_7) (by decide) ?_
  refine galoadN X1 hx (hb hby dp39_2_10) rfl rfl ?_
  refine giloadN X1 hx (hb hby dp39_2_11) rfl ?_
  obtain ⟨cq2, kq2, qa2, qb2, qc2⟩ := isOf hZ eh1 Eb
  obtain ⟨_, _, ⟨T2, L2, k2, n2⟩, -, X2, ⟨Lc2, hQ2, l2, y2, z2⟩, st2⟩ := X1.virtualBack hx (y := mN12) (z := mN12) hown (mvT hZ (hwk hw 85 rfl)) (mvT hZ (hwk hw 86 rfl)) (notFace_of_selects (args := #[]) (mvT hZ (hwk hw 88 rfl))) (mvT hZ (hwk hw 88 rfl)) (mvT hZ (hwk hw 87 rfl)) (by decide) (backOf (W := 0) (rmCa l Z a0 hw [] rb bb kb ch cs fm h0 n0 Z0 Scs hcs Eb Vb Cb Ab Sfm hfm) hZ (hwk hw 89 rfl) (hwk hw 39 rfl) (by decide) (by decide)) qa2 qc2 (g := (mkF m 12 #[rv rb, iv (0 : Int32), .unset] [(.int (0 : Int32)), (.ref rb)])) rfl (by rw [hml]; rfl) (Steps.refl _) (argsL := [(.int (0 : Int32))]) (rest := []) (lenOf pd__I_C_76f rfl) rfl (by show 2 * 0 + _ ≤ _; exact Nat.le_of_eq rfl) (hb hby dp39_2_12) (fun _ _ => ⟨rfl, eh1, (by decide : 0 + 0 ≤ 0), (by decide : 0 + 0 ≤ 0)⟩)
  dsimp only [Pt.U, Pt.locs, Pt.cells, Pt.slots] at X2 l2 y2 z2 st2 hQ2
  subst l2 y2 z2
  obtain ⟨rfl, N2q, eh2⟩ := hQ2
  have N2 := Fr.app N1 N2q
  refine Goes.sts st2 ?_
  show Gs p e below _ T2 m 15 #[rv rb, iv (0 : Int32), .unset] [(.int (cCh ch))]
  refine gistoreN X2 hx (hb hby dp39_2_15) trivial (l' := #[rv rb, iv (0 : Int32), iv (cCh ch)]) rfl ?_
  refine giloadN X2 hx (hb hby dp39_2_16) rfl ?_
  refine Goes.st (fun tg kg => XS.bipush X2.here hx rfl (hb hby dp39_2_17) kg) ?_
  refine gicmpNo X2 hx (hb hby dp39_2_19) (feq hc0).1 ?_
  refine giloadN X2 hx (hb hby dp39_2_22) rfl ?_
  refine Goes.st (fun tg kg => XS.bipush X2.here hx rfl (hb hby dp39_2_23) kg) ?_
  refine gicmpNo X2 hx (hb hby dp39_2_25) (feq hc1).1 ?_
  refine giloadN X2 hx (hb hby dp39_2_28) rfl ?_
  refine Goes.st (fun tg kg => XS.bipush X2.here hx rfl (hb hby dp39_2_29) kg) ?_
  show Gs p e below _ T2 m 31 #[rv rb, iv (0 : Int32), iv (cCh ch)] [(.int (10 : Int32)), (.int (cCh ch))]
  refine gicmpNo X2 hx (hb hby dp39_2_31) (feq hc2).1 ?_
  refine giloadN X2 hx (hb hby dp39_2_34) rfl ?_
  refine Goes.st (fun tg kg => XS.bipush X2.here hx rfl (hb hby dp39_2_35) kg) ?_
  refine gicmpYes X2 hx (pc := 37) (pc' := 42) (hb hby dp39_2_37) (feq hc3).2 (by decide) (by decide) ?_
  refine Goes.st (fun tg kg => XS.iinc X2.here hx rfl (hb hby dp39_2_42) rfl (l' := #[rv rb, iv (1 : Int32), iv (cCh ch)]) rfl kg) ?_
  refine ggoto X2 hx (pc := 45) (pc' := 2) (hb hby dp39_2_45) (by decide) (by decide) ?_
  refine giloadN X2 hx (hb hby dp39_2_2) rfl ?_
  refine galoadN X2 hx (hb hby dp39_2_3) rfl rfl ?_
  obtain ⟨cq3, kq3, qa3, qb3, qc3⟩ := isOf hZ eh2 Eb
  obtain ⟨_, _, ⟨T3, L3, k3, n3⟩, -, X3, ⟨Lc3, hQ3, l3, y3, z3⟩, st3⟩ := X2.virtualBack hx (y := mN7) (z := mN7) hown (mvT hZ (hwk hw 73 rfl)) (mvT hZ (hwk hw 74 rfl)) (notFace_of_selects (args := #[]) (mvT hZ (hwk hw 76 rfl))) (mvT hZ (hwk hw 76 rfl)) (mvT hZ (hwk hw 75 rfl)) (by decide) (backOf (W := 1) (rmLe l Z a0 hw [] rb bb kb ch cs h0 n0 Z0 Scs hcs Eb Vb Cb Ab) hZ (hwk hw 77 rfl) (hwk hw 39 rfl) (by decide) (by decide)) qa3 qc3 (g := (mkF m 4 #[rv rb, iv (1 : Int32), iv (cCh ch)] [(.ref rb), (.int (1 : Int32))])) rfl (by rw [hml]; rfl) (Steps.refl _) (argsL := []) (rest := [(.int (1 : Int32))]) (lenOf pd___I_4f1 rfl) rfl (by show 2 * 0 + _ ≤ _; exact Nat.le_of_eq rfl) (hb hby dp39_2_4) (fun _ _ => ⟨rfl, eh2, (by decide : 0 + 0 ≤ 0), (by decide : 0 + 0 ≤ 0)⟩)
  dsimp only [Pt.U, Pt.locs, Pt.cells, Pt.slots] at X3 l3 y3 z3 st3 hQ3
  subst l3 y3 z3
  obtain ⟨rfl, N3q, eh3⟩ := hQ3
  have N3 := Fr.app N2 N3q
  refine Goes.sts st3 ?_
  show Gs p e below _ T3 m 7 #[rv rb, iv (1 : Int32), iv (cCh ch)] [(.int (1 : Int32)), (.int (1 : Int32))]
  refine gicmpYes X3 hx (pc := 7) (pc' := 48) (hb hby dp39_2_7) (by decide) (by decide) (by decide) ?_
  refine giconst X3 hx (hb hby dp39_2_48) ?_
  refine Goes.retN X3 hx hret (by simp) (hb hby dp39_2_49) (by decide) (lvN X3 hlk (vsome hret) ?_ (by decide) (by decide))
  rw [eh3]
  exact ⟨rfl, N3, rfl⟩
theorem dj31_11_0 : decode jdk_31_method_11_code 0 = .ok (.aload_n 0, 1) := by decide +kernel
theorem dj31_11_1 : decode jdk_31_method_11_code 1 = .ok (.ifnonnull 12, 3) := by decide +kernel
theorem dj31_11_13 : decode jdk_31_method_11_code 13 = .ok (.aload_n 0, 1) := by decide +kernel
theorem dj31_11_14 : decode jdk_31_method_11_code 14 = .ok (.areturn, 1) := by decide +kernel
theorem pn_java_util_Objects : plainName "java/util/Objects" = true := by first | (simp [plainName, overriddenIn]; done) | decide +kernel
theorem ef_Rn (m : MethodId) (x0 : Addr) (x1 : Addr) : entryFrame m #[(.ref x0), (.ref x1)] 2 = mkF m 0 #[rv x0, rv x1] [] := by first | (simp [entryFrame, mkF, argsToLocals, Value.category]; done) | rfl
def QRn (Z : State) (ra rc : Addr) (h0 : Heap) (n0 : Nat) (v : Option Value) (h : Heap) (L : List Loc) : Prop := v = some (.ref ra) ∧ Fr n0 L ∧ h = h0
set_option maxRecDepth 65536 in
set_option maxHeartbeats 40000000 in
theorem rmRn (l : Launch) (Z : State) (a0 : Array Value) (hw : ∀ d ∈ tables_1, d.before a0 Z = true) (ws : List Jvm.Cond) (ra rc : Addr) (h0 : Heap) (n0 : Nat) (Z0 : n0 ≤ h0.size)  :
    MetFree l mN14 (head1 (Jvm.Cond.code mN14 jdk_31_method_11_code 2 (some (.object "java/lang/Object")) :: ws) ({ frames := 0, cells := 0, slots := 0, locals := 0 } : Room)) (fun aa U => aa = #[(.ref ra), (.ref rc)] ∧ Z.Warmed39 U.vm ∧ U.heap = h0) (fun _ _ _ _ _ => True) (fun _ u1_ o_ u2_ => ∃ v_ l_, o_ = .returned v_ ∧ QRn Z ra rc h0 n0 v_ u2_.heap l_ ∧ FrameEnd u1_ o_ u2_ l_ ({ frames := 0, cells := 0, slots := 0, locals := 0 } : Room).cells ({ frames := 0, cells := 0, slots := 0, locals := 0 } : Room).slots) := by
  refine MetFree.of_bodySF (plainFor_of_name pn_java_util_Objects) hisR ?_
  intro p e s m args below meth c s₁ Bd hml0 hP hK
  obtain ⟨rfl, hZ, hh⟩ := hP
  have hx := Bd.exec
  have hby := Bd.bytes
  have hlk := BodyLoose.notSynchronized Bd
  have hret := Bd.returns
  have hml : c.maxLocals = 2 := hml0
  have hown : s.vm.findClass "java/util/Objects" = some m.cls := findClass_of_methodNamed Bd.named
  have hnm := (name_of_methodNamed Bd.named Bd.method).1
  have X0 : Stand p l e ({ frames := 0, cells := 0, slots := 0, locals := 0 } : Room) s m #[(.ref ra), (.ref rc)] below meth c s₁ [] 0 0 := Stand.of_body Bd
  have e0 : s₁.heap = h0 := by rw [← hh, Bd.state]; rfl
  have N0 := Fr.nil n0
  refine Goes.st (E := (EN s (QRn Z ra rc h0 n0) ({ frames := 0, cells := 0, slots := 0, locals := 0 } : Room).cells ({ frames := 0, cells := 0, slots := 0, locals := 0 } : Room).slots)) (fun tg kg => castTop (ef_Rn m ra rc) kg) ?_
  show Gs p e below _ s₁ m 0 #[rv ra, rv rc] []
  refine galoadN X0 hx (hb hby dj31_11_0) rfl rfl ?_
  show Gs p e below _ s₁ m 1 #[rv ra, rv rc] [(.ref ra)]
  refine Goes.st (fun tg kg => XT.ifnonnullYes X0.here hx rfl (pc0 := 1) (pc' := 13) rfl (hb hby dj31_11_1) rfl (by decide) (by decide) kg) ?_
  show Gs p e below _ s₁ m 13 #[rv ra, rv rc] []
  refine galoadN X0 hx (hb hby dj31_11_13) rfl rfl ?_
  refine Goes.retA X0 hx hret rfl rfl rfl (hb hby dj31_11_14) (lvN X0 hlk (vsome hret) ?_ (by decide) (by decide))
  rw [e0]
  exact ⟨rfl, N0, rfl⟩
theorem dp28_7_0 : decode prog_28_method_7_code 0 = .ok (.aload_n 0, 1) := by decide +kernel
theorem dp28_7_1 : decode prog_28_method_7_code 1 = .ok (.ldc 51, 2) := by decide +kernel
theorem dp28_7_3 : decode prog_28_method_7_code 3 = .ok (.invokestatic 52, 3) := by decide +kernel
theorem dp28_7_6 : decode prog_28_method_7_code 6 = .ok (.pop, 1) := by decide +kernel
theorem dp28_7_7 : decode prog_28_method_7_code 7 = .ok (.aload_n 0, 1) := by decide +kernel
theorem dp28_7_8 : decode prog_28_method_7_code 8 = .ok (.invokevirtual 58, 3) := by decide +kernel
theorem dp28_7_11 : decode prog_28_method_7_code 11 = .ok (.ifCond .eq 13, 3) := by decide +kernel
theorem dp28_7_24 : decode prog_28_method_7_code 24 = .ok (.aload_n 0, 1) := by decide +kernel
theorem dp28_7_25 : decode prog_28_method_7_code 25 = .ok (.invokestatic 66, 3) := by decide +kernel
theorem dp28_7_28 : decode prog_28_method_7_code 28 = .ok (.ifCond .ne 8, 3) := by decide +kernel
theorem dp28_7_36 : decode prog_28_method_7_code 36 = .ok (.aload_n 0, 1) := by decide +kernel
theorem dp28_7_37 : decode prog_28_method_7_code 37 = .ok (.areturn, 1) := by decide +kernel
theorem pn_com_example_redoubt_redoubt_engine_Job : plainName "com/example/redoubt/redoubt/engine/Job" = true := by first | (simp [plainName, overriddenIn]; done) | decide +kernel
theorem pd__Ljava_lang_Object_Ljava_lang_String__Ljava_lang_Object__b345 : parseMethodDescriptor "(Ljava/lang/Object;Ljava/lang/String;)Ljava/lang/Object;" = some ⟨[(.object "java/lang/Object"), (.object "java/lang/String")], some (.object "java/lang/Object")⟩ := by decide +kernel
theorem pd__Ljava_lang_String__Z_7c27 : parseMethodDescriptor "(Ljava/lang/String;)Z" = some ⟨[(.object "java/lang/String")], some .boolean⟩ := by decide +kernel
theorem ef_Ri (m : MethodId) (x0 : Addr) : entryFrame m #[(.ref x0)] 1 = mkF m 0 #[rv x0] [] := by first | (simp [entryFrame, mkF, argsToLocals, Value.category]; done) | rfl
def QRi (Z : State) (rb bb : Addr) (kb : ClassId) (ch : Int32) (cs : Int32) (fm : Value) (h0 : Heap) (n0 : Nat) (v : Option Value) (h : Heap) (L : List Loc) : Prop := v = some (.ref rb) ∧ Fr n0 L ∧ Keep h0 h []
set_option maxRecDepth 65536 in
set_option maxHeartbeats 40000000 in
theorem rmRi (l : Launch) (Z : State) (a0 : Array Value) (hw : ∀ d ∈ tables_1, d.before a0 Z = true) (ws : List Jvm.Cond) (rb bb : Addr) (kb : ClassId) (ch : Int32) (cs : Int32) (fm : Value) (h0 : Heap) (n0 : Nat) (Z0 : n0 ≤ h0.size) (Scs : Sta Z h0 "java/lang/String" "COMPACT_STRINGS" "Z" (.int cs)) (hcs : ¬ cs = (0 : Int32)) (Eb : Exa Z h0 rb "java/lang/String") (Vb : Fld Z h0 rb "java/lang/String" "value" "[B" (.ref bb)) (Cb : Fld Z h0 rb "java/lang/String" "coder" "B" (.int (0 : Int32))) (Ab : Arv Z h0 bb kb .byte (1 : Int32) [(.int ch)] (.int (0 : Int32))) (Sfm : Sta Z h0 "jdk/internal/util/Preconditions" "SIOOBE_FORMATTER" "Ljava/util/function/BiFunction;" fm) (hfm : fm.isRef = true) (hc0 : ¬ cCh ch = (44 : Int32)) (hc1 : ¬ cCh ch = (34 : Int32)) (hc2 : ¬ cCh ch = (10 : Int32)) (hc3 : ¬ cCh ch = (13 : Int32)) :
    MetFree l mN15 (head1 (Jvm.Cond.code mN15 prog_28_method_7_code 1 (some (.object "java/lang/String")) :: ws) ({ frames := 5, cells := 2, slots := 12, locals := 67 } : Room)) (fun aa U => aa = #[(.ref rb)] ∧ Z.Warmed39 U.vm ∧ U.heap = h0 ∧ CHv Z ELs U.vm h0) (fun _ _ _ _ _ => True) (fun _ u1_ o_ u2_ => ∃ v_ l_, o_ = .returned v_ ∧ QRi Z rb bb kb ch cs fm h0 n0 v_ u2_.heap l_ ∧ CHr Z ELs u1_.vm u1_.heap u2_.vm u2_.heap ∧ ReturnedEndW u1_ o_ u2_ l_ ({ frames := 5, cells := 2, slots := 12, locals := 67 } : Room).cells ({ frames := 5, cells := 2, slots := 12, locals := 67 } : Room).slots) := by
  refine MetFree.of_bodySF (plainFor_of_name pn_com_example_redoubt_redoubt_engine_Job) hisR ?_
  intro p e s m args below meth c s₁ Bd hml0 hP hK
  obtain ⟨rfl, hZ, hh, hH⟩ := hP
  have hR := CHr.refl hH
  have hx := Bd.exec
  have hby := Bd.bytes
  have hlk := BodyLoose.notSynchronized Bd
  have hret := Bd.returns
  have hml : c.maxLocals = 1 := hml0
  have hown : s.vm.findClass "com/example/redoubt/redoubt/engine/Job" = some m.cls := findClass_of_methodNamed Bd.named
  have hnm := (name_of_methodNamed Bd.named Bd.method).1
  have X0 : Stand p l e ({ frames := 5, cells := 2, slots := 12, locals := 67 } : Room) (s.setVm s.vm) m #[(.ref rb)] below meth c s₁ [] 0 0 := Stand.of_body Bd
  have hS := (State.WarmedH.refl s).since 0
  have hk : 0 ≤ h0.size := Nat.zero_le _
  have e0 : s₁.heap = h0 := by rw [← hh, Bd.state]; rfl
  have N0 := Fr.nil n0
  refine Goes.st (E := (EH Z ELs s (QRi Z rb bb kb ch cs fm h0 n0) ({ frames := 5, cells := 2, slots := 12, locals := 67 } : Room).cells ({ frames := 5, cells := 2, slots := 12, locals := 67 } : Room).slots)) (fun tg kg => castTop (ef_Ri m rb) kg) ?_
  have K0 : Keep h0 h0 [] := Keep.refl _ _
  show Gs p e below _ s₁ m 0 #[rv rb] []
  refine galoadN X0 hx (hb hby dp28_7_0) rfl rfl ?_
  show Gs p e below _ s₁ m 1 #[rv rb] [(.ref rb)]
  obtain ⟨b1, T1, h1, kk1, X1, e1, E1, hS, hk, hZ, hown, hCr1, Li1, st1⟩ := ldcOH X0 hx hZ hown (hwk hw 58 rfl) (strW (hwk hw 39 rfl) (hwk hw 40 rfl) (hwk hw 41 rfl) (hwk hw 42 rfl) (hwk hw 43 rfl) (hwk hw 44 rfl) (hwk hw 45 rfl)) e0 hS hk (hELs hw) hR.1 (g := (mkF m 1 #[rv rb] [(.ref rb)])) rfl (hb hby dp28_7_1) (n := 8) (by decide) (by decide) (by decide) (by decide)
  have hR := hR.trans hCr1
  refine Goes.st st1 ?_
  have KK2 := K0.ext E1
  have Z1 : n0 ≤ h1.size := Nat.le_trans Z0 E1.1
  show Gs p e below _ T1 m 3 #[rv rb] [(.ref b1), (.ref rb)]
  obtain ⟨_, _, ⟨T3, L3, k3, n3⟩, -, X3, ⟨Lc3, hQ3, l3, y3, z3⟩, st3⟩ := Jvm.LawKit.callS X1 hx (y := mN14) hown (mvT hZ (hwk hw 59 rfl)) (mvT hZ (hwk hw 60 rfl)) (mvT hZ (hwk hw 61 rfl)) (mvT hZ (hwk hw 62 rfl)) (by decide) (backOf (W := 0) (rmRn l Z a0 hw [] rb b1 h1 n0 Z1 ) hZ (hwk hw 62 rfl) (hwk hw 61 rfl) (by decide) (by decide)) (g := (mkF m 3 #[rv rb] [(.ref b1), (.ref rb)])) rfl (by rw [hml]; rfl) (argsL := [(.ref rb), (.ref b1)]) (rest := []) (lenOf pd__Ljava_lang_Object_Ljava_lang_String__Ljava_lang_Object__b345 rfl) rfl (by show 2 * 0 + _ ≤ _; exact Nat.le_of_eq rfl) (hb hby dp28_7_3) (fun _ _ => ⟨rfl, e1, (by decide : 2 + 0 ≤ 2), (by decide : 12 + 0 ≤ 12)⟩)
  dsimp only [Pt.U, Pt.locs, Pt.cells, Pt.slots] at X3 l3 y3 z3 st3 hQ3
  subst l3 y3 z3
  obtain ⟨rfl, N3q, eh3⟩ := hQ3
  have N3 := Fr.app N0 N3q
  refine Goes.st st3 ?_
  show Gs p e below _ T3 m 6 #[rv rb] [(.ref rb)]
  refine Goes.st (fun tg kg => XT.pop X3.here hx rfl (hb hby dp28_7_6) rfl rfl kg) ?_
  show Gs p e below _ T3 m 7 #[rv rb] []
  refine galoadN X3 hx (hb hby dp28_7_7) rfl rfl ?_
  have f4 := (Vb.ext E1)
  have f5 := (Ab.ext E1)
  have f7 := (Eb.ext E1)
  obtain ⟨cq6, kq6, qa6, qb6, qc6⟩ := isOf hZ eh3 f7
  obtain ⟨_, _, ⟨T6, L6, k6, n6⟩, -, X6, ⟨Lc6, hQ6, l6, y6, z6⟩, st6⟩ := X3.virtualBack hx (y := mN5) (z := mN5) hown (mvT hZ (hwk hw 63 rfl)) (mvT hZ (hwk hw 64 rfl)) (notFace_of_selects (args := #[]) (mvT hZ (hwk hw 66 rfl))) (mvT hZ (hwk hw 66 rfl)) (mvT hZ (hwk hw 65 rfl)) (by decide) (backOf (W := 0) (rmEm l Z a0 hw [] rb bb kb ch h1 n0 Z1 f4 f5) hZ (hwk hw 67 rfl) (hwk hw 39 rfl) (by decide) (by decide)) qa6 qc6 (g := (mkF m 8 #[rv rb] [(.ref rb)])) rfl (by rw [hml]; rfl) (Steps.refl _) (argsL := []) (rest := []) (lenOf pd___Z_58a rfl) rfl (by show 2 * 0 + _ ≤ _; exact Nat.le_of_eq rfl) (hb hby dp28_7_8) (fun _ _ => ⟨rfl, eh3, (by decide : 2 + 0 ≤ 2), (by decide : 12 + 0 ≤ 12)⟩)
  dsimp only [Pt.U, Pt.locs, Pt.cells, Pt.slots] at X6 l6 y6 z6 st6 hQ6
  subst l6 y6 z6
  obtain ⟨rfl, N6q, eh6⟩ := hQ6
  have N6 := Fr.app N3 N6q
  refine Goes.sts st6 ?_
  show Gs p e below _ T6 m 11 #[rv rb] [(.int (0 : Int32))]
  refine gifYes X6 hx (pc := 11) (pc' := 24) (hb hby dp28_7_11) (by decide) (by decide) (by decide) ?_
  refine galoadN X6 hx (hb hby dp28_7_24) rfl rfl ?_
  have f8 := (Cb.ext E1)
  have f9 := (Scs.ext E1)
  have f10 := (Sfm.ext E1)
  obtain ⟨_, _, ⟨T11, L11, k11, n11⟩, -, X11, ⟨Lc11, hQ11, l11, y11, z11⟩, st11⟩ := Jvm.LawKit.callS X6 hx (y := mN13) hown (mvT hZ (hwk hw 69 rfl)) (mvT hZ (hwk hw 70 rfl)) (mvT hZ (hwk hw 71 rfl)) (mvT hZ (hwk hw 72 rfl)) (by decide) (backOf (W := 0) (rmFi l Z a0 hw [] rb bb kb ch cs fm h1 n0 Z1 f9 hcs f7 f4 f8 f5 f10 hfm hc0 hc1 hc2 hc3) hZ (hwk hw 72 rfl) (hwk hw 71 rfl) (by decide) (by decide)) (g := (mkF m 25 #[rv rb] [(.ref rb)])) rfl (by rw [hml]; rfl) (argsL := [(.ref rb)]) (rest := []) (lenOf pd__Ljava_lang_String__Z_7c27 rfl) rfl (by show 2 * 0 + _ ≤ _; exact Nat.le_of_eq rfl) (hb hby dp28_7_25) (fun _ _ => ⟨rfl, eh6, (by decide : 2 + 0 ≤ 2), (by decide : 12 + 0 ≤ 12)⟩)
  dsimp only [Pt.U, Pt.locs, Pt.cells, Pt.slots] at X11 l11 y11 z11 st11 hQ11
  subst l11 y11 z11
  obtain ⟨rfl, N11q, eh11⟩ := hQ11
  have N11 := Fr.app N6 N11q
  refine Goes.st st11 ?_
  show Gs p e below _ T11 m 28 #[rv rb] [(.int (1 : Int32))]
  refine gifYes X11 hx (pc := 28) (pc' := 36) (hb hby dp28_7_28) (by decide) (by decide) (by decide) ?_
  refine galoadN X11 hx (hb hby dp28_7_36) rfl rfl ?_
  refine Goes.retA X11 hx hret rfl rfl rfl (hb hby dp28_7_37) (lvH X11 hlk hS (by rw [eh11]; exact hk) hZ (hELs hw) eh11 (by rw [hh]; exact hR) (vsome hret) ?_ (by decide) (by decide))
  rw [eh11]
  exact ⟨rfl, N11, KK2⟩
theorem dj30_1_0 : decode jdk_30_method_1_code 0 = .ok (.aload_n 0, 1) := by decide +kernel
theorem dj30_1_1 : decode jdk_30_method_1_code 1 = .ok (.invokespecial 1, 3) := by decide +kernel
theorem dj30_1_4 : decode jdk_30_method_1_code 4 = .ok (.return_, 1) := by decide +kernel
theorem pn_java_lang_Record : plainName "java/lang/Record" = true := by first | (simp [plainName, overriddenIn]; done) | decide +kernel
theorem ef_Rec (m : MethodId) (x0 : Addr) : entryFrame m #[(.ref x0)] 1 = mkF m 0 #[rv x0] [] := by first | (simp [entryFrame, mkF, argsToLocals, Value.category]; done) | rfl
def QRec (Z : State) (a : Addr) (h0 : Heap) (n0 : Nat) (v : Option Value) (h : Heap) (L : List Loc) : Prop := v = none ∧ Fr n0 L ∧ h = h0
set_option maxRecDepth 65536 in
set_option maxHeartbeats 40000000 in
theorem rmRec (l : Launch) (Z : State) (a0 : Array Value) (hw : ∀ d ∈ tables_1, d.before a0 Z = true) (ws : List Jvm.Cond) (a : Addr) (h0 : Heap) (n0 : Nat) (Z0 : n0 ≤ h0.size)  :
    MetFree l mN16 (head1 (Jvm.Cond.code mN16 jdk_30_method_1_code 1 none :: ws) ({ frames := 1, cells := 0, slots := 0, locals := 12 } : Room)) (fun aa U => aa = #[(.ref a)] ∧ Z.Warmed39 U.vm ∧ U.heap = h0) (fun _ _ _ _ _ => True) (fun _ u1_ o_ u2_ => ∃ v_ l_, o_ = .returned v_ ∧ QRec Z a h0 n0 v_ u2_.heap l_ ∧ FrameEnd u1_ o_ u2_ l_ ({ frames := 1, cells := 0, slots := 0, locals := 12 } : Room).cells ({ frames := 1, cells := 0, slots := 0, locals := 12 } : Room).slots) := by
  refine MetFree.of_bodySF (plainFor_of_name pn_java_lang_Record) hisR ?_
  intro p e s m args below meth c s₁ Bd hml0 hP hK
  obtain ⟨rfl, hZ, hh⟩ := hP
  have hx := Bd.exec
  have hby := Bd.bytes
  have hlk := BodyLoose.notSynchronized Bd
  have hret := Bd.returns
  have hml : c.maxLocals = 1 := hml0
  have hown : s.vm.findClass "java/lang/Record" = some m.cls := findClass_of_methodNamed Bd.named
  have hnm := (name_of_methodNamed Bd.named Bd.method).1
  have X0 : Stand p l e ({ frames := 1, cells := 0, slots := 0, locals := 12 } : Room) s m #[(.ref a)] below meth c s₁ [] 0 0 := Stand.of_body Bd
  have e0 : s₁.heap = h0 := by rw [← hh, Bd.state]; rfl
  have N0 := Fr.nil n0
  refine Goes.st (E := (EN s (QRec Z a h0 n0) ({ frames := 1, cells := 0, slots := 0, locals := 12 } : Room).cells ({ frames := 1, cells := 0, slots := 0, locals := 12 } : Room).slots)) (fun tg kg => castTop (ef_Rec m a) kg) ?_
  show Gs p e below _ s₁ m 0 #[rv a] []
  refine galoadN X0 hx (hb hby dj30_1_0) rfl rfl ?_
  obtain ⟨T1, X1, e1, st1⟩ := initO X0 hx hZ hown (hwk hw 54 rfl) (hwk hw 28 rfl) (hwk hw 29 rfl) e0 (g := (mkF m 1 #[rv a] [(.ref a)])) rfl (by rw [hml]; rfl) rfl (hb hby dj30_1_1) (by decide) (W := 0) (by show 2 * 0 + _ ≤ _; exact Nat.le_of_eq rfl) (by decide)
  refine Goes.st st1 ?_
  show Gs p e below _ T1 m 4 #[rv a] []
  refine Goes.retV X1 hx hret (hb hby dj30_1_4) (lvN X1 hlk (fun _ => rfl) ?_ (by decide) (by decide))
  rw [e1]
  exact ⟨rfl, N0, rfl⟩
theorem dp28_1_0 : decode prog_28_method_1_code 0 = .ok (.aload_n 0, 1) := by decide +kernel
theorem dp28_1_1 : decode prog_28_method_1_code 1 = .ok (.invokespecial 1, 3) := by decide +kernel
theorem dp28_1_4 : decode prog_28_method_1_code 4 = .ok (.aload_n 1, 1) := by decide +kernel
theorem dp28_1_5 : decode prog_28_method_1_code 5 = .ok (.invokestatic 7, 3) := by decide +kernel
theorem dp28_1_8 : decode prog_28_method_1_code 8 = .ok (.pop, 1) := by decide +kernel
theorem dp28_1_9 : decode prog_28_method_1_code 9 = .ok (.iload_n 2, 1) := by decide +kernel
theorem dp28_1_10 : decode prog_28_method_1_code 10 = .ok (.iconst 1, 1) := by decide +kernel
theorem dp28_1_11 : decode prog_28_method_1_code 11 = .ok (.if_icmp .lt 17, 3) := by decide +kernel
theorem dp28_1_14 : decode prog_28_method_1_code 14 = .ok (.dload_n 3, 1) := by decide +kernel
theorem dp28_1_15 : decode prog_28_method_1_code 15 = .ok (.dconst 0, 1) := by decide +kernel
theorem dp28_1_16 : decode prog_28_method_1_code 16 = .ok (.dcmp .l, 1) := by decide +kernel
theorem dp28_1_17 : decode prog_28_method_1_code 17 = .ok (.ifCond .le 11, 3) := by decide +kernel
theorem dp28_1_20 : decode prog_28_method_1_code 20 = .ok (.dload_n 3, 1) := by decide +kernel
theorem dp28_1_21 : decode prog_28_method_1_code 21 = .ok (.ldc2_w 15, 3) := by decide +kernel
theorem dp28_1_24 : decode prog_28_method_1_code 24 = .ok (.dcmp .g, 1) := by decide +kernel
theorem dp28_1_25 : decode prog_28_method_1_code 25 = .ok (.ifCond .lt 10, 3) := by decide +kernel
theorem dp28_1_35 : decode prog_28_method_1_code 35 = .ok (.aload_n 0, 1) := by decide +kernel
theorem dp28_1_36 : decode prog_28_method_1_code 36 = .ok (.aload_n 1, 1) := by decide +kernel
theorem dp28_1_37 : decode prog_28_method_1_code 37 = .ok (.putfield 21, 3) := by decide +kernel
theorem dp28_1_40 : decode prog_28_method_1_code 40 = .ok (.aload_n 0, 1) := by decide +kernel
theorem dp28_1_41 : decode prog_28_method_1_code 41 = .ok (.iload_n 2, 1) := by decide +kernel
theorem dp28_1_42 : decode prog_28_method_1_code 42 = .ok (.putfield 25, 3) := by decide +kernel
theorem dp28_1_45 : decode prog_28_method_1_code 45 = .ok (.aload_n 0, 1) := by decide +kernel
theorem dp28_1_46 : decode prog_28_method_1_code 46 = .ok (.dload_n 3, 1) := by decide +kernel
theorem dp28_1_47 : decode prog_28_method_1_code 47 = .ok (.putfield 29, 3) := by decide +kernel
theorem dp28_1_50 : decode prog_28_method_1_code 50 = .ok (.return_, 1) := by decide +kernel
theorem pd__Ljava_lang_String__Ljava_lang_String__5dff : parseMethodDescriptor "(Ljava/lang/String;)Ljava/lang/String;" = some ⟨[(.object "java/lang/String")], some (.object "java/lang/String")⟩ := by decide +kernel
theorem ef_Jo (m : MethodId) (x0 : Addr) (x1 : Addr) (x2 : Int32) (x3 : UInt64) : entryFrame m #[(.ref x0), (.ref x1), (.int x2), (.double x3)] 5 = mkF m 0 #[rv x0, rv x1, iv x2, .val (.double x3), .second] [] := by first | (simp [entryFrame, mkF, argsToLocals, Value.category]; done) | rfl
def QJo (Z : State) (a : Addr) (rb bb : Addr) (kb : ClassId) (ch : Int32) (pr cs : Int32) (fm : Value) (h0 : Heap) (n0 : Nat) (v : Option Value) (h : Heap) (L : List Loc) : Prop := v = none ∧ Fr n0 L ∧ Keep h0 h [a] ∧ Fld Z h a "com/example/redoubt/redoubt/engine/Job" "procs" "I" (.int pr) ∧ Fld Z h a "com/example/redoubt/redoubt/engine/Job" "time" "D" (.double FP.dconst1)
set_option maxRecDepth 65536 in
set_option maxHeartbeats 40000000 in
theorem rmJo (l : Launch) (Z : State) (a0 : Array Value) (hw : ∀ d ∈ tables_1, d.before a0 Z = true) (ws : List Jvm.Cond) (a : Addr) (rb bb : Addr) (kb : ClassId) (ch : Int32) (pr cs : Int32) (fm : Value) (h0 : Heap) (n0 : Nat) (Z0 : n0 ≤ h0.size) (Ea : Exa Z h0 a "com/example/redoubt/redoubt/engine/Job") (ga : n0 ≤ a) (Fid : Fld Z h0 a "com/example/redoubt/redoubt/engine/Job" "id" "Ljava/lang/String;" .null) (Fprocs : Fld Z h0 a "com/example/redoubt/redoubt/engine/Job" "procs" "I" (.int (0 : Int32))) (Ftime : Fld Z h0 a "com/example/redoubt/redoubt/engine/Job" "time" "D" (.double (0 : UInt64))) (Scs : Sta Z h0 "java/lang/String" "COMPACT_STRINGS" "Z" (.int cs)) (hcs : ¬ cs = (0 : Int32)) (Eb : Exa Z h0 rb "java/lang/String") (Vb : Fld Z h0 rb "java/lang/String" "value" "[B" (.ref bb)) (Cb : Fld Z h0 rb "java/lang/String" "coder" "B" (.int (0 : Int32))) (Ab : Arv Z h0 bb kb .byte (1 : Int32) [(.int ch)] (.int (0 : Int32))) (Sfm : Sta Z h0 "jdk/internal/util/Preconditions" "SIOOBE_FORMATTER" "Ljava/util/function/BiFunction;" fm) (hfm : fm.isRef = true) (hc0 : ¬ cCh ch = (44 : Int32)) (hc1 : ¬ cCh ch = (34 : Int32)) (hc2 : ¬ cCh ch = (10 : Int32)) (hc3 : ¬ cCh ch = (13 : Int32)) (hpr : ¬ pr < (1 : Int32)) :
    MetFree l mN17 (head1 (Jvm.Cond.code mN17 prog_28_method_1_code 5 none :: ws) ({ frames := 6, cells := 2, slots := 12, locals := 79 } : Room)) (fun aa U => aa = #[(.ref a), (.ref rb), (.int pr), (.double FP.dconst1)] ∧ Z.Warmed39 U.vm ∧ U.heap = h0 ∧ CHv Z ELs U.vm h0) (fun _ _ _ _ _ => True) (fun _ u1_ o_ u2_ => ∃ v_ l_, o_ = .returned v_ ∧ QJo Z a rb bb kb ch pr cs fm h0 n0 v_ u2_.heap l_ ∧ CHr Z ELs u1_.vm u1_.heap u2_.vm u2_.heap ∧ ReturnedEndW u1_ o_ u2_ l_ ({ frames := 6, cells := 2, slots := 12, locals := 79 } : Room).cells ({ frames := 6, cells := 2, slots := 12, locals := 79 } : Room).slots) := by
  refine MetFree.of_bodySF (plainFor_of_name pn_com_example_redoubt_redoubt_engine_Job) hisR ?_
  intro p e s m args below meth c s₁ Bd hml0 hP hK
  obtain ⟨rfl, hZ, hh, hH⟩ := hP
  have hR := CHr.refl hH
  have hx := Bd.exec
  have hby := Bd.bytes
  have hlk := BodyLoose.notSynchronized Bd
  have hret := Bd.returns
  have hml : c.maxLocals = 5 := hml0
  have hown : s.vm.findClass "com/example/redoubt/redoubt/engine/Job" = some m.cls := findClass_of_methodNamed Bd.named
  have hnm := (name_of_methodNamed Bd.named Bd.method).1
  have X0 : Stand p l e ({ frames := 6, cells := 2, slots := 12, locals := 79 } : Room) (s.setVm s.vm) m #[(.ref a), (.ref rb), (.int pr), (.double FP.dconst1)] below meth c s₁ [] 0 0 := Stand.of_body Bd
  have hS := (State.WarmedH.refl s).since 0
  have hk : 0 ≤ h0.size := Nat.zero_le _
  have e0 : s₁.heap = h0 := by rw [← hh, Bd.state]; rfl
  have N0 := Fr.nil n0
  refine Goes.st (E := (EH Z ELs s (QJo Z a rb bb kb ch pr cs fm h0 n0) ({ frames := 6, cells := 2, slots := 12, locals := 79 } : Room).cells ({ frames := 6, cells := 2, slots := 12, locals := 79 } : Room).slots)) (fun tg kg => castTop (ef_Jo m a rb pr FP.dconst1) kg) ?_
  have K0 : Keep h0 h0 [a] := Keep.refl _ _
  show Gs p e below _ s₁ m 0 #[rv a, rv rb, iv pr, .val (.double FP.dconst1), .second] []
  refine galoadN X0 hx (hb hby dp28_1_0) rfl rfl ?_
  obtain ⟨_, _, ⟨T1, L1, k1, n1⟩, -, X1, ⟨Lc1, hQ1, l1, y1, z1⟩, st1⟩ := X0.specialBack hx (y := mN16) rfl hown (mvT hZ (hwk hw 49 rfl)) (mvT hZ (hwk hw 50 rfl)) (mvT hZ (hwk hw 53 rfl)) (by decide) (backOf (W := 0) (rmRec l Z a0 hw [] a h0 n0 Z0 ) hZ (hwk hw 53 rfl) (hwk hw 52 rfl) (by decide) (by decide)) (g := (mkF m 1 #[rv a, rv rb, iv pr, .val (.double FP.dconst1), .second] [(.ref a)])) rfl (by rw [hml]; rfl) (Steps.refl _) (a := a) (argsL := []) (rest := []) (lenOf pd___V_566 rfl) rfl (by show 2 * 0 + _ ≤ _; exact Nat.le_of_eq rfl) (hb hby dp28_1_1) (fun _ _ => ⟨rfl, e0, (by decide : 0 + 0 ≤ 2), (by decide : 0 + 0 ≤ 12)⟩)
  dsimp only [Pt.U, Pt.locs, Pt.cells, Pt.slots] at X1 l1 y1 z1 st1 hQ1
  subst l1 y1 z1
  obtain ⟨rfl, N1q, eh1⟩ := hQ1
  have N1 := Fr.app N0 N1q
  refine Goes.sts st1 ?_
  show Gs p e below _ T1 m 4 #[rv a, rv rb, iv pr, .val (.double FP.dconst1), .second] []
  refine galoadN X1 hx (hb hby dp28_1_4) rfl rfl ?_
  obtain ⟨_, _, ⟨T2, L2, k2, n2⟩, -, X2, hS2, hg2, ⟨Lc2, hQ2, l2, y2, z2, hCr2⟩, st2⟩ := callSS X1 hx (y := mN15) hown (mvT hZ (hwk hw 55 rfl)) (mvT hZ (hwk hw 56 rfl)) (mvT hZ (hwk hw 37 rfl)) (mvT hZ (hwk hw 57 rfl)) (by decide) (backOfSH (W := 0) (rmRi l Z a0 hw [] rb bb kb ch cs fm h0 n0 Z0 Scs hcs Eb Vb Cb Ab Sfm hfm hc0 hc1 hc2 hc3) hZ (hwk hw 57 rfl) (hwk hw 37 rfl) (by decide) (by decide) (hELs hw) hR.1) (g := (mkF m 5 #[rv a, rv rb, iv pr, .val (.double FP.dconst1), .second] [(.ref rb)])) rfl (by rw [hml]; rfl) (argsL := [(.ref rb)]) (rest := []) (lenOf pd__Ljava_lang_String__Ljava_lang_String__5dff rfl) rfl (by show 2 * 0 + _ ≤ _; exact Nat.le_of_eq rfl) (hb hby dp28_1_5) (fun _ _ => ⟨rfl, eh1, (by decide : 0 + 2 ≤ 2), (by decide : 0 + 12 ≤ 12)⟩)
  dsimp only [Pt.U, Pt.locs, Pt.cells, Pt.slots] at X2 l2 y2 z2 st2 hQ2 hS2 hg2 hCr2
  subst l2 y2 z2
  obtain ⟨X2, hS, hZ, hown⟩ := rebS hS (by rw [eh1]; exact hk) X2 hS2 hg2 hZ hown
  have hk := Nat.le_refl T2.heap.size
  have hR := hR.trans hCr2
  obtain ⟨rfl, N2q, K2⟩ := hQ2
  have KK3 := K0.trans K2 all0
  have Z2 : n0 ≤ T2.heap.size := Nat.le_trans Z0 K2.1
  have N2 := Fr.app N1 N2q
  refine Goes.sts st2 ?_
  show Gs p e below _ T2 m 8 #[rv a, rv rb, iv pr, .val (.double FP.dconst1), .second] [(.ref rb)]
  refine Goes.st (fun tg kg => XT.pop X2.here hx rfl (hb hby dp28_1_8) rfl rfl kg) ?_
  show Gs p e below _ T2 m 9 #[rv a, rv rb, iv pr, .val (.double FP.dconst1), .second] []
  refine giloadN X2 hx (hb hby dp28_1_9) rfl ?_
  refine giconst X2 hx (hb hby dp28_1_10) ?_
  refine gicmpNo X2 hx (hb hby dp28_1_11) (flt hpr).1 ?_
  refine gdloadN X2 hx (hb hby dp28_1_14) rfl ?_
  refine Goes.st (fun tg kg => XS.dconst0 X2.here hx rfl (hb hby dp28_1_15) (v := FP.dconst0) rfl kg) ?_
  refine Goes.st (fun tg kg => XS.dcmpS X2.here hx rfl (hb hby dp28_1_16) rfl (v := (cmpValue (FP.dcmp FP.dconst1 FP.dconst0) .l)) rfl kg) ?_
  refine gifNo X2 hx (hb hby dp28_1_17) ((if0 _ _).trans (tlt own_d0').2.2.2) ?_
  refine gdloadN X2 hx (hb hby dp28_1_20) rfl ?_
  show Gs p e below _ T2 m 21 #[rv a, rv rb, iv pr, .val (.double FP.dconst1), .second] [(.double FP.dconst1)]
  refine Goes.st (fun tg kg => X2.ldc2DoubleC hx hown (mvT hZ (hwk hw 107 rfl)) (g := (mkF m 21 #[rv a, rv rb, iv pr, .val (.double FP.dconst1), .second] [(.double FP.dconst1)])) rfl (hb hby dp28_1_21) tg kg) ?_
  show Gs p e below _ T2 m 24 #[rv a, rv rb, iv pr, .val (.double FP.dconst1), .second] [(.double (9218868437227405312 : UInt64)), (.double FP.dconst1)]
  refine Goes.st (fun tg kg => XS.dcmpS X2.here hx rfl (hb hby dp28_1_24) rfl (v := (cmpValue (FP.dcmp FP.dconst1 (9218868437227405312 : UInt64)) .g)) rfl kg) ?_
  refine gifYes X2 hx (pc := 25) (pc' := 35) (hb hby dp28_1_25) ((if0 _ _).trans (tlt own_d1).1) (by decide) (by decide) ?_
  refine galoadN X2 hx (hb hby dp28_1_35) rfl rfl ?_
  refine galoadN X2 hx (hb hby dp28_1_36) rfl rfl ?_
  have f5 := (Fid.keep K2 nin0)
  have f6 := (Ea.keep K2)
  obtain ⟨T4, h4, X4, e4, W4, st4⟩ := putF X2 hx hZ hown (host := "") (Or.inl (hwk hw 108 rfl)) Via.refl rfl f5 f6 (Or.inr ⟨(hwk hw 109 rfl), rfl, hnm⟩) (hwk hw 36 rfl) (ty := (.object "java/lang/String")) (by decide) rfl rfl (g := (mkF m 37 #[rv a, rv rb, iv pr, .val (.double FP.dconst1), .second] [(.ref rb), (.ref a)])) rfl rfl (hb hby dp28_1_37)
  have N4 := Fr.snoc X4 N2 ga
  have G4 := f5.same W4
  refine Goes.st st4 ?_
  have hk := Nat.le_trans hk (Nat.le_of_eq W4.size.symm)
  have hR := hR.trans (CHr.wr W4 (Safe.exa hZ.alike f6 (by decide) (by decide)) hR.1)
  have KK7 := KK3.wr W4 (Or.inl (List.mem_of_getElem? (i := 0) rfl))
  have Z4 : n0 ≤ h4.size := by have := W4.size; have := Z2; omega
  show Gs p e below _ T4 m 40 #[rv a, rv rb, iv pr, .val (.double FP.dconst1), .second] []
  refine galoadN X4 hx (hb hby dp28_1_40) rfl rfl ?_
  refine giloadN X4 hx (hb hby dp28_1_41) rfl ?_
  have f9 := ((Fprocs.keep K2 nin0).other W4 (Or.inr (slot_ne (Or.inr (hwk hw 111 rfl)) (Or.inr (hwk hw 109 rfl)) (by decide) (t := .int) (t' := (.object "java/lang/String")) (by decide) (by decide))))
  have f10 := (f6.wr W4)
  obtain ⟨T8, h8, X8, e8, W8, st8⟩ := putF X4 hx hZ hown (host := "") (Or.inl (hwk hw 110 rfl)) Via.refl e4 f9 f10 (Or.inr ⟨(hwk hw 111 rfl), rfl, hnm⟩) (hwk hw 36 rfl) (ty := .int) (by decide) rfl rfl (g := (mkF m 42 #[rv a, rv rb, iv pr, .val (.double FP.dconst1), .second] [(.int pr), (.ref a)])) rfl rfl (hb hby dp28_1_42)
  have N8 := Fr.snoc X8 N4 ga
  have G8 := f9.same W8
  refine Goes.st st8 ?_
  have hk := Nat.le_trans hk (Nat.le_of_eq W8.size.symm)
  have hR := hR.trans (CHr.wr W8 (Safe.exa hZ.alike f10 (by decide) (by decide)) hR.1)
  have KK11 := KK7.wr W8 (Or.inl (List.mem_of_getElem? (i := 0) rfl))
  have Z8 : n0 ≤ h8.size := by have := W8.size; have := Z4; omega
  show Gs p e below _ T8 m 45 #[rv a, rv rb, iv pr, .val (.double FP.dconst1), .second] []
  refine galoadN X8 hx (hb hby dp28_1_45) rfl rfl ?_
  refine gdloadN X8 hx (hb hby dp28_1_46) rfl ?_
  have f13 := (((Ftime.keep K2 nin0).other W4 (Or.inr (slot_ne (Or.inr (hwk hw 113 rfl)) (Or.inr (hwk hw 109 rfl)) (by decide) (t := .double) (t' := (.object "java/lang/String")) (by decide) (by decide)))).other W8 (Or.inr (slot_ne (Or.inr (hwk hw 113 rfl)) (Or.inr (hwk hw 111 rfl)) (by decide) (t := .double) (t' := .int) (by decide) (by decide))))
  have f14 := (f10.wr W8)
  obtain ⟨T12, h12, X12, e12, W12, st12⟩ := putF X8 hx hZ hown (host := "") (Or.inl (hwk hw 112 rfl)) Via.refl e8 f13 f14 (Or.inr ⟨(hwk hw 113 rfl), rfl, hnm⟩) (hwk hw 36 rfl) (ty := .double) (by decide) rfl rfl (g := (mkF m 47 #[rv a, rv rb, iv pr, .val (.double FP.dconst1), .second] [(.double FP.dconst1), (.ref a)])) rfl rfl (hb hby dp28_1_47)
  have N12 := Fr.snoc X12 N8 ga
  have G12 := f13.same W12
  refine Goes.st st12 ?_
  have hk := Nat.le_trans hk (Nat.le_of_eq W12.size.symm)
  have hR := hR.trans (CHr.wr W12 (Safe.exa hZ.alike f14 (by decide) (by decide)) hR.1)
  have KK15 := KK11.wr W12 (Or.inl (List.mem_of_getElem? (i := 0) rfl))
  have Z12 : n0 ≤ h12.size := by have := W12.size; have := Z8; omega
  show Gs p e below _ T12 m 50 #[rv a, rv rb, iv pr, .val (.double FP.dconst1), .second] []
  have f16 := (G8.other W12 (Or.inr (slot_ne (Or.inr (hwk hw 111 rfl)) (Or.inr (hwk hw 113 rfl)) (by decide) (t := .int) (t' := .double) (by decide) (by decide))))
  refine Goes.retV X12 hx hret (hb hby dp28_1_50) (lvH X12 hlk hS (by rw [e12]; exact hk) hZ (hELs hw) e12 (by rw [hh]; exact hR) (fun _ => rfl) ?_ (by decide) (by decide))
  rw [e12]
  exact ⟨rfl, N12, KK15, f16, G12⟩
theorem dj38_6_0 : decode jdk_38_method_6_code 0 = .ok (.aload_n 0, 1) := by decide +kernel
theorem dj38_6_1 : decode jdk_38_method_6_code 1 = .ok (.getfield 9, 3) := by decide +kernel
theorem dj38_6_4 : decode jdk_38_method_6_code 4 = .ok (.arraylength, 1) := by decide +kernel
theorem dj38_6_5 : decode jdk_38_method_6_code 5 = .ok (.istore_n 2, 1) := by decide +kernel
theorem dj38_6_6 : decode jdk_38_method_6_code 6 = .ok (.iload_n 2, 1) := by decide +kernel
theorem dj38_6_7 : decode jdk_38_method_6_code 7 = .ok (.ifCond .gt 13, 3) := by decide +kernel
theorem dj38_6_10 : decode jdk_38_method_6_code 10 = .ok (.aload_n 0, 1) := by decide +kernel
theorem dj38_6_11 : decode jdk_38_method_6_code 11 = .ok (.getfield 9, 3) := by decide +kernel
theorem dj38_6_14 : decode jdk_38_method_6_code 14 = .ok (.getstatic 39, 3) := by decide +kernel
theorem dj38_6_17 : decode jdk_38_method_6_code 17 = .ok (.if_acmp .eq 28, 3) := by decide +kernel
theorem dj38_6_45 : decode jdk_38_method_6_code 45 = .ok (.aload_n 0, 1) := by decide +kernel
theorem dj38_6_46 : decode jdk_38_method_6_code 46 = .ok (.bipush 10, 2) := by decide +kernel
theorem dj38_6_48 : decode jdk_38_method_6_code 48 = .ok (.iload_n 1, 1) := by decide +kernel
theorem dj38_6_49 : decode jdk_38_method_6_code 49 = .ok (.invokestatic 79, 3) := by decide +kernel
theorem dj38_6_52 : decode jdk_38_method_6_code 52 = .ok (.anewarray 7, 3) := by decide +kernel
theorem dj38_6_55 : decode jdk_38_method_6_code 55 = .ok (.dup_x1, 1) := by decide +kernel
theorem dj38_6_56 : decode jdk_38_method_6_code 56 = .ok (.putfield 9, 3) := by decide +kernel
theorem dj38_6_59 : decode jdk_38_method_6_code 59 = .ok (.areturn, 1) := by decide +kernel
theorem pd__II_I_aae : parseMethodDescriptor "(II)I" = some ⟨[.int, .int], some .int⟩ := by decide +kernel
theorem ef_G1 (m : MethodId) (x0 : Addr) (x1 : Int32) : entryFrame m #[(.ref x0), (.int x1)] 4 = mkF m 0 #[rv x0, iv x1, .unset, .unset] [] := by first | (simp [entryFrame, mkF, argsToLocals, Value.category]; done) | rfl
def QG1 (Z : State) (a dE : Addr) (kD : ClassId) (mc : Int32) (h0 : Heap) (n0 : Nat) (v : Option Value) (h : Heap) (L : List Loc) : Prop := ∃ (b : Addr) (kE : ClassId), v = some (.ref b) ∧ Fr n0 L ∧ Keep h0 h [a] ∧ h0.size ≤ b ∧ n0 ≤ b ∧ Fld Z h a "java/util/AbstractList" "modCount" "I" (.int mc) ∧ Fld Z h a "java/util/ArrayList" "elementData" "[Ljava/lang/Object;" (.ref b) ∧ Fld Z h a "java/util/ArrayList" "size" "I" (.int (0 : Int32)) ∧ Arv Z h b kE (.object "java/lang/Object") (10 : Int32) [.null, .null, .null, .null, .null, .null, .null, .null, .null, .null] .null ∧ Ovr Z kE "java/lang/Object"
set_option maxRecDepth 65536 in
set_option maxHeartbeats 40000000 in
theorem rmG1 (l : Launch) (Z : State) (a0 : Array Value) (hw : ∀ d ∈ tables_1, d.before a0 Z = true) (ws : List Jvm.Cond) (a dE : Addr) (kD : ClassId) (mc : Int32) (h0 : Heap) (n0 : Nat) (Z0 : n0 ≤ h0.size) (Ea : Exa Z h0 a "java/util/ArrayList") (ga : n0 ≤ a) (Fm : Fld Z h0 a "java/util/AbstractList" "modCount" "I" (.int mc)) (Fe : Fld Z h0 a "java/util/ArrayList" "elementData" "[Ljava/lang/Object;" (.ref dE)) (Fs : Fld Z h0 a "java/util/ArrayList" "size" "I" (.int (0 : Int32))) (Sde : Sta Z h0 "java/util/ArrayList" "DEFAULTCAPACITY_EMPTY_ELEMENTDATA" "[Ljava/lang/Object;" (.ref dE)) (Ade : Arv Z h0 dE kD (.object "java/lang/Object") (0 : Int32) [] .null) (nad : a ≠ dE) :
    MetFree l mN18 (head1 (Jvm.Cond.code mN18 jdk_38_method_6_code 4 (some (.array (.object "java/lang/Object"))) :: ws) ({ frames := 1, cells := 1, slots := 10, locals := 14 } : Room)) (fun aa U => aa = #[(.ref a), (.int (1 : Int32))] ∧ Z.Warmed39 U.vm ∧ U.heap = h0) (fun _ _ _ _ _ => True) (fun _ u1_ o_ u2_ => ∃ v_ l_, o_ = .returned v_ ∧ QG1 Z a dE kD mc h0 n0 v_ u2_.heap l_ ∧ FrameEnd u1_ o_ u2_ l_ ({ frames := 1, cells := 1, slots := 10, locals := 14 } : Room).cells ({ frames := 1, cells := 1, slots := 10, locals := 14 } : Room).slots) := by
  refine MetFree.of_bodySF (plainFor_of_name pn_java_util_ArrayList) hisR ?_
  intro p e s m args below meth c s₁ Bd hml0 hP hK
  obtain ⟨rfl, hZ, hh⟩ := hP
  have hx := Bd.exec
  have hby := Bd.bytes
  have hlk := BodyLoose.notSynchronized Bd
  have hret := Bd.returns
  have hml : c.maxLocals = 4 := hml0
  have hown : s.vm.findClass "java/util/ArrayList" = some m.cls := findClass_of_methodNamed Bd.named
  have hnm := (name_of_methodNamed Bd.named Bd.method).1
  have X0 : Stand p l e ({ frames := 1, cells := 1, slots := 10, locals := 14 } : Room) s m #[(.ref a), (.int (1 : Int32))] below meth c s₁ [] 0 0 := Stand.of_body Bd
  have e0 : s₁.heap = h0 := by rw [← hh, Bd.state]; rfl
  have N0 := Fr.nil n0
  refine Goes.st (E := (EN s (QG1 Z a dE kD mc h0 n0) ({ frames := 1, cells := 1, slots := 10, locals := 14 } : Room).cells ({ frames := 1, cells := 1, slots := 10, locals := 14 } : Room).slots)) (fun tg kg => castTop (ef_G1 m a (1 : Int32)) kg) ?_
  have K0 : Keep h0 h0 [a] := Keep.refl _ _
  show Gs p e below _ s₁ m 0 #[rv a, iv (1 : Int32), .unset, .unset] []
  refine galoadN X0 hx (hb hby dj38_6_0) rfl rfl ?_
  obtain ⟨T1, X1, e1, st1⟩ := getF X0 hx hZ hown (host := "") (Or.inl (hwk hw 33 rfl)) Via.refl e0 Fe (g := (mkF m 1 #[rv a, iv (1 : Int32), .unset, .unset] [(.ref a)])) rfl rfl (hb hby dj38_6_1)
  refine Goes.st st1 ?_
  obtain ⟨cl2, Ar2, qk2, Sz2, qz2, Ha2, Gf2⟩ := id Ade
  refine Goes.st (fun tg kg => X1.arraylength hx (cell := cl2) (by rw [e1]; exact Ar2.1) (State.isArrayOf_alike hZ.alike Ar2.2.1) (g := (mkF m 4 #[rv a, iv (1 : Int32), .unset, .unset] [(.ref dE)])) rfl (rest := []) rfl (hb hby dj38_6_4) tg kg) ?_
  rw [len_of Sz2 qz2]
  show Gs p e below _ T1 m 5 #[rv a, iv (1 : Int32), .unset, .unset] [(.int (0 : Int32))]
  refine gistoreN X1 hx (hb hby dj38_6_5) trivial (l' := #[rv a, iv (1 : Int32), iv (0 : Int32), .unset]) rfl ?_
  refine giloadN X1 hx (hb hby dj38_6_6) rfl ?_
  refine gifNo X1 hx (hb hby dj38_6_7) (by decide) ?_
  refine galoadN X1 hx (hb hby dj38_6_10) rfl rfl ?_
  obtain ⟨T3, X3, e3, st3⟩ := getF X1 hx hZ hown (host := "") (Or.inl (hwk hw 33 rfl)) Via.refl e1 Fe (g := (mkF m 11 #[rv a, iv (1 : Int32), iv (0 : Int32), .unset] [(.ref a)])) rfl rfl (hb hby dj38_6_11)
  refine Goes.st st3 ?_
  obtain ⟨T4, X4, e4, st4⟩ := getS X3 hx hZ hown (host := "") (hwk hw 32 rfl) Via.refl e3 Sde (g := (mkF m 14 #[rv a, iv (1 : Int32), iv (0 : Int32), .unset] [(.ref dE)])) rfl (hb hby dj38_6_14)
  refine Goes.st st4 ?_
  show Gs p e below _ T4 m 17 #[rv a, iv (1 : Int32), iv (0 : Int32), .unset] [(.ref dE), (.ref dE)]
  refine Goes.st (fun tg kg => XT.acmpYes X4.here hx rfl (pc0 := 17) (pc' := 45) rfl (hb hby dj38_6_17) rfl rfl rfl (XT.aa_eq_t (rfl : ((.ref dE) : Value) = (.ref dE))) (by decide) (by decide) kg) ?_
  refine galoadN X4 hx (hb hby dj38_6_45) rfl rfl ?_
  refine Goes.st (fun tg kg => XS.bipush X4.here hx rfl (hb hby dj38_6_46) kg) ?_
  refine giloadN X4 hx (hb hby dj38_6_48) rfl ?_
  obtain ⟨_, _, ⟨T5, L5, k5, n5⟩, -, X5, ⟨Lc5, hQ5, l5, y5, z5⟩, st5⟩ := Jvm.LawKit.callS X4 hx (y := mN0) hown (mvT hZ (hwk hw 138 rfl)) (mvT hZ (hwk hw 6 rfl)) (mvT hZ (hwk hw 7 rfl)) (mvT hZ (hwk hw 8 rfl)) (by decide) (backOf (W := 1) (rmMx l Z a0 hw [] (10 : Int32) (1 : Int32) h0 n0 Z0 ) hZ (hwk hw 8 rfl) (hwk hw 7 rfl) (by decide) (by decide)) (g := (mkF m 49 #[rv a, iv (1 : Int32), iv (0 : Int32), .unset] [(.int (1 : Int32)), (.int (10 : Int32)), (.ref a)])) rfl (by rw [hml]; rfl) (argsL := [(.int (10 : Int32)), (.int (1 : Int32))]) (rest := [(.ref a)]) (lenOf pd__II_I_aae rfl) rfl (by show 2 * 0 + _ ≤ _; exact Nat.le_of_eq rfl) (hb hby dj38_6_49) (fun _ _ => ⟨rfl, e4, (by decide : 0 + 0 ≤ 1), (by decide : 0 + 0 ≤ 10)⟩)
  dsimp only [Pt.U, Pt.locs, Pt.cells, Pt.slots] at X5 l5 y5 z5 st5 hQ5
  subst l5 y5 z5
  obtain ⟨rfl, N5q, eh5⟩ := hQ5
  rw [show imax (10 : Int32) (1 : Int32) = (10 : Int32) from by decide] at st5
  have N5 := Fr.app N0 N5q
  refine Goes.st st5 ?_
  show Gs p e below _ T5 m 52 #[rv a, iv (1 : Int32), iv (0 : Int32), .unset] [(.int (10 : Int32)), (.ref a)]
  obtain ⟨T6, h6, cA6, X6, e6, E6, A6, EA6, OV6, st6⟩ := newRE X5 hx hZ hown (C := "java/lang/Object") (hwk hw 139 rfl) (hwk hw 140 rfl) eh5 (g := (mkF m 52 #[rv a, iv (1 : Int32), iv (0 : Int32), .unset] [(.int (10 : Int32)), (.ref a)])) rfl (hb hby dj38_6_52) rfl (by decide) (cap := 10) (by decide) (by decide) (by decide) (by decide) (ad := "[Ljava/lang/Object;") (by decide)
  obtain ⟨b6, g6⟩ : ∃ z, z = h0.size := ⟨_, rfl⟩
  rw [← g6] at A6 EA6 st6
  have ne_a_b6 : a ≠ b6 := Nat.ne_of_lt (Nat.lt_of_lt_of_le Ea.lt (Nat.le_of_eq g6.symm))
  have ne_dE_b6 : dE ≠ b6 := Nat.ne_of_lt (Nat.lt_of_lt_of_le Ade.lt (Nat.le_of_eq g6.symm))
  have lo_b6 : n0 ≤ b6 := by have := Z0; omega
  have sz_b6 : h0.size ≤ b6 := by have := K0.1; omega
  have KK7 := K0.ext E6
  have V6 : Arv Z h6 b6 cA6 (.object "java/lang/Object") (10 : Int32) [.null, .null, .null, .null, .null, .null, .null, .null, .null, .null] .null := (Arv.new A6 (by decide)).pad (pad_rep [] _ 10)
  refine Goes.st st6 ?_
  have Z6 : n0 ≤ h6.size := Nat.le_trans Z0 E6.1
  show Gs p e below _ T6 m 55 #[rv a, iv (1 : Int32), iv (0 : Int32), .unset] [(.ref b6), (.ref a)]
  refine Goes.st (fun tg kg => XT.dupX1 X6.here hx rfl (hb hby dj38_6_55) rfl rfl rfl kg) ?_
  show Gs p e below _ T6 m 56 #[rv a, iv (1 : Int32), iv (0 : Int32), .unset] [(.ref b6), (.ref a), (.ref b6)]
  have f9 := (Fe.ext E6)
  have f10 := (Ea.ext E6)
  obtain ⟨T8, h8, X8, e8, W8, st8⟩ := putF X6 hx hZ hown (host := "") (Or.inl (hwk hw 33 rfl)) Via.refl e6 f9 f10 (Or.inl (hwk hw 34 rfl)) (hwk hw 10 rfl) (ty := (.array (.object "java/lang/Object"))) (by decide) rfl rfl (g := (mkF m 56 #[rv a, iv (1 : Int32), iv (0 : Int32), .unset] [(.ref b6), (.ref a), (.ref b6)])) rfl rfl (hb hby dj38_6_56)
  have N8 := Fr.snoc X8 N5 ga
  have G8 := f9.same W8
  refine Goes.st st8 ?_
  have KK11 := KK7.wr W8 (Or.inl (List.mem_of_getElem? (i := 0) rfl))
  have Z8 : n0 ≤ h8.size := by have := W8.size; have := Z6; omega
  show Gs p e below _ T8 m 59 #[rv a, iv (1 : Int32), iv (0 : Int32), .unset] [(.ref b6)]
  have f12 := (V6.other W8 (Ne.symm ne_a_b6))
  have f13 := ((Fm.ext E6).other W8 (Or.inr (slot_ne (Or.inl (hwk hw 31 rfl)) (Or.inl (hwk hw 34 rfl)) (by decide) (t := .int) (t' := (.array (.object "java/lang/Object"))) (by decide) (by decide))))
  have f14 := ((Fs.ext E6).other W8 (Or.inr (slot_ne (Or.inl (hwk hw 122 rfl)) (Or.inl (hwk hw 34 rfl)) (by decide) (t := .int) (t' := (.array (.object "java/lang/Object"))) (by decide) (by decide))))
  refine Goes.retA X8 hx hret rfl rfl rfl (hb hby dj38_6_59) (lvN X8 hlk (vsome hret) ?_ (by decide) (by decide))
  rw [e8]
  exact ⟨b6, cA6, rfl, N8, KK11, sz_b6, lo_b6, f13, G8, f14, f12, OV6⟩
theorem dj38_7_0 : decode jdk_38_method_7_code 0 = .ok (.aload_n 0, 1) := by decide +kernel
theorem dj38_7_1 : decode jdk_38_method_7_code 1 = .ok (.aload_n 0, 1) := by decide +kernel
theorem dj38_7_2 : decode jdk_38_method_7_code 2 = .ok (.getfield 48, 3) := by decide +kernel
theorem dj38_7_5 : decode jdk_38_method_7_code 5 = .ok (.iconst 1, 1) := by decide +kernel
theorem dj38_7_6 : decode jdk_38_method_7_code 6 = .ok (.iadd, 1) := by decide +kernel
theorem dj38_7_7 : decode jdk_38_method_7_code 7 = .ok (.invokevirtual 69, 3) := by decide +kernel
theorem dj38_7_10 : decode jdk_38_method_7_code 10 = .ok (.areturn, 1) := by decide +kernel
theorem pd__I__Ljava_lang_Object__86cd : parseMethodDescriptor "(I)[Ljava/lang/Object;" = some ⟨[.int], some (.array (.object "java/lang/Object"))⟩ := by decide +kernel
theorem ef_G0 (m : MethodId) (x0 : Addr) : entryFrame m #[(.ref x0)] 1 = mkF m 0 #[rv x0] [] := by first | (simp [entryFrame, mkF, argsToLocals, Value.category]; done) | rfl
def QG0 (Z : State) (a dE : Addr) (kD : ClassId) (mc : Int32) (h0 : Heap) (n0 : Nat) (v : Option Value) (h : Heap) (L : List Loc) : Prop := ∃ (b : Addr) (kE : ClassId), v = some (.ref b) ∧ Fr n0 L ∧ Keep h0 h [a] ∧ h0.size ≤ b ∧ n0 ≤ b ∧ Fld Z h a "java/util/AbstractList" "modCount" "I" (.int mc) ∧ Fld Z h a "java/util/ArrayList" "elementData" "[Ljava/lang/Object;" (.ref b) ∧ Fld Z h a "java/util/ArrayList" "size" "I" (.int (0 : Int32)) ∧ Arv Z h b kE (.object "java/lang/Object") (10 : Int32) [.null, .null, .null, .null, .null, .null, .null, .null, .null, .null] .null ∧ Ovr Z kE "java/lang/Object"
set_option maxRecDepth 65536 in
set_option maxHeartbeats 40000000 in
theorem rmG0 (l : Launch) (Z : State) (a0 : Array Value) (hw : ∀ d ∈ tables_1, d.before a0 Z = true) (ws : List Jvm.Cond) (a dE : Addr) (kD : ClassId) (mc : Int32) (h0 : Heap) (n0 : Nat) (Z0 : n0 ≤ h0.size) (Ea : Exa Z h0 a "java/util/ArrayList") (ga : n0 ≤ a) (Fm : Fld Z h0 a "java/util/AbstractList" "modCount" "I" (.int mc)) (Fe : Fld Z h0 a "java/util/ArrayList" "elementData" "[Ljava/lang/Object;" (.ref dE)) (Fs : Fld Z h0 a "java/util/ArrayList" "size" "I" (.int (0 : Int32))) (Sde : Sta Z h0 "java/util/ArrayList" "DEFAULTCAPACITY_EMPTY_ELEMENTDATA" "[Ljava/lang/Object;" (.ref dE)) (Ade : Arv Z h0 dE kD (.object "java/lang/Object") (0 : Int32) [] .null) (nad : a ≠ dE) :
    MetFree l mN19 (head1 (Jvm.Cond.code mN19 jdk_38_method_7_code 1 (some (.array (.object "java/lang/Object"))) :: ws) ({ frames := 2, cells := 1, slots := 10, locals := 29 } : Room)) (fun aa U => aa = #[(.ref a)] ∧ Z.Warmed39 U.vm ∧ U.heap = h0) (fun _ _ _ _ _ => True) (fun _ u1_ o_ u2_ => ∃ v_ l_, o_ = .returned v_ ∧ QG0 Z a dE kD mc h0 n0 v_ u2_.heap l_ ∧ FrameEnd u1_ o_ u2_ l_ ({ frames := 2, cells := 1, slots := 10, locals := 29 } : Room).cells ({ frames := 2, cells := 1, slots := 10, locals := 29 } : Room).slots) := by
  refine MetFree.of_bodySF (plainFor_of_name pn_java_util_ArrayList) hisR ?_
  intro p e s m args below meth c s₁ Bd hml0 hP hK
  obtain ⟨rfl, hZ, hh⟩ := hP
  have hx := Bd.exec
  have hby := Bd.bytes
  have hlk := BodyLoose.notSynchronized Bd
  have hret := Bd.returns
  have hml : c.maxLocals = 1 := hml0
  have hown : s.vm.findClass "java/util/ArrayList" = some m.cls := findClass_of_methodNamed Bd.named
  have hnm := (name_of_methodNamed Bd.named Bd.method).1
  have X0 : Stand p l e ({ frames := 2, cells := 1, slots := 10, locals := 29 } : Room) s m #[(.ref a)] below meth c s₁ [] 0 0 := Stand.of_body Bd
  have e0 : s₁.heap = h0 := by rw [← hh, Bd.state]; rfl
  have N0 := Fr.nil n0
  refine Goes.st (E := (EN s (QG0 Z a dE kD mc h0 n0) ({ frames := 2, cells := 1, slots := 10, locals := 29 } : Room).cells ({ frames := 2, cells := 1, slots := 10, locals := 29 } : Room).slots)) (fun tg kg => castTop (ef_G0 m a) kg) ?_
  have K0 : Keep h0 h0 [a] := Keep.refl _ _
  show Gs p e below _ s₁ m 0 #[rv a] []
  refine galoadN X0 hx (hb hby dj38_7_0) rfl rfl ?_
  refine galoadN X0 hx (hb hby dj38_7_1) rfl rfl ?_
  obtain ⟨T1, X1, e1, st1⟩ := getF X0 hx hZ hown (host := "") (Or.inl (hwk hw 121 rfl)) Via.refl e0 Fs (g := (mkF m 2 #[rv a] [(.ref a), (.ref a)])) rfl rfl (hb hby dj38_7_2)
  refine Goes.st st1 ?_
  refine giconst X1 hx (hb hby dj38_7_5) ?_
  refine giadd X1 hx (hb hby dj38_7_6) trivial ?_
  show Gs p e below _ T1 m 7 #[rv a] [(.int ((0 : Int32) + (1 : Int32))), (.ref a)]
  rw [show ((0 : Int32) + (1 : Int32)) = (1 : Int32) from by decide]
  show Gs p e below _ T1 m 7 #[rv a] [(.int (1 : Int32)), (.ref a)]
  have lt2 : a < h0.size := Ea.lt
  have lt3 : dE < h0.size := Ade.lt
  obtain ⟨cc4, qa4, qb4⟩ := Exa.cell Ea
  obtain ⟨_, _, ⟨T4, L4, k4, n4⟩, -, X4, ⟨Lc4, hQ4, l4, y4, z4⟩, st4⟩ := X1.privateBack hx (y := mN18) hown (mvT hZ (hwk hw 133 rfl)) (mvT hZ (hwk hw 134 rfl)) (selP (y := mN18) (as := #[]) (mvT hZ (hwk hw 10 rfl)) (mvP hZ (hwk hw 135 rfl)) (mvT hZ (hwk hw 134 rfl)) (by decide)) (Cond.privateMethod_at (mvP hZ (hwk hw 135 rfl) (args := #[]))) (mvT hZ (hwk hw 137 rfl)) (by decide) (backOf (W := 0) (rmG1 l Z a0 hw [] a dE kD mc h0 n0 Z0 Ea ga Fm Fe Fs Sde Ade nad) hZ (hwk hw 137 rfl) (hwk hw 11 rfl) (by decide) (by decide)) (g := (mkF m 7 #[rv a] [(.int (1 : Int32)), (.ref a)])) rfl (by rw [hml]; rfl) (Steps.refl _) (a := a) (by rw [e1]; exact qa4) qb4 (argsL := [(.int (1 : Int32))]) (rest := []) (lenOf pd__I__Ljava_lang_Object__86cd rfl) rfl (by show 2 * 0 + _ ≤ _; exact Nat.le_of_eq rfl) (hb hby dj38_7_7) (fun _ _ => ⟨rfl, e1, (by decide : 0 + 1 ≤ 1), (by decide : 0 + 10 ≤ 10)⟩)
  dsimp only [Pt.U, Pt.locs, Pt.cells, Pt.slots] at X4 l4 y4 z4 st4 hQ4
  subst l4 y4 z4
  obtain ⟨bE4, kE4, rfl, N4q, K4, szq4, loq4, R4_0, R4_1, R4_2, VE4, OE4⟩ := hQ4
  have KK5 := K0.trans K4 (allS (Or.inl (List.mem_of_getElem? (i := 0) rfl)) all0)
  have ne_a_bE4 : a ≠ bE4 := Nat.ne_of_lt (Nat.lt_of_lt_of_le lt2 szq4)
  have ne_dE_bE4 : dE ≠ bE4 := Nat.ne_of_lt (Nat.lt_of_lt_of_le lt3 szq4)
  have sz_bE4 : h0.size ≤ bE4 := by have := K0.1; have := szq4; omega
  have Z4 : n0 ≤ T4.heap.size := Nat.le_trans Z0 K4.1
  have N4 := Fr.app N0 N4q
  refine Goes.sts st4 ?_
  show Gs p e below _ T4 m 10 #[rv a] [(.ref bE4)]
  refine Goes.retA X4 hx hret rfl rfl rfl (hb hby dj38_7_10) (lvN X4 hlk (vsome hret) ?_ (by decide) (by decide))
  exact ⟨bE4, kE4, rfl, N4, KK5, sz_bE4, loq4, R4_0, R4_1, R4_2, VE4, OE4⟩
theorem dj38_24_0 : decode jdk_38_method_24_code 0 = .ok (.iload_n 3, 1) := by decide +kernel
theorem dj38_24_1 : decode jdk_38_method_24_code 1 = .ok (.aload_n 2, 1) := by decide +kernel
theorem dj38_24_2 : decode jdk_38_method_24_code 2 = .ok (.arraylength, 1) := by decide +kernel
theorem dj38_24_3 : decode jdk_38_method_24_code 3 = .ok (.if_icmp .ne 8, 3) := by decide +kernel
theorem dj38_24_6 : decode jdk_38_method_24_code 6 = .ok (.aload_n 0, 1) := by decide +kernel
theorem dj38_24_7 : decode jdk_38_method_24_code 7 = .ok (.invokevirtual 129, 3) := by decide +kernel
theorem dj38_24_10 : decode jdk_38_method_24_code 10 = .ok (.astore_n 2, 1) := by decide +kernel
theorem dj38_24_11 : decode jdk_38_method_24_code 11 = .ok (.aload_n 2, 1) := by decide +kernel
theorem dj38_24_12 : decode jdk_38_method_24_code 12 = .ok (.iload_n 3, 1) := by decide +kernel
theorem dj38_24_13 : decode jdk_38_method_24_code 13 = .ok (.aload_n 1, 1) := by decide +kernel
theorem dj38_24_14 : decode jdk_38_method_24_code 14 = .ok (.aastore, 1) := by decide +kernel
theorem dj38_24_15 : decode jdk_38_method_24_code 15 = .ok (.aload_n 0, 1) := by decide +kernel
theorem dj38_24_16 : decode jdk_38_method_24_code 16 = .ok (.iload_n 3, 1) := by decide +kernel
theorem dj38_24_17 : decode jdk_38_method_24_code 17 = .ok (.iconst 1, 1) := by decide +kernel
theorem dj38_24_18 : decode jdk_38_method_24_code 18 = .ok (.iadd, 1) := by decide +kernel
theorem dj38_24_19 : decode jdk_38_method_24_code 19 = .ok (.putfield 48, 3) := by decide +kernel
theorem dj38_24_22 : decode jdk_38_method_24_code 22 = .ok (.return_, 1) := by decide +kernel
theorem pd____Ljava_lang_Object__7d81 : parseMethodDescriptor "()[Ljava/lang/Object;" = some ⟨[], some (.array (.object "java/lang/Object"))⟩ := by decide +kernel
theorem ef_A30 (m : MethodId) (x0 : Addr) (x1 : Addr) (x2 : Addr) (x3 : Int32) : entryFrame m #[(.ref x0), (.ref x1), (.ref x2), (.int x3)] 4 = mkF m 0 #[rv x0, rv x1, rv x2, iv x3] [] := by first | (simp [entryFrame, mkF, argsToLocals, Value.category]; done) | rfl
def QA30 (Z : State) (a dE : Addr) (kD : ClassId) (mc : Int32) (ra : Addr) (h0 : Heap) (n0 : Nat) (v : Option Value) (h : Heap) (L : List Loc) : Prop := ∃ (b : Addr) (kE : ClassId), v = none ∧ Fr n0 L ∧ Keep h0 h [a] ∧ h0.size ≤ b ∧ n0 ≤ b ∧ Fld Z h a "java/util/AbstractList" "modCount" "I" (.int mc) ∧ Fld Z h a "java/util/ArrayList" "elementData" "[Ljava/lang/Object;" (.ref b) ∧ Fld Z h a "java/util/ArrayList" "size" "I" (.int (1 : Int32)) ∧ Arv Z h b kE (.object "java/lang/Object") (10 : Int32) [(.ref ra), .null, .null, .null, .null, .null, .null, .null, .null, .null] .null ∧ Ovr Z kE "java/lang/Object"
set_option maxRecDepth 65536 in
set_option maxHeartbeats 40000000 in
theorem rmA30 (l : Launch) (Z : State) (a0 : Array Value) (hw : ∀ d ∈ tables_1, d.before a0 Z = true) (ws : List Jvm.Cond) (a dE : Addr) (kD : ClassId) (mc : Int32) (ra : Addr) (h0 : Heap) (n0 : Nat) (Z0 : n0 ≤ h0.size) (Ea : Exa Z h0 a "java/util/ArrayList") (ga : n0 ≤ a) (Fm : Fld Z h0 a "java/util/AbstractList" "modCount" "I" (.int mc)) (Fe : Fld Z h0 a "java/util/ArrayList" "elementData" "[Ljava/lang/Object;" (.ref dE)) (Fs : Fld Z h0 a "java/util/ArrayList" "size" "I" (.int (0 : Int32))) (Sde : Sta Z h0 "java/util/ArrayList" "DEFAULTCAPACITY_EMPTY_ELEMENTDATA" "[Ljava/lang/Object;" (.ref dE)) (Ade : Arv Z h0 dE kD (.object "java/lang/Object") (0 : Int32) [] .null) (nad : a ≠ dE) (Ej : Exa Z h0 ra "com/example/redoubt/redoubt/engine/Job") :
    MetFree l mN20 (head1 (Jvm.Cond.code mN20 jdk_38_method_24_code 4 none :: ws) ({ frames := 3, cells := 1, slots := 10, locals := 41 } : Room)) (fun aa U => aa = #[(.ref a), (.ref ra), (.ref dE), (.int (0 : Int32))] ∧ Z.Warmed39 U.vm ∧ U.heap = h0) (fun _ _ _ _ _ => True) (fun _ u1_ o_ u2_ => ∃ v_ l_, o_ = .returned v_ ∧ QA30 Z a dE kD mc ra h0 n0 v_ u2_.heap l_ ∧ FrameEnd u1_ o_ u2_ l_ ({ frames := 3, cells := 1, slots := 10, locals := 41 } : Room).cells ({ frames := 3, cells := 1, slots := 10, locals := 41 } : Room).slots) := by
  refine MetFree.of_bodySF (plainFor_of_name pn_java_util_ArrayList) hisR ?_
  intro p e s m args below meth c s₁ Bd hml0 hP hK
  obtain ⟨rfl, hZ, hh⟩ := hP
  have hx := Bd.exec
  have hby := Bd.bytes
  have hlk := BodyLoose.notSynchronized Bd
  have hret := Bd.returns
  have hml : c.maxLocals = 4 := hml0
  have hown : s.vm.findClass "java/util/ArrayList" = some m.cls := findClass_of_methodNamed Bd.named
  have hnm := (name_of_methodNamed Bd.named Bd.method).1
  have X0 : Stand p l e ({ frames := 3, cells := 1, slots := 10, locals := 41 } : Room) s m #[(.ref a), (.ref ra), (.ref dE), (.int (0 : Int32))] below meth c s₁ [] 0 0 := Stand.of_body Bd
  have e0 : s₁.heap = h0 := by rw [← hh, Bd.state]; rfl
  have N0 := Fr.nil n0
  refine Goes.st (E := (EN s (QA30 Z a dE kD mc ra h0 n0) ({ frames := 3, cells := 1, slots := 10, locals := 41 } : Room).cells ({ frames := 3, cells := 1, slots := 10, locals := 41 } : Room).slots)) (fun tg kg => castTop (ef_A30 m a ra dE (0 : Int32)) kg) ?_
  have K0 : Keep h0 h0 [a] := Keep.refl _ _
  show Gs p e below _ s₁ m 0 #[rv a, rv ra, rv dE, iv (0 : Int32)] []
  refine giloadN X0 hx (hb hby dj38_24_0) rfl ?_
  refine galoadN X0 hx (hb hby dj38_24_1) rfl rfl ?_
  obtain ⟨cl1, Ar1, qk1, Sz1, qz1, Ha1, Gf1⟩ := id Ade
  refine Goes.st (fun tg kg => X0.arraylength hx (cell := cl1) (by rw [e0]; exact Ar1.1) (State.isArrayOf_alike hZ.alike Ar1.2.1) (g := (mkF m 2 #[rv a, rv ra, rv dE, iv (0 : Int32)] [(.ref dE), (.int (0 : Int32))])) rfl (rest := [(.int (0 : Int32))]) rfl (hb hby dj38_24_2) tg kg) ?_
  rw [len_of Sz1 qz1]
  show Gs p e below _ s₁ m 3 #[rv a, rv ra, rv dE, iv (0 : Int32)] [(.int (0 : Int32)), (.int (0 : Int32))]
  refine gicmpNo X0 hx (hb hby dj38_24_3) (by decide) ?_
  refine galoadN X0 hx (hb hby dj38_24_6) rfl rfl ?_
  have lt2 : a < h0.size := Ea.lt
  have lt3 : dE < h0.size := Ade.lt
  have lt4 : ra < h0.size := Ej.lt
  obtain ⟨cc5, qa5, qb5⟩ := Exa.cell Ea
  obtain ⟨_, _, ⟨T5, L5, k5, n5⟩, -, X5, ⟨Lc5, hQ5, l5, y5, z5⟩, st5⟩ := X0.privateBack hx (y := mN19) hown (mvT hZ (hwk hw 128 rfl)) (mvT hZ (hwk hw 129 rfl)) (selP (y := mN19) (as := #[]) (mvT hZ (hwk hw 10 rfl)) (mvP hZ (hwk hw 130 rfl)) (mvT hZ (hwk hw 129 rfl)) (by decide)) (Cond.privateMethod_at (mvP hZ (hwk hw 130 rfl) (args := #[]))) (mvT hZ (hwk hw 132 rfl)) (by decide) (backOf (W := 0) (rmG0 l Z a0 hw [] a dE kD mc h0 n0 Z0 Ea ga Fm Fe Fs Sde Ade nad) hZ (hwk hw 132 rfl) (hwk hw 11 rfl) (by decide) (by decide)) (g := (mkF m 7 #[rv a, rv ra, rv dE, iv (0 : Int32)] [(.ref a)])) rfl (by rw [hml]; rfl) (Steps.refl _) (a := a) (by rw [e0]; exact qa5) qb5 (argsL := []) (rest := []) (lenOf pd____Ljava_lang_Object__7d81 rfl) rfl (by show 2 * 0 + _ ≤ _; exact Nat.le_of_eq rfl) (hb hby dj38_24_7) (fun _ _ => ⟨rfl, e0, (by decide : 0 + 1 ≤ 1), (by decide : 0 + 10 ≤ 10)⟩)
  dsimp only [Pt.U, Pt.locs, Pt.cells, Pt.slots] at X5 l5 y5 z5 st5 hQ5
  subst l5 y5 z5
  obtain ⟨bE5, kE5, rfl, N5q, K5, szq5, loq5, R5_0, R5_1, R5_2, VE5, OE5⟩ := hQ5
  have KK6 := K0.trans K5 (allS (Or.inl (List.mem_of_getElem? (i := 0) rfl)) all0)
  have ne_a_bE5 : a ≠ bE5 := Nat.ne_of_lt (Nat.lt_of_lt_of_le lt2 szq5)
  have ne_dE_bE5 : dE ≠ bE5 := Nat.ne_of_lt (Nat.lt_of_lt_of_le lt3 szq5)
  have ne_ra_bE5 : ra ≠ bE5 := Nat.ne_of_lt (Nat.lt_of_lt_of_le lt4 szq5)
  have sz_bE5 : h0.size ≤ bE5 := by have := K0.1; have := szq5; omega
  have Z5 : n0 ≤ T5.heap.size := Nat.le_trans Z0 K5.1
  have N5 := Fr.app N0 N5q
  refine Goes.sts st5 ?_
  show Gs p e below _ T5 m 10 #[rv a, rv ra, rv dE, iv (0 : Int32)] [(.ref bE5)]
  refine gastoreN X5 hx (hb hby dj38_24_10) trivial rfl (l' := #[rv a, rv ra, rv bE5, iv (0 : Int32)]) rfl ?_
  refine galoadN X5 hx (hb hby dj38_24_11) rfl rfl ?_
  refine giloadN X5 hx (hb hby dj38_24_12) rfl ?_
  refine galoadN X5 hx (hb hby dj38_24_13) rfl rfl ?_
  show Gs p e below _ T5 m 14 #[rv a, rv ra, rv bE5, iv (0 : Int32)] [(.ref ra), (.int (0 : Int32)), (.ref bE5)]
  have f7 := (Ej.keep K5)
  obtain ⟨cl8, Ar8, qk8, Sz8, qz8, Ha8, Gf8⟩ := id VE5
  obtain ⟨T8, h8, X8, e8, W8, st8⟩ := stR X5 hx hZ rfl Ar8 (inb_of Sz8 ⟨by decide, by decide⟩) rfl (Sto.ofV Ar8 qk8 OE5 (Ins.of_exa f7 (hwk hw 141 rfl))) (g := (mkF m 14 #[rv a, rv ra, rv bE5, iv (0 : Int32)] [(.ref ra), (.int (0 : Int32)), (.ref bE5)])) rfl rfl (hb hby dj38_24_14)
  have N8 := Fr.snoc X8 N5 loq5
  have V8 : Arv Z h8 bE5 kE5 (.object "java/lang/Object") (10 : Int32) [(.ref ra), .null, .null, .null, .null, .null, .null, .null, .null, .null] .null := Arv.set Ar8 qk8 Sz8 qz8 Ha8 Gf8 rfl W8 0 (by decide) (by simp)
  refine Goes.st st8 ?_
  have KK9 := KK6.wr W8 (Or.inr sz_bE5)
  have Z8 : n0 ≤ h8.size := by have := W8.size; have := Z5; omega
  show Gs p e below _ T8 m 15 #[rv a, rv ra, rv bE5, iv (0 : Int32)] []
  refine galoadN X8 hx (hb hby dj38_24_15) rfl rfl ?_
  refine giloadN X8 hx (hb hby dj38_24_16) rfl ?_
  refine giconst X8 hx (hb hby dj38_24_17) ?_
  refine giadd X8 hx (hb hby dj38_24_18) trivial ?_
  show Gs p e below _ T8 m 19 #[rv a, rv ra, rv bE5, iv (0 : Int32)] [(.int ((0 : Int32) + (1 : Int32))), (.ref a)]
  rw [show ((0 : Int32) + (1 : Int32)) = (1 : Int32) from by decide]
  show Gs p e below _ T8 m 19 #[rv a, rv ra, rv bE5, iv (0 : Int32)] [(.int (1 : Int32)), (.ref a)]
  have f11 := (R5_2.other W8 (Or.inl ne_a_bE5))
  have f12 := ((Ea.keep K5).wr W8)
  obtain ⟨T10, h10, X10, e10, W10, st10⟩ := putF X8 hx hZ hown (host := "") (Or.inl (hwk hw 121 rfl)) Via.refl e8 f11 f12 (Or.inl (hwk hw 122 rfl)) (hwk hw 10 rfl) (ty := .int) (by decide) rfl rfl (g := (mkF m 19 #[rv a, rv ra, rv bE5, iv (0 : Int32)] [(.int (1 : Int32)), (.ref a)])) rfl rfl (hb hby dj38_24_19)
  have N10 := Fr.snoc X10 N8 ga
  have G10 := f11.same W10
  refine Goes.st st10 ?_
  have KK13 := KK9.wr W10 (Or.inl (List.mem_of_getElem? (i := 0) rfl))
  have Z10 : n0 ≤ h10.size := by have := W10.size; have := Z8; omega
  show Gs p e below _ T10 m 22 #[rv a, rv ra, rv bE5, iv (0 : Int32)] []
  have f14 := (V8.other W10 (Ne.symm ne_a_bE5))
  have f15 := ((R5_0.other W8 (Or.inl ne_a_bE5)).other W10 (Or.inr (slot_ne (Or.inl (hwk hw 31 rfl)) (Or.inl (hwk hw 122 rfl)) (by decide) (t := .int) (t' := .int) (by decide) (by decide))))
  have f16 := ((R5_1.other W8 (Or.inl ne_a_bE5)).other W10 (Or.inr (slot_ne (Or.inl (hwk hw 34 rfl)) (Or.inl (hwk hw 122 rfl)) (by decide) (t := (.array (.object "java/lang/Object"))) (t' := .int) (by decide) (by decide))))
  refine Goes.retV X10 hx hret (hb hby dj38_24_22) (lvN X10 hlk (fun _ => rfl) ?_ (by decide) (by decide))
  rw [e10]
  exact ⟨bE5, kE5, rfl, N10, KK13, sz_bE5, loq5, f15, f16, G10, f14, OE5⟩
theorem dj38_25_0 : decode jdk_38_method_25_code 0 = .ok (.aload_n 0, 1) := by decide +kernel
theorem dj38_25_1 : decode jdk_38_method_25_code 1 = .ok (.dup, 1) := by decide +kernel
theorem dj38_25_2 : decode jdk_38_method_25_code 2 = .ok (.getfield 63, 3) := by decide +kernel
theorem dj38_25_5 : decode jdk_38_method_25_code 5 = .ok (.iconst 1, 1) := by decide +kernel
theorem dj38_25_6 : decode jdk_38_method_25_code 6 = .ok (.iadd, 1) := by decide +kernel
theorem dj38_25_7 : decode jdk_38_method_25_code 7 = .ok (.putfield 63, 3) := by decide +kernel
theorem dj38_25_10 : decode jdk_38_method_25_code 10 = .ok (.aload_n 0, 1) := by decide +kernel
theorem dj38_25_11 : decode jdk_38_method_25_code 11 = .ok (.aload_n 1, 1) := by decide +kernel
theorem dj38_25_12 : decode jdk_38_method_25_code 12 = .ok (.aload_n 0, 1) := by decide +kernel
theorem dj38_25_13 : decode jdk_38_method_25_code 13 = .ok (.getfield 9, 3) := by decide +kernel
theorem dj38_25_16 : decode jdk_38_method_25_code 16 = .ok (.aload_n 0, 1) := by decide +kernel
theorem dj38_25_17 : decode jdk_38_method_25_code 17 = .ok (.getfield 48, 3) := by decide +kernel
theorem dj38_25_20 : decode jdk_38_method_25_code 20 = .ok (.invokevirtual 131, 3) := by decide +kernel
theorem dj38_25_23 : decode jdk_38_method_25_code 23 = .ok (.iconst 1, 1) := by decide +kernel
theorem dj38_25_24 : decode jdk_38_method_25_code 24 = .ok (.ireturn, 1) := by decide +kernel
theorem pd__Ljava_lang_Object__Ljava_lang_Object_I_V_7fbe : parseMethodDescriptor "(Ljava/lang/Object;[Ljava/lang/Object;I)V" = some ⟨[(.object "java/lang/Object"), (.array (.object "java/lang/Object")), .int], none⟩ := by decide +kernel
theorem ef_A10 (m : MethodId) (x0 : Addr) (x1 : Addr) : entryFrame m #[(.ref x0), (.ref x1)] 2 = mkF m 0 #[rv x0, rv x1] [] := by first | (simp [entryFrame, mkF, argsToLocals, Value.category]; done) | rfl
def QA10 (Z : State) (a dE : Addr) (kD : ClassId) (mc : Int32) (ra : Addr) (h0 : Heap) (n0 : Nat) (v : Option Value) (h : Heap) (L : List Loc) : Prop := ∃ (b : Addr) (kE : ClassId), v = some (.int 1) ∧ Fr n0 L ∧ Keep h0 h [a] ∧ h0.size ≤ b ∧ n0 ≤ b ∧ Fld Z h a "java/util/AbstractList" "modCount" "I" (.int (mc + (1 : Int32))) ∧ Fld Z h a "java/util/ArrayList" "elementData" "[Ljava/lang/Object;" (.ref b) ∧ Fld Z h a "java/util/ArrayList" "size" "I" (.int (1 : Int32)) ∧ Arv Z h b kE (.object "java/lang/Object") (10 : Int32) [(.ref ra), .null, .null, .null, .null, .null, .null, .null, .null, .null] .null ∧ Ovr Z kE "java/lang/Object"
set_option maxRecDepth 65536 in
set_option maxHeartbeats 40000000 in
theorem rmA10 (l : Launch) (Z : State) (a0 : Array Value) (hw : ∀ d ∈ tables_1, d.before a0 Z = true) (ws : List Jvm.Cond) (a dE : Addr) (kD : ClassId) (mc : Int32) (ra : Addr) (h0 : Heap) (n0 : Nat) (Z0 : n0 ≤ h0.size) (Ea : Exa Z h0 a "java/util/ArrayList") (ga : n0 ≤ a) (Fm : Fld Z h0 a "java/util/AbstractList" "modCount" "I" (.int mc)) (Fe : Fld Z h0 a "java/util/ArrayList" "elementData" "[Ljava/lang/Object;" (.ref dE)) (Fs : Fld Z h0 a "java/util/ArrayList" "size" "I" (.int (0 : Int32))) (Sde : Sta Z h0 "java/util/ArrayList" "DEFAULTCAPACITY_EMPTY_ELEMENTDATA" "[Ljava/lang/Object;" (.ref dE)) (Ade : Arv Z h0 dE kD (.object "java/lang/Object") (0 : Int32) [] .null) (nad : a ≠ dE) (Ej : Exa Z h0 ra "com/example/redoubt/redoubt/engine/Job") :
    MetFree l mN21 (head1 (Jvm.Cond.code mN21 jdk_38_method_25_code 2 (some .boolean) :: ws) ({ frames := 4, cells := 1, slots := 10, locals := 56 } : Room)) (fun aa U => aa = #[(.ref a), (.ref ra)] ∧ Z.Warmed39 U.vm ∧ U.heap = h0) (fun _ _ _ _ _ => True) (fun _ u1_ o_ u2_ => ∃ v_ l_, o_ = .returned v_ ∧ QA10 Z a dE kD mc ra h0 n0 v_ u2_.heap l_ ∧ FrameEnd u1_ o_ u2_ l_ ({ frames := 4, cells := 1, slots := 10, locals := 56 } : Room).cells ({ frames := 4, cells := 1, slots := 10, locals := 56 } : Room).slots) := by
  refine MetFree.of_bodySF (plainFor_of_name pn_java_util_ArrayList) hisR ?_
  intro p e s m args below meth c s₁ Bd hml0 hP hK
  obtain ⟨rfl, hZ, hh⟩ := hP
  have hx := Bd.exec
  have hby := Bd.bytes
  have hlk := BodyLoose.notSynchronized Bd
  have hret := Bd.returns
  have hml : c.maxLocals = 2 := hml0
  have hown : s.vm.findClass "java/util/ArrayList" = some m.cls := findClass_of_methodNamed Bd.named
  have hnm := (name_of_methodNamed Bd.named Bd.method).1
  have X0 : Stand p l e ({ frames := 4, cells := 1, slots := 10, locals := 56 } : Room) s m #[(.ref a), (.ref ra)] below meth c s₁ [] 0 0 := Stand.of_body Bd
  have e0 : s₁.heap = h0 := by rw [← hh, Bd.state]; rfl
  have N0 := Fr.nil n0
  refine Goes.st (E := (EN s (QA10 Z a dE kD mc ra h0 n0) ({ frames := 4, cells := 1, slots := 10, locals := 56 } : Room).cells ({ frames := 4, cells := 1, slots := 10, locals := 56 } : Room).slots)) (fun tg kg => castTop (ef_A10 m a ra) kg) ?_
  have K0 : Keep h0 h0 [a] := Keep.refl _ _
  show Gs p e below _ s₁ m 0 #[rv a, rv ra] []
  refine galoadN X0 hx (hb hby dj38_25_0) rfl rfl ?_
  refine gdup X0 hx (hb hby dj38_25_1) trivial rfl ?_
  obtain ⟨T1, X1, e1, st1⟩ := getF X0 hx hZ hown (host := "") (Or.inl (hwk hw 119 rfl)) (Via.of (hwk hw 120 rfl)) e0 Fm (g := (mkF m 2 #[rv a, rv ra] [(.ref a), (.ref a)])) rfl rfl (hb hby dj38_25_2)
  refine Goes.st st1 ?_
  refine giconst X1 hx (hb hby dj38_25_5) ?_
  refine giadd X1 hx (hb hby dj38_25_6) trivial ?_
  obtain ⟨T2, h2, X2, e2, W2, st2⟩ := putF X1 hx hZ hown (host := "") (Or.inl (hwk hw 119 rfl)) (Via.of (hwk hw 120 rfl)) e1 Fm Ea (Or.inl (hwk hw 31 rfl)) (hwk hw 10 rfl) (ty := .int) (by decide) rfl rfl (g := (mkF m 7 #[rv a, rv ra] [(.int (mc + (1 : Int32))), (.ref a)])) rfl rfl (hb hby dj38_25_7)
  have N2 := Fr.snoc X2 N0 ga
  have G2 := Fm.same W2
  refine Goes.st st2 ?_
  have KK3 := K0.wr W2 (Or.inl (List.mem_of_getElem? (i := 0) rfl))
  have Z2 : n0 ≤ h2.size := by have := W2.size; have := Z0; omega
  show Gs p e below _ T2 m 10 #[rv a, rv ra] []
  refine galoadN X2 hx (hb hby dj38_25_10) rfl rfl ?_
  refine galoadN X2 hx (hb hby dj38_25_11) rfl rfl ?_
  refine galoadN X2 hx (hb hby dj38_25_12) rfl rfl ?_
  have f5 := (Fe.other W2 (Or.inr (slot_ne (Or.inl (hwk hw 34 rfl)) (Or.inl (hwk hw 31 rfl)) (by decide) (t := (.array (.object "java/lang/Object"))) (t' := .int) (by decide) (by decide))))
  obtain ⟨T4, X4, e4, st4⟩ := getF X2 hx hZ hown (host := "") (Or.inl (hwk hw 33 rfl)) Via.refl e2 f5 (g := (mkF m 13 #[rv a, rv ra] [(.ref a), (.ref ra), (.ref a)])) rfl rfl (hb hby dj38_25_13)
  refine Goes.st st4 ?_
  refine galoadN X4 hx (hb hby dj38_25_16) rfl rfl ?_
  have f7 := (Fs.other W2 (Or.inr (slot_ne (Or.inl (hwk hw 122 rfl)) (Or.inl (hwk hw 31 rfl)) (by decide) (t := .int) (t' := .int) (by decide) (by decide))))
  obtain ⟨T6, X6, e6, st6⟩ := getF X4 hx hZ hown (host := "") (Or.inl (hwk hw 121 rfl)) Via.refl e4 f7 (g := (mkF m 17 #[rv a, rv ra] [(.ref a), (.ref dE), (.ref ra), (.ref a)])) rfl rfl (hb hby dj38_25_17)
  refine Goes.st st6 ?_
  have f8 := (Ea.wr W2)
  have f9 := (Sde.wr W2)
  have f10 := (Ade.other W2 (Ne.symm nad))
  have f11 := (Ej.wr W2)
  have lt12 : a < h2.size := f8.lt
  have lt13 : dE < h2.size := f10.lt
  have lt14 : ra < h2.size := f11.lt
  obtain ⟨cc15, qa15, qb15⟩ := Exa.cell f8
  obtain ⟨_, _, ⟨T15, L15, k15, n15⟩, -, X15, ⟨Lc15, hQ15, l15, y15, z15⟩, st15⟩ := X6.privateBack hx (y := mN20) hown (mvT hZ (hwk hw 123 rfl)) (mvT hZ (hwk hw 124 rfl)) (selP (y := mN20) (as := #[]) (mvT hZ (hwk hw 10 rfl)) (mvP hZ (hwk hw 125 rfl)) (mvT hZ (hwk hw 124 rfl)) (by decide)) (Cond.privateMethod_at (mvP hZ (hwk hw 125 rfl) (args := #[]))) (mvT hZ (hwk hw 127 rfl)) (by decide) (backOf (W := 0) (rmA30 l Z a0 hw [] a dE kD (mc + (1 : Int32)) ra h2 n0 Z2 f8 ga G2 f5 f7 f9 f10 nad f11) hZ (hwk hw 127 rfl) (hwk hw 11 rfl) (by decide) (by decide)) (g := (mkF m 20 #[rv a, rv ra] [(.int (0 : Int32)), (.ref dE), (.ref ra), (.ref a)])) rfl (by rw [hml]; rfl) (Steps.refl _) (a := a) (by rw [e6]; exact qa15) qb15 (argsL := [(.ref ra), (.ref dE), (.int (0 : Int32))]) (rest := []) (lenOf pd__Ljava_lang_Object__Ljava_lang_Object_I_V_7fbe rfl) rfl (by show 2 * 0 + _ ≤ _; exact Nat.le_of_eq rfl) (hb hby dj38_25_20) (fun _ _ => ⟨rfl, e6, (by decide : 0 + 1 ≤ 1), (by decide : 0 + 10 ≤ 10)⟩)
  dsimp only [Pt.U, Pt.locs, Pt.cells, Pt.slots] at X15 l15 y15 z15 st15 hQ15
  subst l15 y15 z15
  obtain ⟨bE15, kE15, rfl, N15q, K15, szq15, loq15, R15_0, R15_1, R15_2, VE15, OE15⟩ := hQ15
  have KK16 := KK3.trans K15 (allS (Or.inl (List.mem_of_getElem? (i := 0) rfl)) all0)
  have ne_a_bE15 : a ≠ bE15 := Nat.ne_of_lt (Nat.lt_of_lt_of_le lt12 szq15)
  have ne_dE_bE15 : dE ≠ bE15 := Nat.ne_of_lt (Nat.lt_of_lt_of_le lt13 szq15)
  have ne_ra_bE15 : ra ≠ bE15 := Nat.ne_of_lt (Nat.lt_of_lt_of_le lt14 szq15)
  have sz_bE15 : h0.size ≤ bE15 := by have := KK3.1; have := szq15; omega
  have Z15 : n0 ≤ T15.heap.size := Nat.le_trans Z2 K15.1
  have N15 := Fr.app N2 N15q
  refine Goes.sts st15 ?_
  show Gs p e below _ T15 m 23 #[rv a, rv ra] []
  refine giconst X15 hx (hb hby dj38_25_23) ?_
  refine Goes.retN X15 hx hret (by simp) (hb hby dj38_25_24) (by decide) (lvN X15 hlk (vsome hret) ?_ (by decide) (by decide))
  exact ⟨bE15, kE15, rfl, N15, KK16, sz_bE15, loq15, R15_0, R15_1, R15_2, VE15, OE15⟩
theorem ef_A31 (m : MethodId) (x0 : Addr) (x1 : Addr) (x2 : Addr) (x3 : Int32) : entryFrame m #[(.ref x0), (.ref x1), (.ref x2), (.int x3)] 4 = mkF m 0 #[rv x0, rv x1, rv x2, iv x3] [] := by first | (simp [entryFrame, mkF, argsToLocals, Value.category]; done) | rfl
def QA31 (Z : State) (a eD : Addr) (kE : ClassId) (mc : Int32) (j0 : Addr) (ra : Addr) (h0 : Heap) (n0 : Nat) (v : Option Value) (h : Heap) (L : List Loc) : Prop := v = none ∧ Fr n0 L ∧ Keep h0 h [a, eD] ∧ Fld Z h a "java/util/AbstractList" "modCount" "I" (.int mc) ∧ Fld Z h a "java/util/ArrayList" "elementData" "[Ljava/lang/Object;" (.ref eD) ∧ Fld Z h a "java/util/ArrayList" "size" "I" (.int (2 : Int32)) ∧ Arv Z h eD kE (.object "java/lang/Object") (10 : Int32) [(.ref j0), (.ref ra), .null, .null, .null, .null, .null, .null, .null, .null] .null
set_option maxRecDepth 65536 in
set_option maxHeartbeats 40000000 in
theorem rmA31 (l : Launch) (Z : State) (a0 : Array Value) (hw : ∀ d ∈ tables_1, d.before a0 Z = true) (ws : List Jvm.Cond) (a eD : Addr) (kE : ClassId) (mc : Int32) (j0 : Addr) (ra : Addr) (h0 : Heap) (n0 : Nat) (Z0 : n0 ≤ h0.size) (Ea : Exa Z h0 a "java/util/ArrayList") (ga : n0 ≤ a) (Fm : Fld Z h0 a "java/util/AbstractList" "modCount" "I" (.int mc)) (Fe : Fld Z h0 a "java/util/ArrayList" "elementData" "[Ljava/lang/Object;" (.ref eD)) (Fs : Fld Z h0 a "java/util/ArrayList" "size" "I" (.int (1 : Int32))) (Aed : Arv Z h0 eD kE (.object "java/lang/Object") (10 : Int32) [(.ref j0), .null, .null, .null, .null, .null, .null, .null, .null, .null] .null) (Oed : Ovr Z kE "java/lang/Object") (ged : n0 ≤ eD) (nad : a ≠ eD) (Ej : Exa Z h0 ra "com/example/redoubt/redoubt/engine/Job") :
    MetFree l mN20 (head1 (Jvm.Cond.code mN20 jdk_38_method_24_code 4 none :: ws) ({ frames := 0, cells := 0, slots := 0, locals := 0 } : Room)) (fun aa U => aa = #[(.ref a), (.ref ra), (.ref eD), (.int (1 : Int32))] ∧ Z.Warmed39 U.vm ∧ U.heap = h0) (fun _ _ _ _ _ => True) (fun _ u1_ o_ u2_ => ∃ v_ l_, o_ = .returned v_ ∧ QA31 Z a eD kE mc j0 ra h0 n0 v_ u2_.heap l_ ∧ FrameEnd u1_ o_ u2_ l_ ({ frames := 0, cells := 0, slots := 0, locals := 0 } : Room).cells ({ frames := 0, cells := 0, slots := 0, locals := 0 } : Room).slots) := by
  refine MetFree.of_bodySF (plainFor_of_name pn_java_util_ArrayList) hisR ?_
  intro p e s m args below meth c s₁ Bd hml0 hP hK
  obtain ⟨rfl, hZ, hh⟩ := hP
  have hx := Bd.exec
  have hby := Bd.bytes
  have hlk := BodyLoose.notSynchronized Bd
  have hret := Bd.returns
  have hml : c.maxLocals = 4 := hml0
  have hown : s.vm.findClass "java/util/ArrayList" = some m.cls := findClass_of_methodNamed Bd.named
  have hnm := (name_of_methodNamed Bd.named Bd.method).1
  have X0 : Stand p l e ({ frames := 0, cells := 0, slots := 0, locals := 0 } : Room) s m #[(.ref a), (.ref ra), (.ref eD), (.int (1 : Int32))] below meth c s₁ [] 0 0 := Stand.of_body Bd
  have e0 : s₁.heap = h0 := by rw [← hh, Bd.state]; rfl
  have N0 := Fr.nil n0
  refine Goes.st (E := (EN s (QA31 Z a eD kE mc j0 ra h0 n0) ({ frames := 0, cells := 0, slots := 0, locals := 0 } : Room).cells ({ frames := 0, cells := 0, slots := 0, locals := 0 } : Room).slots)) (fun tg kg => castTop (ef_A31 m a ra eD (1 : Int32)) kg) ?_
  have K0 : Keep h0 h0 [a, eD] := Keep.refl _ _
  show Gs p e below _ s₁ m 0 #[rv a, rv ra, rv eD, iv (1 : Int32)] []
  refine giloadN X0 hx (hb hby dj38_24_0) rfl ?_
  refine galoadN X0 hx (hb hby dj38_24_1) rfl rfl ?_
  obtain ⟨cl1, Ar1, qk1, Sz1, qz1, Ha1, Gf1⟩ := id Aed
  refine Goes.st (fun tg kg => X0.arraylength hx (cell := cl1) (by rw [e0]; exact Ar1.1) (State.isArrayOf_alike hZ.alike Ar1.2.1) (g := (mkF m 2 #[rv a, rv ra, rv eD, iv (1 : Int32)] [(.ref eD), (.int (1 : Int32))])) rfl (rest := [(.int (1 : Int32))]) rfl (hb hby dj38_24_2) tg kg) ?_
  rw [len_of Sz1 qz1]
  show Gs p e below _ s₁ m 3 #[rv a, rv ra, rv eD, iv (1 : Int32)] [(.int (10 : Int32)), (.int (1 : Int32))]
  refine gicmpYes X0 hx (pc := 3) (pc' := 11) (hb hby dj38_24_3) (by decide) (by decide) (by decide) ?_
  refine galoadN X0 hx (hb hby dj38_24_11) rfl rfl ?_
  refine giloadN X0 hx (hb hby dj38_24_12) rfl ?_
  refine galoadN X0 hx (hb hby dj38_24_13) rfl rfl ?_
  show Gs p e below _ s₁ m 14 #[rv a, rv ra, rv eD, iv (1 : Int32)] [(.ref ra), (.int (1 : Int32)), (.ref eD)]
  obtain ⟨cl2, Ar2, qk2, Sz2, qz2, Ha2, Gf2⟩ := id Aed
  obtain ⟨T2, h2, X2, e2, W2, st2⟩ := stR X0 hx hZ e0 Ar2 (inb_of Sz2 ⟨by decide, by decide⟩) rfl (Sto.ofV Ar2 qk2 Oed (Ins.of_exa Ej (hwk hw 141 rfl))) (g := (mkF m 14 #[rv a, rv ra, rv eD, iv (1 : Int32)] [(.ref ra), (.int (1 : Int32)), (.ref eD)])) rfl rfl (hb hby dj38_24_14)
  have N2 := Fr.snoc X2 N0 ged
  have V2 : Arv Z h2 eD kE (.object "java/lang/Object") (10 : Int32) [(.ref j0), (.ref ra), .null, .null, .null, .null, .null, .null, .null, .null] .null := Arv.set Ar2 qk2 Sz2 qz2 Ha2 Gf2 rfl W2 1 (by decide) (by simp)
  refine Goes.st st2 ?_
  have KK3 := K0.wr W2 (Or.inl (List.mem_of_getElem? (i := 1) rfl))
  have Z2 : n0 ≤ h2.size := by have := W2.size; have := Z0; omega
  show Gs p e below _ T2 m 15 #[rv a, rv ra, rv eD, iv (1 : Int32)] []
  refine galoadN X2 hx (hb hby dj38_24_15) rfl rfl ?_
  refine giloadN X2 hx (hb hby dj38_24_16) rfl ?_
  refine giconst X2 hx (hb hby dj38_24_17) ?_
  refine giadd X2 hx (hb hby dj38_24_18) trivial ?_
  show Gs p e below _ T2 m 19 #[rv a, rv ra, rv eD, iv (1 : Int32)] [(.int ((1 : Int32) + (1 : Int32))), (.ref a)]
  rw [show ((1 : Int32) + (1 : Int32)) = (2 : Int32) from by decide]
  show Gs p e below _ T2 m 19 #[rv a, rv ra, rv eD, iv (1 : Int32)] [(.int (2 : Int32)), (.ref a)]
  have f5 := (Fs.other W2 (Or.inl nad))
  have f6 := (Ea.wr W2)
  obtain ⟨T4, h4, X4, e4, W4, st4⟩ := putF X2 hx hZ hown (host := "") (Or.inl (hwk hw 121 rfl)) Via.refl e2 f5 f6 (Or.inl (hwk hw 122 rfl)) (hwk hw 10 rfl) (ty := .int) (by decide) rfl rfl (g := (mkF m 19 #[rv a, rv ra, rv eD, iv (1 : Int32)] [(.int (2 : Int32)), (.ref a)])) rfl rfl (hb hby dj38_24_19)
  have N4 := Fr.snoc X4 N2 ga
  have G4 := f5.same W4
  refine Goes.st st4 ?_
  have KK7 := KK3.wr W4 (Or.inl (List.mem_of_getElem? (i := 0) rfl))
  have Z4 : n0 ≤ h4.size := by have := W4.size; have := Z2; omega
  show Gs p e below _ T4 m 22 #[rv a, rv ra, rv eD, iv (1 : Int32)] []
  have f8 := ((Fm.other W2 (Or.inl nad)).other W4 (Or.inr (slot_ne (Or.inl (hwk hw 31 rfl)) (Or.inl (hwk hw 122 rfl)) (by decide) (t := .int) (t' := .int) (by decide) (by decide))))
  have f9 := ((Fe.other W2 (Or.inl nad)).other W4 (Or.inr (slot_ne (Or.inl (hwk hw 34 rfl)) (Or.inl (hwk hw 122 rfl)) (by decide) (t := (.array (.object "java/lang/Object"))) (t' := .int) (by decide) (by decide))))
  have f10 := (V2.other W4 (Ne.symm nad))
  refine Goes.retV X4 hx hret (hb hby dj38_24_22) (lvN X4 hlk (fun _ => rfl) ?_ (by decide) (by decide))
  rw [e4]
  exact ⟨rfl, N4, KK7, f8, f9, G4, f10⟩
theorem ef_A11 (m : MethodId) (x0 : Addr) (x1 : Addr) : entryFrame m #[(.ref x0), (.ref x1)] 2 = mkF m 0 #[rv x0, rv x1] [] := by first | (simp [entryFrame, mkF, argsToLocals, Value.category]; done) | rfl
def QA11 (Z : State) (a eD : Addr) (kE : ClassId) (mc : Int32) (j0 : Addr) (ra : Addr) (h0 : Heap) (n0 : Nat) (v : Option Value) (h : Heap) (L : List Loc) : Prop := v = some (.int 1) ∧ Fr n0 L ∧ Keep h0 h [a, eD] ∧ Fld Z h a "java/util/AbstractList" "modCount" "I" (.int (mc + (1 : Int32))) ∧ Fld Z h a "java/util/ArrayList" "elementData" "[Ljava/lang/Object;" (.ref eD) ∧ Fld Z h a "java/util/ArrayList" "size" "I" (.int (2 : Int32)) ∧ Arv Z h eD kE (.object "java/lang/Object") (10 : Int32) [(.ref j0), (.ref ra), .null, .null, .null, .null, .null, .null, .null, .null] .null
set_option maxRecDepth 65536 in
set_option maxHeartbeats 40000000 in
theorem rmA11 (l : Launch) (Z : State) (a0 : Array Value) (hw : ∀ d ∈ tables_1, d.before a0 Z = true) (ws : List Jvm.Cond) (a eD : Addr) (kE : ClassId) (mc : Int32) (j0 : Addr) (ra : Addr) (h0 : Heap) (n0 : Nat) (Z0 : n0 ≤ h0.size) (Ea : Exa Z h0 a "java/util/ArrayList") (ga : n0 ≤ a) (Fm : Fld Z h0 a "java/util/AbstractList" "modCount" "I" (.int mc)) (Fe : Fld Z h0 a "java/util/ArrayList" "elementData" "[Ljava/lang/Object;" (.ref eD)) (Fs : Fld Z h0 a "java/util/ArrayList" "size" "I" (.int (1 : Int32))) (Aed : Arv Z h0 eD kE (.object "java/lang/Object") (10 : Int32) [(.ref j0), .null, .null, .null, .null, .null, .null, .null, .null, .null] .null) (Oed : Ovr Z kE "java/lang/Object") (ged : n0 ≤ eD) (nad : a ≠ eD) (Ej : Exa Z h0 ra "com/example/redoubt/redoubt/engine/Job") :
    MetFree l mN21 (head1 (Jvm.Cond.code mN21 jdk_38_method_25_code 2 (some .boolean) :: ws) ({ frames := 1, cells := 0, slots := 0, locals := 15 } : Room)) (fun aa U => aa = #[(.ref a), (.ref ra)] ∧ Z.Warmed39 U.vm ∧ U.heap = h0) (fun _ _ _ _ _ => True) (fun _ u1_ o_ u2_ => ∃ v_ l_, o_ = .returned v_ ∧ QA11 Z a eD kE mc j0 ra h0 n0 v_ u2_.heap l_ ∧ FrameEnd u1_ o_ u2_ l_ ({ frames := 1, cells := 0, slots := 0, locals := 15 } : Room).cells ({ frames := 1, cells := 0, slots := 0, locals := 15 } : Room).slots) := by
  refine MetFree.of_bodySF (plainFor_of_name pn_java_util_ArrayList) hisR ?_
  intro p e s m args below meth c s₁ Bd hml0 hP hK
  obtain ⟨rfl, hZ, hh⟩ := hP
  have hx := Bd.exec
  have hby := Bd.bytes
  have hlk := BodyLoose.notSynchronized Bd
  have hret := Bd.returns
  have hml : c.maxLocals = 2 := hml0
  have hown : s.vm.findClass "java/util/ArrayList" = some m.cls := findClass_of_methodNamed Bd.named
  have hnm := (name_of_methodNamed Bd.named Bd.method).1
  have X0 : Stand p l e ({ frames := 1, cells := 0, slots := 0, locals := 15 } : Room) s m #[(.ref a), (.ref ra)] below meth c s₁ [] 0 0 := Stand.of_body Bd
  have e0 : s₁.heap = h0 := by rw [← hh, Bd.state]; rfl
  have N0 := Fr.nil n0
  refine Goes.st (E := (EN s (QA11 Z a eD kE mc j0 ra h0 n0) ({ frames := 1, cells := 0, slots := 0, locals := 15 } : Room).cells ({ frames := 1, cells := 0, slots := 0, locals := 15 } : Room).slots)) (fun tg kg => castTop (ef_A11 m a ra) kg) ?_
  have K0 : Keep h0 h0 [a, eD] := Keep.refl _ _
  show Gs p e below _ s₁ m 0 #[rv a, rv ra] []
  refine galoadN X0 hx (hb hby dj38_25_0) rfl rfl ?_
  refine gdup X0 hx (hb hby dj38_25_1) trivial rfl ?_
  obtain ⟨T1, X1, e1, st1⟩ := getF X0 hx hZ hown (host := "") (Or.inl (hwk hw 119 rfl)) (Via.of (hwk hw 120 rfl)) e0 Fm (g := (mkF m 2 #[rv a, rv ra] [(.ref a), (.ref a)])) rfl rfl (hb hby dj38_25_2)
  refine Goes.st st1 ?_
  refine giconst X1 hx (hb hby dj38_25_5) ?_
  refine giadd X1 hx (hb hby dj38_25_6) trivial ?_
  obtain ⟨T2, h2, X2, e2, W2, st2⟩ := putF X1 hx hZ hown (host := "") (Or.inl (hwk hw 119 rfl)) (Via.of (hwk hw 120 rfl)) e1 Fm Ea (Or.inl (hwk hw 31 rfl)) (hwk hw 10 rfl) (ty := .int) (by decide) rfl rfl (g := (mkF m 7 #[rv a, rv ra] [(.int (mc + (1 : Int32))), (.ref a)])) rfl rfl (hb hby dj38_25_7)
  have N2 := Fr.snoc X2 N0 ga
  have G2 := Fm.same W2
  refine Goes.st st2 ?_
  have KK3 := K0.wr W2 (Or.inl (List.mem_of_getElem? (i := 0) rfl))
  have Z2 : n0 ≤ h2.size := by have := W2.size; have := Z0; omega
  show Gs p e below _ T2 m 10 #[rv a, rv ra] []
  refine galoadN X2 hx (hb hby dj38_25_10) rfl rfl ?_
  refine galoadN X2 hx (hb hby dj38_25_11) rfl rfl ?_
  refine galoadN X2 hx (hb hby dj38_25_12) rfl rfl ?_
  have f5 := (Fe.other W2 (Or.inr (slot_ne (Or.inl (hwk hw 34 rfl)) (Or.inl (hwk hw 31 rfl)) (by decide) (t := (.array (.object "java/lang/Object"))) (t' := .int) (by decide) (by decide))))
  obtain ⟨T4, X4, e4, st4⟩ := getF X2 hx hZ hown (host := "") (Or.inl (hwk hw 33 rfl)) Via.refl e2 f5 (g := (mkF m 13 #[rv a, rv ra] [(.ref a), (.ref ra), (.ref a)])) rfl rfl (hb hby dj38_25_13)
  refine Goes.st st4 ?_
  refine galoadN X4 hx (hb hby dj38_25_16) rfl rfl ?_
  have f7 := (Fs.other W2 (Or.inr (slot_ne (Or.inl (hwk hw 122 rfl)) (Or.inl (hwk hw 31 rfl)) (by decide) (t := .int) (t' := .int) (by decide) (by decide))))
  obtain ⟨T6, X6, e6, st6⟩ := getF X4 hx hZ hown (host := "") (Or.inl (hwk hw 121 rfl)) Via.refl e4 f7 (g := (mkF m 17 #[rv a, rv ra] [(.ref a), (.ref eD), (.ref ra), (.ref a)])) rfl rfl (hb hby dj38_25_17)
  refine Goes.st st6 ?_
  have f8 := (Ea.wr W2)
  have f9 := (Aed.other W2 (Ne.symm nad))
  have f10 := (Ej.wr W2)
  obtain ⟨cc11, qa11, qb11⟩ := Exa.cell f8
  obtain ⟨_, _, ⟨T11, L11, k11, n11⟩, -, X11, ⟨Lc11, hQ11, l11, y11, z11⟩, st11⟩ := X6.privateBack hx (y := mN20) hown (mvT hZ (hwk hw 123 rfl)) (mvT hZ (hwk hw 124 rfl)) (selP (y := mN20) (as := #[]) (mvT hZ (hwk hw 10 rfl)) (mvP hZ (hwk hw 125 rfl)) (mvT hZ (hwk hw 124 rfl)) (by decide)) (Cond.privateMethod_at (mvP hZ (hwk hw 125 rfl) (args := #[]))) (mvT hZ (hwk hw 127 rfl)) (by decide) (backOf (W := 0) (rmA31 l Z a0 hw [] a eD kE (mc + (1 : Int32)) j0 ra h2 n0 Z2 f8 ga G2 f5 f7 f9 Oed ged nad f10) hZ (hwk hw 127 rfl) (hwk hw 11 rfl) (by decide) (by decide)) (g := (mkF m 20 #[rv a, rv ra] [(.int (1 : Int32)), (.ref eD), (.ref ra), (.ref a)])) rfl (by rw [hml]; rfl) (Steps.refl _) (a := a) (by rw [e6]; exact qa11) qb11 (argsL := [(.ref ra), (.ref eD), (.int (1 : Int32))]) (rest := []) (lenOf pd__Ljava_lang_Object__Ljava_lang_Object_I_V_7fbe rfl) rfl (by show 2 * 0 + _ ≤ _; exact Nat.le_of_eq rfl) (hb hby dj38_25_20) (fun _ _ => ⟨rfl, e6, (by decide : 0 + 0 ≤ 0), (by decide : 0 + 0 ≤ 0)⟩)
  dsimp only [Pt.U, Pt.locs, Pt.cells, Pt.slots] at X11 l11 y11 z11 st11 hQ11
  subst l11 y11 z11
  obtain ⟨rfl, N11q, K11, R11_0, R11_1, R11_2, VE11⟩ := hQ11
  have KK12 := KK3.trans K11 (allS (Or.inl (List.mem_of_getElem? (i := 0) rfl)) (allS (Or.inl (List.mem_of_getElem? (i := 1) rfl)) all0))
  have Z11 : n0 ≤ T11.heap.size := Nat.le_trans Z2 K11.1
  have N11 := Fr.app N2 N11q
  refine Goes.sts st11 ?_
  show Gs p e below _ T11 m 23 #[rv a, rv ra] []
  refine giconst X11 hx (hb hby dj38_25_23) ?_
  refine Goes.retN X11 hx hret (by simp) (hb hby dj38_25_24) (by decide) (lvN X11 hlk (vsome hret) ?_ (by decide) (by decide))
  exact ⟨rfl, N11, KK12, R11_0, R11_1, R11_2, VE11⟩
theorem ef_A32 (m : MethodId) (x0 : Addr) (x1 : Addr) (x2 : Addr) (x3 : Int32) : entryFrame m #[(.ref x0), (.ref x1), (.ref x2), (.int x3)] 4 = mkF m 0 #[rv x0, rv x1, rv x2, iv x3] [] := by first | (simp [entryFrame, mkF, argsToLocals, Value.category]; done) | rfl
def QA32 (Z : State) (a eD : Addr) (kE : ClassId) (mc : Int32) (j0 j1 : Addr) (ra : Addr) (h0 : Heap) (n0 : Nat) (v : Option Value) (h : Heap) (L : List Loc) : Prop := v = none ∧ Fr n0 L ∧ Keep h0 h [a, eD] ∧ Fld Z h a "java/util/AbstractList" "modCount" "I" (.int mc) ∧ Fld Z h a "java/util/ArrayList" "elementData" "[Ljava/lang/Object;" (.ref eD) ∧ Fld Z h a "java/util/ArrayList" "size" "I" (.int (3 : Int32)) ∧ Arv Z h eD kE (.object "java/lang/Object") (10 : Int32) [(.ref j0), (.ref j1), (.ref ra), .null, .null, .null, .null, .null, .null, .null] .null
set_option maxRecDepth 65536 in
set_option maxHeartbeats 40000000 in
theorem rmA32 (l : Launch) (Z : State) (a0 : Array Value) (hw : ∀ d ∈ tables_1, d.before a0 Z = true) (ws : List Jvm.Cond) (a eD : Addr) (kE : ClassId) (mc : Int32) (j0 j1 : Addr) (ra : Addr) (h0 : Heap) (n0 : Nat) (Z0 : n0 ≤ h0.size) (Ea : Exa Z h0 a "java/util/ArrayList") (ga : n0 ≤ a) (Fm : Fld Z h0 a "java/util/AbstractList" "modCount" "I" (.int mc)) (Fe : Fld Z h0 a "java/util/ArrayList" "elementData" "[Ljava/lang/Object;" (.ref eD)) (Fs : Fld Z h0 a "java/util/ArrayList" "size" "I" (.int (2 : Int32))) (Aed : Arv Z h0 eD kE (.object "java/lang/Object") (10 : Int32) [(.ref j0), (.ref j1), .null, .null, .null, .null, .null, .null, .null, .null] .null) (Oed : Ovr Z kE "java/lang/Object") (ged : n0 ≤ eD) (nad : a ≠ eD) (Ej : Exa Z h0 ra "com/example/redoubt/redoubt/engine/Job") :
    MetFree l mN20 (head1 (Jvm.Cond.code mN20 jdk_38_method_24_code 4 none :: ws) ({ frames := 0, cells := 0, slots := 0, locals := 0 } : Room)) (fun aa U => aa = #[(.ref a), (.ref ra), (.ref eD), (.int (2 : Int32))] ∧ Z.Warmed39 U.vm ∧ U.heap = h0) (fun _ _ _ _ _ => True) (fun _ u1_ o_ u2_ => ∃ v_ l_, o_ = .returned v_ ∧ QA32 Z a eD kE mc j0 j1 ra h0 n0 v_ u2_.heap l_ ∧ FrameEnd u1_ o_ u2_ l_ ({ frames := 0, cells := 0, slots := 0, locals := 0 } : Room).cells ({ frames := 0, cells := 0, slots := 0, locals := 0 } : Room).slots) := by
  refine MetFree.of_bodySF (plainFor_of_name pn_java_util_ArrayList) hisR ?_
  intro p e s m args below meth c s₁ Bd hml0 hP hK
  obtain ⟨rfl, hZ, hh⟩ := hP
  have hx := Bd.exec
  have hby := Bd.bytes
  have hlk := BodyLoose.notSynchronized Bd
  have hret := Bd.returns
  have hml : c.maxLocals = 4 := hml0
  have hown : s.vm.findClass "java/util/ArrayList" = some m.cls := findClass_of_methodNamed Bd.named
  have hnm := (name_of_methodNamed Bd.named Bd.method).1
  have X0 : Stand p l e ({ frames := 0, cells := 0, slots := 0, locals := 0 } : Room) s m #[(.ref a), (.ref ra), (.ref eD), (.int (2 : Int32))] below meth c s₁ [] 0 0 := Stand.of_body Bd
  have e0 : s₁.heap = h0 := by rw [← hh, Bd.state]; rfl
  have N0 := Fr.nil n0
  refine Goes.st (E := (EN s (QA32 Z a eD kE mc j0 j1 ra h0 n0) ({ frames := 0, cells := 0, slots := 0, locals := 0 } : Room).cells ({ frames := 0, cells := 0, slots := 0, locals := 0 } : Room).slots)) (fun tg kg => castTop (ef_A32 m a ra eD (2 : Int32)) kg) ?_
  have K0 : Keep h0 h0 [a, eD] := Keep.refl _ _
  show Gs p e below _ s₁ m 0 #[rv a, rv ra, rv eD, iv (2 : Int32)] []
  refine giloadN X0 hx (hb hby dj38_24_0) rfl ?_
  refine galoadN X0 hx (hb hby dj38_24_1) rfl rfl ?_
  obtain ⟨cl1, Ar1, qk1, Sz1, qz1, Ha1, Gf1⟩ := id Aed
  refine Goes.st (fun tg kg => X0.arraylength hx (cell := cl1) (by rw [e0]; exact Ar1.1) (State.isArrayOf_alike hZ.alike Ar1.2.1) (g := (mkF m 2 #[rv a, rv ra, rv eD, iv (2 : Int32)] [(.ref eD), (.int (2 : Int32))])) rfl (rest := [(.int (2 : Int32))]) rfl (hb hby dj38_24_2) tg kg) ?_
  rw [len_of Sz1 qz1]
  show Gs p e below _ s₁ m 3 #[rv a, rv ra, rv eD, iv (2 : Int32)] [(.int (10 : Int32)), (.int (2 : Int32))]
  refine gicmpYes X0 hx (pc := 3) (pc' := 11) (hb hby dj38_24_3) (by decide) (by decide) (by decide) ?_
  refine galoadN X0 hx (hb hby dj38_24_11) rfl rfl ?_
  refine giloadN X0 hx (hb hby dj38_24_12) rfl ?_
  refine galoadN X0 hx (hb hby dj38_24_13) rfl rfl ?_
  show Gs p e below _ s₁ m 14 #[rv a, rv ra, rv eD, iv (2 : Int32)] [(.ref ra), (.int (2 : Int32)), (.ref eD)]
  obtain ⟨cl2, Ar2, qk2, Sz2, qz2, Ha2, Gf2⟩ := id Aed
  obtain ⟨T2, h2, X2, e2, W2, st2⟩ := stR X0 hx hZ e0 Ar2 (inb_of Sz2 ⟨by decide, by decide⟩) rfl (Sto.ofV Ar2 qk2 Oed (Ins.of_exa Ej (hwk hw 141 rfl))) (g := (mkF m 14 #[rv a, rv ra, rv eD, iv (2 : Int32)] [(.ref ra), (.int (2 : Int32)), (.ref eD)])) rfl rfl (hb hby dj38_24_14)
  have N2 := Fr.snoc X2 N0 ged
  have V2 : Arv Z h2 eD kE (.object "java/lang/Object") (10 : Int32) [(.ref j0), (.ref j1), (.ref ra), .null, .null, .null, .null, .null, .null, .null] .null := Arv.set Ar2 qk2 Sz2 qz2 Ha2 Gf2 rfl W2 2 (by decide) (by simp)
  refine Goes.st st2 ?_
  have KK3 := K0.wr W2 (Or.inl (List.mem_of_getElem? (i := 1) rfl))
  have Z2 : n0 ≤ h2.size := by have := W2.size; have := Z0; omega
  show Gs p e below _ T2 m 15 #[rv a, rv ra, rv eD, iv (2 : Int32)] []
  refine galoadN X2 hx (hb hby dj38_24_15) rfl rfl ?_
  refine giloadN X2 hx (hb hby dj38_24_16) rfl ?_
  refine giconst X2 hx (hb hby dj38_24_17) ?_
  refine giadd X2 hx (hb hby dj38_24_18) trivial ?_
  show Gs p e below _ T2 m 19 #[rv a, rv ra, rv eD, iv (2 : Int32)] [(.int ((2 : Int32) + (1 : Int32))), (.ref a)]
  rw [show ((2 : Int32) + (1 : Int32)) = (3 : Int32) from by decide]
  show Gs p e below _ T2 m 19 #[rv a, rv ra, rv eD, iv (2 : Int32)] [(.int (3 : Int32)), (.ref a)]
  have f5 := (Fs.other W2 (Or.inl nad))
  have f6 := (Ea.wr W2)
  obtain ⟨T4, h4, X4, e4, W4, st4⟩ := putF X2 hx hZ hown (host := "") (Or.inl (hwk hw 121 rfl)) Via.refl e2 f5 f6 (Or.inl (hwk hw 122 rfl)) (hwk hw 10 rfl) (ty := .int) (by decide) rfl rfl (g := (mkF m 19 #[rv a, rv ra, rv eD, iv (2 : Int32)] [(.int (3 : Int32)), (.ref a)])) rfl rfl (hb hby dj38_24_19)
  have N4 := Fr.snoc X4 N2 ga
  have G4 := f5.same W4
  refine Goes.st st4 ?_
  have KK7 := KK3.wr W4 (Or.inl (List.mem_of_getElem? (i := 0) rfl))
  have Z4 : n0 ≤ h4.size := by have := W4.size; have := Z2; omega
  show Gs p e below _ T4 m 22 #[rv a, rv ra, rv eD, iv (2 : Int32)] []
  have f8 := ((Fm.other W2 (Or.inl nad)).other W4 (Or.inr (slot_ne (Or.inl (hwk hw 31 rfl)) (Or.inl (hwk hw 122 rfl)) (by decide) (t := .int) (t' := .int) (by decide) (by decide))))
  have f9 := ((Fe.other W2 (Or.inl nad)).other W4 (Or.inr (slot_ne (Or.inl (hwk hw 34 rfl)) (Or.inl (hwk hw 122 rfl)) (by decide) (t := (.array (.object "java/lang/Object"))) (t' := .int) (by decide) (by decide))))
  have f10 := (V2.other W4 (Ne.symm nad))
  refine Goes.retV X4 hx hret (hb hby dj38_24_22) (lvN X4 hlk (fun _ => rfl) ?_ (by decide) (by decide))
  rw [e4]
  exact ⟨rfl, N4, KK7, f8, f9, G4, f10⟩
theorem ef_A12 (m : MethodId) (x0 : Addr) (x1 : Addr) : entryFrame m #[(.ref x0), (.ref x1)] 2 = mkF m 0 #[rv x0, rv x1] [] := by first | (simp [entryFrame, mkF, argsToLocals, Value.category]; done) | rfl
def QA12 (Z : State) (a eD : Addr) (kE : ClassId) (mc : Int32) (j0 j1 : Addr) (ra : Addr) (h0 : Heap) (n0 : Nat) (v : Option Value) (h : Heap) (L : List Loc) : Prop := v = some (.int 1) ∧ Fr n0 L ∧ Keep h0 h [a, eD] ∧ Fld Z h a "java/util/AbstractList" "modCount" "I" (.int (mc + (1 : Int32))) ∧ Fld Z h a "java/util/ArrayList" "elementData" "[Ljava/lang/Object;" (.ref eD) ∧ Fld Z h a "java/util/ArrayList" "size" "I" (.int (3 : Int32)) ∧ Arv Z h eD kE (.object "java/lang/Object") (10 : Int32) [(.ref j0), (.ref j1), (.ref ra), .null, .null, .null, .null, .null, .null, .null] .null
set_option maxRecDepth 65536 in
set_option maxHeartbeats 40000000 in
theorem rmA12 (l : Launch) (Z : State) (a0 : Array Value) (hw : ∀ d ∈ tables_1, d.before a0 Z = true) (ws : List Jvm.Cond) (a eD : Addr) (kE : ClassId) (mc : Int32) (j0 j1 : Addr) (ra : Addr) (h0 : Heap) (n0 : Nat) (Z0 : n0 ≤ h0.size) (Ea : Exa Z h0 a "java/util/ArrayList") (ga : n0 ≤ a) (Fm : Fld Z h0 a "java/util/AbstractList" "modCount" "I" (.int mc)) (Fe : Fld Z h0 a "java/util/ArrayList" "elementData" "[Ljava/lang/Object;" (.ref eD)) (Fs : Fld Z h0 a "java/util/ArrayList" "size" "I" (.int (2 : Int32))) (Aed : Arv Z h0 eD kE (.object "java/lang/Object") (10 : Int32) [(.ref j0), (.ref j1), .null, .null, .null, .null, .null, .null, .null, .null] .null) (Oed : Ovr Z kE "java/lang/Object") (ged : n0 ≤ eD) (nad : a ≠ eD) (Ej : Exa Z h0 ra "com/example/redoubt/redoubt/engine/Job") :
    MetFree l mN21 (head1 (Jvm.Cond.code mN21 jdk_38_method_25_code 2 (some .boolean) :: ws) ({ frames := 1, cells := 0, slots := 0, locals := 15 } : Room)) (fun aa U => aa = #[(.ref a), (.ref ra)] ∧ Z.Warmed39 U.vm ∧ U.heap = h0) (fun _ _ _ _ _ => True) (fun _ u1_ o_ u2_ => ∃ v_ l_, o_ = .returned v_ ∧ QA12 Z a eD kE mc j0 j1 ra h0 n0 v_ u2_.heap l_ ∧ FrameEnd u1_ o_ u2_ l_ ({ frames := 1, cells := 0, slots := 0, locals := 15 } : Room).cells ({ frames := 1, cells := 0, slots := 0, locals := 15 } : Room).slots) := by
  refine MetFree.of_bodySF (plainFor_of_name pn_java_util_ArrayList) hisR ?_
  intro p e s m args below meth c s₁ Bd hml0 hP hK
  obtain ⟨rfl, hZ, hh⟩ := hP
  have hx := Bd.exec
  have hby := Bd.bytes
  have hlk := BodyLoose.notSynchronized Bd
  have hret := Bd.returns
  have hml : c.maxLocals = 2 := hml0
  have hown : s.vm.findClass "java/util/ArrayList" = some m.cls := findClass_of_methodNamed Bd.named
  have hnm := (name_of_methodNamed Bd.named Bd.method).1
  have X0 : Stand p l e ({ frames := 1, cells := 0, slots := 0, locals := 15 } : Room) s m #[(.ref a), (.ref ra)] below meth c s₁ [] 0 0 := Stand.of_body Bd
  have e0 : s₁.heap = h0 := by rw [← hh, Bd.state]; rfl
  have N0 := Fr.nil n0
  refine Goes.st (E := (EN s (QA12 Z a eD kE mc j0 j1 ra h0 n0) ({ frames := 1, cells := 0, slots := 0, locals := 15 } : Room).cells ({ frames := 1, cells := 0, slots := 0, locals := 15 } : Room).slots)) (fun tg kg => castTop (ef_A12 m a ra) kg) ?_
  have K0 : Keep h0 h0 [a, eD] := Keep.refl _ _
  show Gs p e below _ s₁ m 0 #[rv a, rv ra] []
  refine galoadN X0 hx (hb hby dj38_25_0) rfl rfl ?_
  refine gdup X0 hx (hb hby dj38_25_1) trivial rfl ?_
  obtain ⟨T1, X1, e1, st1⟩ := getF X0 hx hZ hown (host := "") (Or.inl (hwk hw 119 rfl)) (Via.of (hwk hw 120 rfl)) e0 Fm (g := (mkF m 2 #[rv a, rv ra] [(.ref a), (.ref a)])) rfl rfl (hb hby dj38_25_2)
  refine Goes.st st1 ?_
  refine giconst X1 hx (hb hby dj38_25_5) ?_
  refine giadd X1 hx (hb hby dj38_25_6) trivial ?_
  obtain ⟨T2, h2, X2, e2, W2, st2⟩ := putF X1 hx hZ hown (host := "") (Or.inl (hwk hw 119 rfl)) (Via.of (hwk hw 120 rfl)) e1 Fm Ea (Or.inl (hwk hw 31 rfl)) (hwk hw 10 rfl) (ty := .int) (by decide) rfl rfl (g := (mkF m 7 #[rv a, rv ra] [(.int (mc + (1 : Int32))), (.ref a)])) rfl rfl (hb hby dj38_25_7)
  have N2 := Fr.snoc X2 N0 ga
  have G2 := Fm.same W2
  refine Goes.st st2 ?_
  have KK3 := K0.wr W2 (Or.inl (List.mem_of_getElem? (i := 0) rfl))
  have Z2 : n0 ≤ h2.size := by have := W2.size; have := Z0; omega
  show Gs p e below _ T2 m 10 #[rv a, rv ra] []
  refine galoadN X2 hx (hb hby dj38_25_10) rfl rfl ?_
  refine galoadN X2 hx (hb hby dj38_25_11) rfl rfl ?_
  refine galoadN X2 hx (hb hby dj38_25_12) rfl rfl ?_
  have f5 := (Fe.other W2 (Or.inr (slot_ne (Or.inl (hwk hw 34 rfl)) (Or.inl (hwk hw 31 rfl)) (by decide) (t := (.array (.object "java/lang/Object"))) (t' := .int) (by decide) (by decide))))
  obtain ⟨T4, X4, e4, st4⟩ := getF X2 hx hZ hown (host := "") (Or.inl (hwk hw 33 rfl)) Via.refl e2 f5 (g := (mkF m 13 #[rv a, rv ra] [(.ref a), (.ref ra), (.ref a)])) rfl rfl (hb hby dj38_25_13)
  refine Goes.st st4 ?_
  refine galoadN X4 hx (hb hby dj38_25_16) rfl rfl ?_
  have f7 := (Fs.other W2 (Or.inr (slot_ne (Or.inl (hwk hw 122 rfl)) (Or.inl (hwk hw 31 rfl)) (by decide) (t := .int) (t' := .int) (by decide) (by decide))))
  obtain ⟨T6, X6, e6, st6⟩ := getF X4 hx hZ hown (host := "") (Or.inl (hwk hw 121 rfl)) Via.refl e4 f7 (g := (mkF m 17 #[rv a, rv ra] [(.ref a), (.ref eD), (.ref ra), (.ref a)])) rfl rfl (hb hby dj38_25_17)
  refine Goes.st st6 ?_
  have f8 := (Ea.wr W2)
  have f9 := (Aed.other W2 (Ne.symm nad))
  have f10 := (Ej.wr W2)
  obtain ⟨cc11, qa11, qb11⟩ := Exa.cell f8
  obtain ⟨_, _, ⟨T11, L11, k11, n11⟩, -, X11, ⟨Lc11, hQ11, l11, y11, z11⟩, st11⟩ := X6.privateBack hx (y := mN20) hown (mvT hZ (hwk hw 123 rfl)) (mvT hZ (hwk hw 124 rfl)) (selP (y := mN20) (as := #[]) (mvT hZ (hwk hw 10 rfl)) (mvP hZ (hwk hw 125 rfl)) (mvT hZ (hwk hw 124 rfl)) (by decide)) (Cond.privateMethod_at (mvP hZ (hwk hw 125 rfl) (args := #[]))) (mvT hZ (hwk hw 127 rfl)) (by decide) (backOf (W := 0) (rmA32 l Z a0 hw [] a eD kE (mc + (1 : Int32)) j0 j1 ra h2 n0 Z2 f8 ga G2 f5 f7 f9 Oed ged nad f10) hZ (hwk hw 127 rfl) (hwk hw 11 rfl) (by decide) (by decide)) (g := (mkF m 20 #[rv a, rv ra] [(.int (2 : Int32)), (.ref eD), (.ref ra), (.ref a)])) rfl (by rw [hml]; rfl) (Steps.refl _) (a := a) (by rw [e6]; exact qa11) qb11 (argsL := [(.ref ra), (.ref eD), (.int (2 : Int32))]) (rest := []) (lenOf pd__Ljava_lang_Object__Ljava_lang_Object_I_V_7fbe rfl) rfl (by show 2 * 0 + _ ≤ _; exact Nat.le_of_eq rfl) (hb hby dj38_25_20) (fun _ _ => ⟨rfl, e6, (by decide : 0 + 0 ≤ 0), (by decide : 0 + 0 ≤ 0)⟩)
  dsimp only [Pt.U, Pt.locs, Pt.cells, Pt.slots] at X11 l11 y11 z11 st11 hQ11
  subst l11 y11 z11
  obtain ⟨rfl, N11q, K11, R11_0, R11_1, R11_2, VE11⟩ := hQ11
  have KK12 := KK3.trans K11 (allS (Or.inl (List.mem_of_getElem? (i := 0) rfl)) (allS (Or.inl (List.mem_of_getElem? (i := 1) rfl)) all0))
  have Z11 : n0 ≤ T11.heap.size := Nat.le_trans Z2 K11.1
  have N11 := Fr.app N2 N11q
  refine Goes.sts st11 ?_
  show Gs p e below _ T11 m 23 #[rv a, rv ra] []
  refine giconst X11 hx (hb hby dj38_25_23) ?_
  refine Goes.retN X11 hx hret (by simp) (hb hby dj38_25_24) (by decide) (lvN X11 hlk (vsome hret) ?_ (by decide) (by decide))
  exact ⟨rfl, N11, KK12, R11_0, R11_1, R11_2, VE11⟩
theorem dj31_17_0 : decode jdk_31_method_17_code 0 = .ok (.iload_n 0, 1) := by decide +kernel
theorem dj31_17_1 : decode jdk_31_method_17_code 1 = .ok (.iload_n 1, 1) := by decide +kernel
theorem dj31_17_2 : decode jdk_31_method_17_code 2 = .ok (.aconst_null, 1) := by decide +kernel
theorem dj31_17_3 : decode jdk_31_method_17_code 3 = .ok (.invokestatic 105, 3) := by decide +kernel
theorem dj31_17_6 : decode jdk_31_method_17_code 6 = .ok (.ireturn, 1) := by decide +kernel
theorem ef_Oc (m : MethodId) (x0 : Int32) (x1 : Int32) : entryFrame m #[(.int x0), (.int x1)] 2 = mkF m 0 #[iv x0, iv x1] [] := by first | (simp [entryFrame, mkF, argsToLocals, Value.category]; done) | rfl
def QOc (Z : State) (ix nn : Int32) (h0 : Heap) (n0 : Nat) (v : Option Value) (h : Heap) (L : List Loc) : Prop := v = some (.int ix) ∧ Fr n0 L ∧ h = h0
set_option maxRecDepth 65536 in
set_option maxHeartbeats 40000000 in
theorem rmOc (l : Launch) (Z : State) (a0 : Array Value) (hw : ∀ d ∈ tables_1, d.before a0 Z = true) (ws : List Jvm.Cond) (ix nn : Int32) (h0 : Heap) (n0 : Nat) (Z0 : n0 ≤ h0.size) (hi1 : ¬ ix < (0 : Int32)) (hi2 : ix < nn) :
    MetFree l mN22 (head1 (Jvm.Cond.code mN22 jdk_31_method_17_code 2 (some .int) :: ws) ({ frames := 1, cells := 0, slots := 0, locals := 14 } : Room)) (fun aa U => aa = #[(.int ix), (.int nn)] ∧ Z.Warmed39 U.vm ∧ U.heap = h0) (fun _ _ _ _ _ => True) (fun _ u1_ o_ u2_ => ∃ v_ l_, o_ = .returned v_ ∧ QOc Z ix nn h0 n0 v_ u2_.heap l_ ∧ FrameEnd u1_ o_ u2_ l_ ({ frames := 1, cells := 0, slots := 0, locals := 14 } : Room).cells ({ frames := 1, cells := 0, slots := 0, locals := 14 } : Room).slots) := by
  refine MetFree.of_bodySF (plainFor_of_name pn_java_util_Objects) hisR ?_
  intro p e s m args below meth c s₁ Bd hml0 hP hK
  obtain ⟨rfl, hZ, hh⟩ := hP
  have hx := Bd.exec
  have hby := Bd.bytes
  have hlk := BodyLoose.notSynchronized Bd
  have hret := Bd.returns
  have hml : c.maxLocals = 2 := hml0
  have hown : s.vm.findClass "java/util/Objects" = some m.cls := findClass_of_methodNamed Bd.named
  have hnm := (name_of_methodNamed Bd.named Bd.method).1
  have X0 : Stand p l e ({ frames := 1, cells := 0, slots := 0, locals := 14 } : Room) s m #[(.int ix), (.int nn)] below meth c s₁ [] 0 0 := Stand.of_body Bd
  have e0 : s₁.heap = h0 := by rw [← hh, Bd.state]; rfl
  have N0 := Fr.nil n0
  refine Goes.st (E := (EN s (QOc Z ix nn h0 n0) ({ frames := 1, cells := 0, slots := 0, locals := 14 } : Room).cells ({ frames := 1, cells := 0, slots := 0, locals := 14 } : Room).slots)) (fun tg kg => castTop (ef_Oc m ix nn) kg) ?_
  show Gs p e below _ s₁ m 0 #[iv ix, iv nn] []
  refine giloadN X0 hx (hb hby dj31_17_0) rfl ?_
  refine giloadN X0 hx (hb hby dj31_17_1) rfl ?_
  refine Goes.st (fun tg kg => XS.aconstNull X0.here hx rfl (hb hby dj31_17_2) kg) ?_
  obtain ⟨_, _, ⟨T1, L1, k1, n1⟩, -, X1, ⟨Lc1, hQ1, l1, y1, z1⟩, st1⟩ := Jvm.LawKit.callS X0 hx (y := mN9) hown (mvT hZ (hwk hw 174 rfl)) (mvT hZ (hwk hw 105 rfl)) (mvT hZ (hwk hw 103 rfl)) (mvT hZ (hwk hw 106 rfl)) (by decide) (backOf (W := 0) (rmPcN l Z a0 hw [] ix nn h0 n0 Z0 hi1 hi2) hZ (hwk hw 106 rfl) (hwk hw 103 rfl) (by decide) (by decide)) (g := (mkF m 3 #[iv ix, iv nn] [.null, (.int nn), (.int ix)])) rfl (by rw [hml]; rfl) (argsL := [(.int ix), (.int nn), .null]) (rest := []) (lenOf pd__IILjava_util_function_BiFunction__I_3fc2 rfl) rfl (by show 2 * 0 + _ ≤ _; exact Nat.le_of_eq rfl) (hb hby dj31_17_3) (fun _ _ => ⟨rfl, e0, (by decide : 0 + 0 ≤ 0), (by decide : 0 + 0 ≤ 0)⟩)
  dsimp only [Pt.U, Pt.locs, Pt.cells, Pt.slots] at X1 l1 y1 z1 st1 hQ1
  subst l1 y1 z1
  obtain ⟨rfl, N1q, eh1⟩ := hQ1
  have N1 := Fr.app N0 N1q
  refine Goes.st st1 ?_
  show Gs p e below _ T1 m 6 #[iv ix, iv nn] [(.int ix)]
  refine Goes.retI X1 hx hret (hb hby dj31_17_6) (lvN X1 hlk (vsome hret) ?_ (by decide) (by decide))
  rw [eh1]
  exact ⟨rfl, N1, rfl⟩
theorem own_jlo {ix : Int32} (hj : ix = 0 ∨ ix = 1 ∨ ix = 2) : ¬ ix < (0 : Int32) := by rcases hj with rfl | rfl | rfl <;> decide
theorem own_jhi {ix : Int32} (hj : ix = 0 ∨ ix = 1 ∨ ix = 2) : ix < (3 : Int32) := by rcases hj with rfl | rfl | rfl <;> decide
theorem own_j10 {ix : Int32} (hj : ix = 0 ∨ ix = 1 ∨ ix = 2) : ix < (10 : Int32) := by rcases hj with rfl | rfl | rfl <;> decide
theorem own_get {ix : Int32} (hj : ix = 0 ∨ ix = 1 ∨ ix = 2) (j0 j1 j2 : Addr) (xs : List Value) (d : Value) : ((.ref j0 : Value) :: .ref j1 :: .ref j2 :: xs).getD ix.toNatClampNeg d = .ref (sel ix j0 j1 j2) := by rcases hj with rfl | rfl | rfl <;> rfl
theorem dj38_18_0 : decode jdk_38_method_18_code 0 = .ok (.aload_n 0, 1) := by decide +kernel
theorem dj38_18_1 : decode jdk_38_method_18_code 1 = .ok (.getfield 9, 3) := by decide +kernel
theorem dj38_18_4 : decode jdk_38_method_18_code 4 = .ok (.iload_n 1, 1) := by decide +kernel
theorem dj38_18_5 : decode jdk_38_method_18_code 5 = .ok (.aaload, 1) := by decide +kernel
theorem dj38_18_6 : decode jdk_38_method_18_code 6 = .ok (.areturn, 1) := by decide +kernel
theorem ef_Ed (m : MethodId) (x0 : Addr) (x1 : Int32) : entryFrame m #[(.ref x0), (.int x1)] 2 = mkF m 0 #[rv x0, iv x1] [] := by first | (simp [entryFrame, mkF, argsToLocals, Value.category]; done) | rfl
def QEd (Z : State) (a eD : Addr) (kE : ClassId) (j0 j1 j2 : Addr) (ix : Int32) (h0 : Heap) (n0 : Nat) (v : Option Value) (h : Heap) (L : List Loc) : Prop := v = some (.ref (sel ix j0 j1 j2)) ∧ Fr n0 L ∧ h = h0
set_option maxRecDepth 65536 in
set_option maxHeartbeats 40000000 in
theorem rmEd (l : Launch) (Z : State) (a0 : Array Value) (hw : ∀ d ∈ tables_1, d.before a0 Z = true) (ws : List Jvm.Cond) (a eD : Addr) (kE : ClassId) (j0 j1 j2 : Addr) (ix : Int32) (h0 : Heap) (n0 : Nat) (Z0 : n0 ≤ h0.size) (Fe : Fld Z h0 a "java/util/ArrayList" "elementData" "[Ljava/lang/Object;" (.ref eD)) (Aed : Arv Z h0 eD kE (.object "java/lang/Object") (10 : Int32) [(.ref j0), (.ref j1), (.ref j2), .null, .null, .null, .null, .null, .null, .null] .null) (hj : ix = 0 ∨ ix = 1 ∨ ix = 2) :
    MetFree l mN23 (head1 (Jvm.Cond.code mN23 jdk_38_method_18_code 2 (some (.object "java/lang/Object")) :: ws) ({ frames := 0, cells := 0, slots := 0, locals := 0 } : Room)) (fun aa U => aa = #[(.ref a), (.int ix)] ∧ Z.Warmed39 U.vm ∧ U.heap = h0) (fun _ _ _ _ _ => True) (fun _ u1_ o_ u2_ => ∃ v_ l_, o_ = .returned v_ ∧ QEd Z a eD kE j0 j1 j2 ix h0 n0 v_ u2_.heap l_ ∧ FrameEnd u1_ o_ u2_ l_ ({ frames := 0, cells := 0, slots := 0, locals := 0 } : Room).cells ({ frames := 0, cells := 0, slots := 0, locals := 0 } : Room).slots) := by
  refine MetFree.of_bodySF (plainFor_of_name pn_java_util_ArrayList) hisR ?_
  intro p e s m args below meth c s₁ Bd hml0 hP hK
  obtain ⟨rfl, hZ, hh⟩ := hP
  have hx := Bd.exec
  have hby := Bd.bytes
  have hlk := BodyLoose.notSynchronized Bd
  have hret := Bd.returns
  have hml : c.maxLocals = 2 := hml0
  have hown : s.vm.findClass "java/util/ArrayList" = some m.cls := findClass_of_methodNamed Bd.named
  have hnm := (name_of_methodNamed Bd.named Bd.method).1
  have X0 : Stand p l e ({ frames := 0, cells := 0, slots := 0, locals := 0 } : Room) s m #[(.ref a), (.int ix)] below meth c s₁ [] 0 0 := Stand.of_body Bd
  have e0 : s₁.heap = h0 := by rw [← hh, Bd.state]; rfl
  have N0 := Fr.nil n0
  refine Goes.st (E := (EN s (QEd Z a eD kE j0 j1 j2 ix h0 n0) ({ frames := 0, cells := 0, slots := 0, locals := 0 } : Room).cells ({ frames := 0, cells := 0, slots := 0, locals := 0 } : Room).slots)) (fun tg kg => castTop (ef_Ed m a ix) kg) ?_
  show Gs p e below _ s₁ m 0 #[rv a, iv ix] []
  refine galoadN X0 hx (hb hby dj38_18_0) rfl rfl ?_
  obtain ⟨T1, X1, e1, st1⟩ := getF X0 hx hZ hown (host := "") (Or.inl (hwk hw 33 rfl)) Via.refl e0 Fe (g := (mkF m 1 #[rv a, iv ix] [(.ref a)])) rfl rfl (hb hby dj38_18_1)
  refine Goes.st st1 ?_
  refine giloadN X1 hx (hb hby dj38_18_4) rfl ?_
  show Gs p e below _ T1 m 5 #[rv a, iv ix] [(.int ix), (.ref eD)]
  obtain ⟨cl2, Ar2, qk2, Sz2, qz2, Ha2, Gf2⟩ := id Aed
  have in2 := inb_of (j := ix) Sz2 ⟨own_jlo hj, own_j10 hj⟩
  refine Goes.st (fun tg kg => X1.aaload hx (j := ix) (v := (.ref (sel ix j0 j1 j2))) (by rw [e1]; exact Ar2.1) (State.isArrayOf_alike hZ.alike Ar2.2.1) rfl Ar2.2.2 in2 (Ha2.at in2 (own_get hj _ _ _ _ _)) (g := (mkF m 5 #[rv a, iv ix] [(.int ix), (.ref eD)])) rfl rfl (hb hby dj38_18_5) tg kg) ?_
  show Gs p e below _ T1 m 6 #[rv a, iv ix] [(.ref (sel ix j0 j1 j2))]
  refine Goes.retA X1 hx hret rfl rfl rfl (hb hby dj38_18_6) (lvN X1 hlk (vsome hret) ?_ (by decide) (by decide))
  rw [e1]
  exact ⟨rfl, N0, rfl⟩
theorem dj38_20_0 : decode jdk_38_method_20_code 0 = .ok (.iload_n 1, 1) := by decide +kernel
theorem dj38_20_1 : decode jdk_38_method_20_code 1 = .ok (.aload_n 0, 1) := by decide +kernel
theorem dj38_20_2 : decode jdk_38_method_20_code 2 = .ok (.getfield 48, 3) := by decide +kernel
theorem dj38_20_5 : decode jdk_38_method_20_code 5 = .ok (.invokestatic 118, 3) := by decide +kernel
theorem dj38_20_8 : decode jdk_38_method_20_code 8 = .ok (.pop, 1) := by decide +kernel
theorem dj38_20_9 : decode jdk_38_method_20_code 9 = .ok (.aload_n 0, 1) := by decide +kernel
theorem dj38_20_10 : decode jdk_38_method_20_code 10 = .ok (.iload_n 1, 1) := by decide +kernel
theorem dj38_20_11 : decode jdk_38_method_20_code 11 = .ok (.invokevirtual 123, 3) := by decide +kernel
theorem dj38_20_14 : decode jdk_38_method_20_code 14 = .ok (.areturn, 1) := by decide +kernel
theorem pd__I_Ljava_lang_Object__7cbf : parseMethodDescriptor "(I)Ljava/lang/Object;" = some ⟨[.int], some (.object "java/lang/Object")⟩ := by decide +kernel
theorem ef_Gt (m : MethodId) (x0 : Addr) (x1 : Int32) : entryFrame m #[(.ref x0), (.int x1)] 2 = mkF m 0 #[rv x0, iv x1] [] := by first | (simp [entryFrame, mkF, argsToLocals, Value.category]; done) | rfl
def QGt (Z : State) (a eD : Addr) (kE : ClassId) (j0 j1 j2 : Addr) (ix : Int32) (h0 : Heap) (n0 : Nat) (v : Option Value) (h : Heap) (L : List Loc) : Prop := v = some (.ref (sel ix j0 j1 j2)) ∧ Fr n0 L ∧ h = h0
set_option maxRecDepth 65536 in
set_option maxHeartbeats 40000000 in
theorem rmGt (l : Launch) (Z : State) (a0 : Array Value) (hw : ∀ d ∈ tables_1, d.before a0 Z = true) (ws : List Jvm.Cond) (a eD : Addr) (kE : ClassId) (j0 j1 j2 : Addr) (ix : Int32) (h0 : Heap) (n0 : Nat) (Z0 : n0 ≤ h0.size) (Ea : Exa Z h0 a "java/util/ArrayList") (Fs : Fld Z h0 a "java/util/ArrayList" "size" "I" (.int (3 : Int32))) (Fe : Fld Z h0 a "java/util/ArrayList" "elementData" "[Ljava/lang/Object;" (.ref eD)) (Aed : Arv Z h0 eD kE (.object "java/lang/Object") (10 : Int32) [(.ref j0), (.ref j1), (.ref j2), .null, .null, .null, .null, .null, .null, .null] .null) (hj : ix = 0 ∨ ix = 1 ∨ ix = 2) :
    MetFree l mN24 (head1 (Jvm.Cond.code mN24 jdk_38_method_20_code 2 (some (.object "java/lang/Object")) :: ws) ({ frames := 2, cells := 0, slots := 0, locals := 27 } : Room)) (fun aa U => aa = #[(.ref a), (.int ix)] ∧ Z.Warmed39 U.vm ∧ U.heap = h0) (fun _ _ _ _ _ => True) (fun _ u1_ o_ u2_ => ∃ v_ l_, o_ = .returned v_ ∧ QGt Z a eD kE j0 j1 j2 ix h0 n0 v_ u2_.heap l_ ∧ FrameEnd u1_ o_ u2_ l_ ({ frames := 2, cells := 0, slots := 0, locals := 27 } : Room).cells ({ frames := 2, cells := 0, slots := 0, locals := 27 } : Room).slots) := by
  refine MetFree.of_bodySF (plainFor_of_name pn_java_util_ArrayList) hisR ?_
  intro p e s m args below meth c s₁ Bd hml0 hP hK
  obtain ⟨rfl, hZ, hh⟩ := hP
  have hx := Bd.exec
  have hby := Bd.bytes
  have hlk := BodyLoose.notSynchronized Bd
  have hret := Bd.returns
  have hml : c.maxLocals = 2 := hml0
  have hown : s.vm.findClass "java/util/ArrayList" = some m.cls := findClass_of_methodNamed Bd.named
  have hnm := (name_of_methodNamed Bd.named Bd.method).1
  have X0 : Stand p l e ({ frames := 2, cells := 0, slots := 0, locals := 27 } : Room) s m #[(.ref a), (.int ix)] below meth c s₁ [] 0 0 := Stand.of_body Bd
  have e0 : s₁.heap = h0 := by rw [← hh, Bd.state]; rfl
  have N0 := Fr.nil n0
  refine Goes.st (E := (EN s (QGt Z a eD kE j0 j1 j2 ix h0 n0) ({ frames := 2, cells := 0, slots := 0, locals := 27 } : Room).cells ({ frames := 2, cells := 0, slots := 0, locals := 27 } : Room).slots)) (fun tg kg => castTop (ef_Gt m a ix) kg) ?_
  show Gs p e below _ s₁ m 0 #[rv a, iv ix] []
  refine giloadN X0 hx (hb hby dj38_20_0) rfl ?_
  refine galoadN X0 hx (hb hby dj38_20_1) rfl rfl ?_
  obtain ⟨T1, X1, e1, st1⟩ := getF X0 hx hZ hown (host := "") (Or.inl (hwk hw 121 rfl)) Via.refl e0 Fs (g := (mkF m 2 #[rv a, iv ix] [(.ref a), (.int ix)])) rfl rfl (hb hby dj38_20_2)
  refine Goes.st st1 ?_
  obtain ⟨_, _, ⟨T2, L2, k2, n2⟩, -, X2, ⟨Lc2, hQ2, l2, y2, z2⟩, st2⟩ := Jvm.LawKit.callS X1 hx (y := mN22) hown (mvT hZ (hwk hw 171 rfl)) (mvT hZ (hwk hw 172 rfl)) (mvT hZ (hwk hw 61 rfl)) (mvT hZ (hwk hw 173 rfl)) (by decide) (backOf (W := 0) (rmOc l Z a0 hw [] ix (3 : Int32) h0 n0 Z0 (own_jlo hj) (own_jhi hj)) hZ (hwk hw 173 rfl) (hwk hw 61 rfl) (by decide) (by decide)) (g := (mkF m 5 #[rv a, iv ix] [(.int (3 : Int32)), (.int ix)])) rfl (by rw [hml]; rfl) (argsL := [(.int ix), (.int (3 : Int32))]) (rest := []) (lenOf pd__II_I_aae rfl) rfl (by show 2 * 0 + _ ≤ _; exact Nat.le_of_eq rfl) (hb hby dj38_20_5) (fun _ _ => ⟨rfl, e1, (by decide : 0 + 0 ≤ 0), (by decide : 0 + 0 ≤ 0)⟩)
  dsimp only [Pt.U, Pt.locs, Pt.cells, Pt.slots] at X2 l2 y2 z2 st2 hQ2
  subst l2 y2 z2
  obtain ⟨rfl, N2q, eh2⟩ := hQ2
  have N2 := Fr.app N0 N2q
  refine Goes.st st2 ?_
  show Gs p e below _ T2 m 8 #[rv a, iv ix] [(.int ix)]
  refine Goes.st (fun tg kg => XT.pop X2.here hx rfl (hb hby dj38_20_8) rfl rfl kg) ?_
  show Gs p e below _ T2 m 9 #[rv a, iv ix] []
  refine galoadN X2 hx (hb hby dj38_20_9) rfl rfl ?_
  refine giloadN X2 hx (hb hby dj38_20_10) rfl ?_
  obtain ⟨cq3, kq3, qa3, qb3, qc3⟩ := isOf hZ eh2 Ea
  obtain ⟨_, _, ⟨T3, L3, k3, n3⟩, -, X3, ⟨Lc3, hQ3, l3, y3, z3⟩, st3⟩ := X2.virtualBack hx (y := mN23) (z := mN23) hown (mvT hZ (hwk hw 175 rfl)) (mvT hZ (hwk hw 176 rfl)) (notFace_of_selects (args := #[]) (mvT hZ (hwk hw 178 rfl))) (mvT hZ (hwk hw 178 rfl)) (mvT hZ (hwk hw 177 rfl)) (by decide) (backOf (W := 0) (rmEd l Z a0 hw [] a eD kE j0 j1 j2 ix h0 n0 Z0 Fe Aed hj) hZ (hwk hw 179 rfl) (hwk hw 11 rfl) (by decide) (by decide)) qa3 qc3 (g := (mkF m 11 #[rv a, iv ix] [(.int ix), (.ref a)])) rfl (by rw [hml]; rfl) (Steps.refl _) (argsL := [(.int ix)]) (rest := []) (lenOf pd__I_Ljava_lang_Object__7cbf rfl) rfl (by show 2 * 0 + _ ≤ _; exact Nat.le_of_eq rfl) (hb hby dj38_20_11) (fun _ _ => ⟨rfl, eh2, (by decide : 0 + 0 ≤ 0), (by decide : 0 + 0 ≤ 0)⟩)
  dsimp only [Pt.U, Pt.locs, Pt.cells, Pt.slots] at X3 l3 y3 z3 st3 hQ3
  subst l3 y3 z3
  obtain ⟨rfl, N3q, eh3⟩ := hQ3
  have N3 := Fr.app N2 N3q
  refine Goes.sts st3 ?_
  show Gs p e below _ T3 m 14 #[rv a, iv ix] [(.ref (sel ix j0 j1 j2))]
  refine Goes.retA X3 hx hret rfl rfl rfl (hb hby dj38_20_14) (lvN X3 hlk (vsome hret) ?_ (by decide) (by decide))
  rw [eh3]
  exact ⟨rfl, N3, rfl⟩
theorem dp28_13_0 : decode prog_28_method_13_code 0 = .ok (.aload_n 0, 1) := by decide +kernel
theorem dp28_13_1 : decode prog_28_method_13_code 1 = .ok (.getfield 25, 3) := by decide +kernel
theorem dp28_13_4 : decode prog_28_method_13_code 4 = .ok (.ireturn, 1) := by decide +kernel
theorem ef_Jp (m : MethodId) (x0 : Addr) : entryFrame m #[(.ref x0)] 1 = mkF m 0 #[rv x0] [] := by first | (simp [entryFrame, mkF, argsToLocals, Value.category]; done) | rfl
def QJp (Z : State) (a : Addr) (pr : Int32) (h0 : Heap) (n0 : Nat) (v : Option Value) (h : Heap) (L : List Loc) : Prop := v = some (.int pr) ∧ Fr n0 L ∧ h = h0
set_option maxRecDepth 65536 in
set_option maxHeartbeats 40000000 in
theorem rmJp (l : Launch) (Z : State) (a0 : Array Value) (hw : ∀ d ∈ tables_1, d.before a0 Z = true) (ws : List Jvm.Cond) (a : Addr) (pr : Int32) (h0 : Heap) (n0 : Nat) (Z0 : n0 ≤ h0.size) (Fp : Fld Z h0 a "com/example/redoubt/redoubt/engine/Job" "procs" "I" (.int pr)) :
    MetFree l mN25 (head1 (Jvm.Cond.code mN25 prog_28_method_13_code 1 (some .int) :: ws) ({ frames := 0, cells := 0, slots := 0, locals := 0 } : Room)) (fun aa U => aa = #[(.ref a)] ∧ Z.Warmed39 U.vm ∧ U.heap = h0) (fun _ _ _ _ _ => True) (fun _ u1_ o_ u2_ => ∃ v_ l_, o_ = .returned v_ ∧ QJp Z a pr h0 n0 v_ u2_.heap l_ ∧ FrameEnd u1_ o_ u2_ l_ ({ frames := 0, cells := 0, slots := 0, locals := 0 } : Room).cells ({ frames := 0, cells := 0, slots := 0, locals := 0 } : Room).slots) := by
  refine MetFree.of_bodySF (plainFor_of_name pn_com_example_redoubt_redoubt_engine_Job) hisR ?_
  intro p e s m args below meth c s₁ Bd hml0 hP hK
  obtain ⟨rfl, hZ, hh⟩ := hP
  have hx := Bd.exec
  have hby := Bd.bytes
  have hlk := BodyLoose.notSynchronized Bd
  have hret := Bd.returns
  have hml : c.maxLocals = 1 := hml0
  have hown : s.vm.findClass "com/example/redoubt/redoubt/engine/Job" = some m.cls := findClass_of_methodNamed Bd.named
  have hnm := (name_of_methodNamed Bd.named Bd.method).1
  have X0 : Stand p l e ({ frames := 0, cells := 0, slots := 0, locals := 0 } : Room) s m #[(.ref a)] below meth c s₁ [] 0 0 := Stand.of_body Bd
  have e0 : s₁.heap = h0 := by rw [← hh, Bd.state]; rfl
  have N0 := Fr.nil n0
  refine Goes.st (E := (EN s (QJp Z a pr h0 n0) ({ frames := 0, cells := 0, slots := 0, locals := 0 } : Room).cells ({ frames := 0, cells := 0, slots := 0, locals := 0 } : Room).slots)) (fun tg kg => castTop (ef_Jp m a) kg) ?_
  show Gs p e below _ s₁ m 0 #[rv a] []
  refine galoadN X0 hx (hb hby dp28_13_0) rfl rfl ?_
  obtain ⟨T1, X1, e1, st1⟩ := getF X0 hx hZ hown (host := "") (Or.inl (hwk hw 110 rfl)) Via.refl e0 Fp (g := (mkF m 1 #[rv a] [(.ref a)])) rfl rfl (hb hby dp28_13_1)
  refine Goes.st st1 ?_
  refine Goes.retI X1 hx hret (hb hby dp28_13_4) (lvN X1 hlk (vsome hret) ?_ (by decide) (by decide))
  rw [e1]
  exact ⟨rfl, N0, rfl⟩
theorem dp28_14_0 : decode prog_28_method_14_code 0 = .ok (.aload_n 0, 1) := by decide +kernel
theorem dp28_14_1 : decode prog_28_method_14_code 1 = .ok (.getfield 29, 3) := by decide +kernel
theorem dp28_14_4 : decode prog_28_method_14_code 4 = .ok (.dreturn, 1) := by decide +kernel
theorem ef_Jt (m : MethodId) (x0 : Addr) : entryFrame m #[(.ref x0)] 1 = mkF m 0 #[rv x0] [] := by first | (simp [entryFrame, mkF, argsToLocals, Value.category]; done) | rfl
def QJt (Z : State) (a : Addr) (h0 : Heap) (n0 : Nat) (v : Option Value) (h : Heap) (L : List Loc) : Prop := v = some (.double FP.dconst1) ∧ Fr n0 L ∧ h = h0
set_option maxRecDepth 65536 in
set_option maxHeartbeats 40000000 in
theorem rmJt (l : Launch) (Z : State) (a0 : Array Value) (hw : ∀ d ∈ tables_1, d.before a0 Z = true) (ws : List Jvm.Cond) (a : Addr) (h0 : Heap) (n0 : Nat) (Z0 : n0 ≤ h0.size) (Fp : Fld Z h0 a "com/example/redoubt/redoubt/engine/Job" "time" "D" (.double FP.dconst1)) :
    MetFree l mN26 (head1 (Jvm.Cond.code mN26 prog_28_method_14_code 1 (some .double) :: ws) ({ frames := 0, cells := 0, slots := 0, locals := 0 } : Room)) (fun aa U => aa = #[(.ref a)] ∧ Z.Warmed39 U.vm ∧ U.heap = h0) (fun _ _ _ _ _ => True) (fun _ u1_ o_ u2_ => ∃ v_ l_, o_ = .returned v_ ∧ QJt Z a h0 n0 v_ u2_.heap l_ ∧ FrameEnd u1_ o_ u2_ l_ ({ frames := 0, cells := 0, slots := 0, locals := 0 } : Room).cells ({ frames := 0, cells := 0, slots := 0, locals := 0 } : Room).slots) := by
  refine MetFree.of_bodySF (plainFor_of_name pn_com_example_redoubt_redoubt_engine_Job) hisR ?_
  intro p e s m args below meth c s₁ Bd hml0 hP hK
  obtain ⟨rfl, hZ, hh⟩ := hP
  have hx := Bd.exec
  have hby := Bd.bytes
  have hlk := BodyLoose.notSynchronized Bd
  have hret := Bd.returns
  have hml : c.maxLocals = 1 := hml0
  have hown : s.vm.findClass "com/example/redoubt/redoubt/engine/Job" = some m.cls := findClass_of_methodNamed Bd.named
  have hnm := (name_of_methodNamed Bd.named Bd.method).1
  have X0 : Stand p l e ({ frames := 0, cells := 0, slots := 0, locals := 0 } : Room) s m #[(.ref a)] below meth c s₁ [] 0 0 := Stand.of_body Bd
  have e0 : s₁.heap = h0 := by rw [← hh, Bd.state]; rfl
  have N0 := Fr.nil n0
  refine Goes.st (E := (EN s (QJt Z a h0 n0) ({ frames := 0, cells := 0, slots := 0, locals := 0 } : Room).cells ({ frames := 0, cells := 0, slots := 0, locals := 0 } : Room).slots)) (fun tg kg => castTop (ef_Jt m a) kg) ?_
  show Gs p e below _ s₁ m 0 #[rv a] []
  refine galoadN X0 hx (hb hby dp28_14_0) rfl rfl ?_
  obtain ⟨T1, X1, e1, st1⟩ := getF X0 hx hZ hown (host := "") (Or.inl (hwk hw 112 rfl)) Via.refl e0 Fp (g := (mkF m 1 #[rv a] [(.ref a)])) rfl rfl (hb hby dp28_14_1)
  refine Goes.st st1 ?_
  show Gs p e below _ T1 m 4 #[rv a] [(.double FP.dconst1)]
  refine Goes.retD X1 hx hret (hb hby dp28_14_4) (lvN X1 hlk (vsome hret) ?_ (by decide) (by decide))
  rw [e1]
  exact ⟨rfl, N0, rfl⟩
def Perm3 (o0 o1 o2 : Int32) : Prop := (o0 = 0 ∧ o1 = 1 ∧ o2 = 2) ∨ (o0 = 0 ∧ o1 = 2 ∧ o2 = 1) ∨ (o0 = 1 ∧ o1 = 0 ∧ o2 = 2) ∨ (o0 = 1 ∧ o1 = 2 ∧ o2 = 0) ∨ (o0 = 2 ∧ o1 = 0 ∧ o2 = 1) ∨ (o0 = 2 ∧ o1 = 1 ∧ o2 = 0)
theorem own_p0 {o0 o1 o2 : Int32} (h : Perm3 o0 o1 o2) : o0 = 0 ∨ o0 = 1 ∨ o0 = 2 := by rcases h with ⟨rfl, rfl, rfl⟩ | ⟨rfl, rfl, rfl⟩ | ⟨rfl, rfl, rfl⟩ | ⟨rfl, rfl, rfl⟩ | ⟨rfl, rfl, rfl⟩ | ⟨rfl, rfl, rfl⟩ <;> decide
theorem own_p1 {o0 o1 o2 : Int32} (h : Perm3 o0 o1 o2) : o1 = 0 ∨ o1 = 1 ∨ o1 = 2 := by rcases h with ⟨rfl, rfl, rfl⟩ | ⟨rfl, rfl, rfl⟩ | ⟨rfl, rfl, rfl⟩ | ⟨rfl, rfl, rfl⟩ | ⟨rfl, rfl, rfl⟩ | ⟨rfl, rfl, rfl⟩ <;> decide
theorem own_p2 {o0 o1 o2 : Int32} (h : Perm3 o0 o1 o2) : o2 = 0 ∨ o2 = 1 ∨ o2 = 2 := by rcases h with ⟨rfl, rfl, rfl⟩ | ⟨rfl, rfl, rfl⟩ | ⟨rfl, rfl, rfl⟩ | ⟨rfl, rfl, rfl⟩ | ⟨rfl, rfl, rfl⟩ | ⟨rfl, rfl, rfl⟩ <;> decide
theorem own_selE {Z : State} {h : Heap} {ix : Int32} {j0 j1 j2 : Addr} {K : String} (hj : ix = 0 ∨ ix = 1 ∨ ix = 2) (F0 : Exa Z h j0 K) (F1 : Exa Z h j1 K) (F2 : Exa Z h j2 K) : Exa Z h (sel ix j0 j1 j2) K := by
  rcases hj with rfl | rfl | rfl
  · exact F0
  · exact F1
  · exact F2
theorem own_selF {Z : State} {h : Heap} {ix : Int32} {j0 j1 j2 : Addr} {O n d : String} {p0 p1 p2 : Int32} (hj : ix = 0 ∨ ix = 1 ∨ ix = 2) (F0 : Fld Z h j0 O n d (.int p0)) (F1 : Fld Z h j1 O n d (.int p1)) (F2 : Fld Z h j2 O n d (.int p2)) : Fld Z h (sel ix j0 j1 j2) O n d (.int (sel ix p0 p1 p2)) := by
  rcases hj with rfl | rfl | rfl
  · exact F0
  · exact F1
  · exact F2
theorem own_selT {Z : State} {h : Heap} {ix : Int32} {j0 j1 j2 : Addr} {O n d : String} {w : Value} (hj : ix = 0 ∨ ix = 1 ∨ ix = 2) (F0 : Fld Z h j0 O n d w) (F1 : Fld Z h j1 O n d w) (F2 : Fld Z h j2 O n d w) : Fld Z h (sel ix j0 j1 j2) O n d w := by
  rcases hj with rfl | rfl | rfl
  · exact F0
  · exact F1
  · exact F2
theorem own_set3 {Z : State} {h : Heap} {a : Addr} {k : ClassId} {z ix x0 x1 x2 r : Int32} {dv : Value} (hj : ix = 0 ∨ ix = 1 ∨ ix = 2) (F : Arv Z h a k .int z ([(.int x0), (.int x1), (.int x2)].set ix.toNatClampNeg (.int r)) dv) : Arv Z h a k .int z [(.int (put1 ix 0 r x0)), (.int (put1 ix 1 r x1)), (.int (put1 ix 2 r x2))] dv := by
  rcases hj with rfl | rfl | rfl
  · exact F
  · exact F
  · exact F
theorem own_len3 {ix : Int32} (hj : ix = 0 ∨ ix = 1 ∨ ix = 2) (a b d : Value) : ix.toNatClampNeg < [a, b, d].length := by rcases hj with rfl | rfl | rfl <;> (show _ < 3; decide)
theorem own_rkA {Z : State} {h : Heap} {a : Addr} {k : ClassId} {z o0 o1 o2 : Int32} {dv : Value} (hp : Perm3 o0 o1 o2) (F : Arv Z h a k .int z [(.int (put1 o2 0 2 (put1 o1 0 1 (put1 o0 0 0 0)))), (.int (put1 o2 1 2 (put1 o1 1 1 (put1 o0 1 0 0)))), (.int (put1 o2 2 2 (put1 o1 2 1 (put1 o0 2 0 0))))] dv) : Arv Z h a k .int z [(.int (rk o0 o1 0)), (.int (rk o0 o1 1)), (.int (rk o0 o1 2))] dv := by
  rcases hp with ⟨rfl, rfl, rfl⟩ | ⟨rfl, rfl, rfl⟩ | ⟨rfl, rfl, rfl⟩ | ⟨rfl, rfl, rfl⟩ | ⟨rfl, rfl, rfl⟩ | ⟨rfl, rfl, rfl⟩ <;> exact F
def ww (w pl i p y : Int32) : Int32 := if w = 0 then y else if pl = i then p else y
def uu (pl i q y : Int32) : Int32 := if pl = i then q else y
def qq (pl q0 q1 q2 : Int32) : Int32 := if pl = 0 then q0 else if pl = 1 then q1 else if pl = 2 then q2 else if pl = 3 then q0 else if pl = 4 then q1 else q2
def pk (bs w p pl f st : Int32) : Int32 := if w = 0 then bs else if f < p then bs else if pl < st then bs else if bs < 0 then pl else if pl < bs then pl else bs
theorem own_ite {α : Type} {c : Prop} [Decidable c] (x y : α) : (if c then x else y) = (bif decide c then x else y) := by by_cases h : c <;> simp [h]
theorem own_ilt (f u w : Int32) : f < imin u w ↔ f < u ∧ f < w := by
  simp only [imin, Int32.lt_iff_toInt_lt]
  split
  · constructor
    · intro h; exact ⟨by omega, h⟩
    · intro h; exact h.2
  · constructor
    · intro h; exact ⟨h, by omega⟩
    · intro h; exact h.1
theorem own_dmin (f u w : Int32) : decide (f < imin u w) = (decide (f < u) && decide (f < w)) := by
  rw [Bool.eq_iff_iff]; simp [own_ilt]
theorem own_dM {f : Int32} (h : f < (2147483647 : Int32)) : decide (f < (2147483647 : Int32)) = true := by simp [h]
def pkB (bs : Int32) (e : Bool) (pl st : Int32) : Int32 := bif e then (bif decide (pl < st) then bs else bif decide (bs < 0) then pl else bif decide (pl < bs) then pl else bs) else bs
def eB (w p f : Int32) : Bool := !decide (w = 0) && !decide (f < p)
theorem pk_e (bs w p pl f st : Int32) : pk bs w p pl f st = pkB bs (eB w p f) pl st := by
  unfold pk pkB eB
  by_cases h1 : w = 0
  · simp [h1]
  · by_cases h2 : f < p
    · simp [h1, h2]
    · simp only [h1, h2, decide_false, Bool.not_false, Bool.and_self, cond_true, cond_false, own_ite]
def dB (e0 e1 e2 : Bool) (q0 q1 q2 i : Int32) : Bool := !((e0 && decide (q0 = i)) || (e1 && decide (q1 = i)) || (e2 && decide (q2 = i)))
theorem own_dB {f w0 w1 w2 p0 p1 p2 q0 q1 q2 : Int32} (n1 : q0 ≠ q1) (n2 : q0 ≠ q2) (n3 : q1 ≠ q2) (hf : f < (2147483647 : Int32)) (i : Int32) : decide (f < ww w2 q2 i p2 (ww w1 q1 i p1 (ww w0 q0 i p0 (2147483647 : Int32)))) = dB (eB w0 p0 f) (eB w1 p1 f) (eB w2 p2 f) q0 q1 q2 i := by
  have key : ∀ w p Y : Int32, decide (f < (if w = 0 then Y else p)) = (if w = 0 then decide (f < Y) else decide (f < p)) := by intro w p Y; split <;> rfl
  unfold ww dB eB
  by_cases a2 : q2 = i
  · have a0 : ¬ q0 = i := fun h => n2 (h.trans a2.symm)
    have a1 : ¬ q1 = i := fun h => n3 (h.trans a2.symm)
    simp only [a0, a1, a2, if_true, if_false, ite_self, decide_true, decide_false, Bool.and_false, Bool.and_true, Bool.or_false, Bool.false_or]
    by_cases z : w2 = 0 <;> simp [z, hf]
  · by_cases a1 : q1 = i
    · have a0 : ¬ q0 = i := fun h => n1 (h.trans a1.symm)
      simp only [a0, a1, a2, if_true, if_false, ite_self, decide_true, decide_false, Bool.and_false, Bool.and_true, Bool.or_false, Bool.false_or]
      by_cases z : w1 = 0 <;> simp [z, hf]
    · by_cases a0 : q0 = i
      · simp only [a0, a1, a2, if_true, if_false, ite_self, decide_true, decide_false, Bool.and_false, Bool.and_true, Bool.or_false, Bool.false_or]
        by_cases z : w0 = 0 <;> simp [z, hf]
      · simp [a0, a1, a2, hf]
def rkB (t : Fin 6) (j : Nat) : Int32 := match t.val, j with
  | 0, 0 => 0 | 0, 1 => 1 | 0, _ => 2 | 1, 0 => 0 | 1, 1 => 2 | 1, _ => 1 | 2, 0 => 1 | 2, 1 => 0 | 2, _ => 2
  | 3, 0 => 2 | 3, 1 => 0 | 3, _ => 1 | 4, 0 => 1 | 4, 1 => 2 | 4, _ => 0 | _, 0 => 2 | _, 1 => 1 | _, _ => 0
def plB (k : Bool) (r : Int32) : Int32 := (bif k then (1 : Int32) else 0) * (3 : Int32) + r
theorem own_plB (k : Bool) (r : Int32) : (bif k then (1 : Int32) else 0) * (3 : Int32) + r = plB k r := rfl
theorem own_kB {k : Int32} (h : k = 0 ∨ k = 1) : ∃ b : Bool, k = (bif b then (1 : Int32) else 0) := by
  rcases h with rfl | rfl
  · exact ⟨false, rfl⟩
  · exact ⟨true, rfl⟩
theorem own_perm {o0 o1 o2 : Int32} (h : Perm3 o0 o1 o2) : ∃ t : Fin 6, rk o0 o1 0 = rkB t 0 ∧ rk o0 o1 1 = rkB t 1 ∧ rk o0 o1 2 = rkB t 2 := by
  rcases h with ⟨rfl, rfl, rfl⟩ | ⟨rfl, rfl, rfl⟩ | ⟨rfl, rfl, rfl⟩ | ⟨rfl, rfl, rfl⟩ | ⟨rfl, rfl, rfl⟩ | ⟨rfl, rfl, rfl⟩
  · exact ⟨0, by decide⟩
  · exact ⟨1, by decide⟩
  · exact ⟨2, by decide⟩
  · exact ⟨3, by decide⟩
  · exact ⟨4, by decide⟩
  · exact ⟨5, by decide⟩
theorem own_dist : ∀ (t : Fin 6) (k0 k1 k2 : Bool), plB k0 (rkB t 0) ≠ plB k1 (rkB t 1) ∧ plB k0 (rkB t 0) ≠ plB k2 (rkB t 2) ∧ plB k1 (rkB t 1) ≠ plB k2 (rkB t 2) := by decide +kernel
theorem own_st8 {st : Int32} (h0 : ¬ st < 0) (h1 : st < 8) : st = 0 ∨ st = 1 ∨ st = 2 ∨ st = 3 ∨ st = 4 ∨ st = 5 ∨ st = 6 ∨ st = 7 := by
  rw [Int32.lt_iff_toInt_lt] at h0 h1
  have e0 : (0 : Int32).toInt = 0 := rfl
  have e8 : (8 : Int32).toInt = 8 := rfl
  have : st.toInt = 0 ∨ st.toInt = 1 ∨ st.toInt = 2 ∨ st.toInt = 3 ∨ st.toInt = 4 ∨ st.toInt = 5 ∨ st.toInt = 6 ∨ st.toInt = 7 := by omega
  rcases this with h | h | h | h | h | h | h | h
  · exact Or.inl (Int32.toInt_inj.mp h)
  · exact Or.inr (Or.inl (Int32.toInt_inj.mp h))
  · exact Or.inr (Or.inr (Or.inl (Int32.toInt_inj.mp h)))
  · exact Or.inr (Or.inr (Or.inr (Or.inl (Int32.toInt_inj.mp h))))
  · exact Or.inr (Or.inr (Or.inr (Or.inr (Or.inl (Int32.toInt_inj.mp h)))))
  · exact Or.inr (Or.inr (Or.inr (Or.inr (Or.inr (Or.inl (Int32.toInt_inj.mp h))))))
  · exact Or.inr (Or.inr (Or.inr (Or.inr (Or.inr (Or.inr (Or.inl (Int32.toInt_inj.mp h)))))))
  · exact Or.inr (Or.inr (Or.inr (Or.inr (Or.inr (Or.inr (Or.inr (Int32.toInt_inj.mp h)))))))
theorem own_st4 {st : Int32} (h0 : ¬ st < 0) (h1 : st < 4) : st = 0 ∨ st = 1 ∨ st = 2 ∨ st = 3 := by
  rw [Int32.lt_iff_toInt_lt] at h0 h1
  have e0 : (0 : Int32).toInt = 0 := rfl
  have e8 : (4 : Int32).toInt = 4 := rfl
  have : st.toInt = 0 ∨ st.toInt = 1 ∨ st.toInt = 2 ∨ st.toInt = 3 := by omega
  rcases this with h | h | h | h
  · exact Or.inl (Int32.toInt_inj.mp h)
  · exact Or.inr (Or.inl (Int32.toInt_inj.mp h))
  · exact Or.inr (Or.inr (Or.inl (Int32.toInt_inj.mp h)))
  · exact Or.inr (Or.inr (Or.inr (Int32.toInt_inj.mp h)))
theorem own_pl4_0 : ∀ (t : Fin 6), plB false (rkB t 0) < (4 : Int32) := by decide +kernel
theorem own_pl8_0 : ∀ (t : Fin 6) (k : Bool), plB k (rkB t 0) < (8 : Int32) := by decide +kernel
theorem own_pl4_1 : ∀ (t : Fin 6), plB false (rkB t 1) < (4 : Int32) := by decide +kernel
theorem own_pl8_1 : ∀ (t : Fin 6) (k : Bool), plB k (rkB t 1) < (8 : Int32) := by decide +kernel
theorem own_pl4_2 : ∀ (t : Fin 6), plB false (rkB t 2) < (4 : Int32) := by decide +kernel
theorem own_pl8_2 : ∀ (t : Fin 6) (k : Bool), plB k (rkB t 2) < (8 : Int32) := by decide +kernel
theorem own_pkfar {bs pl st b : Int32} {e : Bool} (hp : pl < b) (hs : ¬ st < b) : pkB bs e pl st = bs := by
  have : pl < st := by rw [Int32.lt_iff_toInt_lt] at *; omega
  cases e <;> simp [pkB, this]
theorem own_and1 (x : Int32) : x &&& 1 = 0 ∨ x &&& 1 = 1 := by
  have h : (x &&& 1).toBitVec.toNat = x.toBitVec.toNat % 2 := by rw [Int32.toBitVec_and, BitVec.toNat_and]; exact Nat.and_one_is_mod _
  rcases Nat.mod_two_eq_zero_or_one x.toBitVec.toNat with e | e
  · left; apply Int32.toBitVec_inj.mp; apply BitVec.eq_of_toNat_eq; rw [h, e]; rfl
  · right; apply Int32.toBitVec_inj.mp; apply BitVec.eq_of_toNat_eq; rw [h, e]; rfl
theorem own_andn (x w : Int32) (h : ¬ w < 0) : ¬ (x &&& w) < 0 := by
  rw [Int32.lt_iff_toInt_lt] at *
  have e0 : (0 : Int32).toInt = 0 := rfl
  rw [e0] at *
  have a : w.toBitVec.msb = false := by
    rw [BitVec.msb_eq_toInt]; simp; exact Int.not_lt.mp h
  have b : (x &&& w).toBitVec.msb = false := by rw [Int32.toBitVec_and, BitVec.msb_and, a, Bool.and_false]
  rw [BitVec.msb_eq_toInt] at b
  exact of_decide_eq_false b
theorem own_rem6 {x : Int32} (h : ¬ x < 0) : x % 6 = 0 ∨ x % 6 = 1 ∨ x % 6 = 2 ∨ x % 6 = 3 ∨ x % 6 = 4 ∨ x % 6 = 5 := by
  have e : (x % 6).toInt = x.toInt.tmod 6 := by rw [Int32.toInt_mod]; rfl
  rw [Int32.lt_iff_toInt_lt] at h
  have e0 : (0 : Int32).toInt = 0 := rfl
  rw [e0] at h
  have g : x.toInt.tmod 6 = x.toInt % 6 := Int.tmod_eq_emod_of_nonneg (Int.not_lt.mp h)
  rw [g] at e
  have : (x % 6).toInt = 0 ∨ (x % 6).toInt = 1 ∨ (x % 6).toInt = 2 ∨ (x % 6).toInt = 3 ∨ (x % 6).toInt = 4 ∨ (x % 6).toInt = 5 := by omega
  rcases this with h | h | h | h | h | h
  · exact Or.inl (Int32.toInt_inj.mp h)
  · exact Or.inr (Or.inl (Int32.toInt_inj.mp h))
  · exact Or.inr (Or.inr (Or.inl (Int32.toInt_inj.mp h)))
  · exact Or.inr (Or.inr (Or.inr (Or.inl (Int32.toInt_inj.mp h))))
  · exact Or.inr (Or.inr (Or.inr (Or.inr (Or.inl (Int32.toInt_inj.mp h)))))
  · exact Or.inr (Or.inr (Or.inr (Or.inr (Or.inr (Int32.toInt_inj.mp h)))))
theorem own_imax1 (u : Int32) : ¬ imax 1 u < 1 := by
  unfold imax
  split
  · rename_i h; rw [Int32.lt_iff_toInt_lt] at *; omega
  · decide
theorem own_iminM (u : Int32) : imin u (2147483646 : Int32) < (2147483647 : Int32) := by
  unfold imin
  split
  · decide
  · rename_i h
    have e1 : (2147483646 : Int32).toInt = 2147483646 := rfl
    have e2 : (2147483647 : Int32).toInt = 2147483647 := rfl
    rw [Int32.lt_iff_toInt_lt] at *; omega

theorem own_far8 (t : Fin 6) (k0 k1 k2 e0 e1 e2 : Bool) {st : Int32} (hs : ¬ st < (8 : Int32)) : pkB (pkB (pkB (-1) e0 (plB k0 (rkB t 0)) st) e1 (plB k1 (rkB t 1)) st) e2 (plB k2 (rkB t 2)) st = -1 := by
  rw [own_pkfar (own_pl8_0 t k0) hs, own_pkfar (own_pl8_1 t k1) hs, own_pkfar (own_pl8_2 t k2) hs]
theorem own_far4 (t : Fin 6) (k0 k1 k2 e0 e1 e2 : Bool) {st : Int32} (hs : ¬ st < (4 : Int32)) (h0 : k0 = false) (h1 : k1 = false) (h2 : k2 = false) : pkB (pkB (pkB (-1) e0 (plB k0 (rkB t 0)) st) e1 (plB k1 (rkB t 1)) st) e2 (plB k2 (rkB t 2)) st = -1 := by
  subst h0 h1 h2; rw [own_pkfar (own_pl4_0 t) hs, own_pkfar (own_pl4_1 t) hs, own_pkfar (own_pl4_2 t) hs]
def tr4 (y0 y1 y2 : Int32) : List Value := [(.int (2147483647 : Int32)), (.int (imin (imin y0 y1) (imin y2 (2147483647 : Int32)))), (.int (imin y0 y1)), (.int (imin y2 (2147483647 : Int32))), (.int y0), (.int y1), (.int y2), (.int (2147483647 : Int32))]
def rD4_7 (f y0 y1 y2 : Int32) : Int32 := (3 : Int32)
def rD4_6 (f y0 y1 y2 : Int32) : Int32 := (2 : Int32)
def rD4_5 (f y0 y1 y2 : Int32) : Int32 := (1 : Int32)
def rD4_4 (f y0 y1 y2 : Int32) : Int32 := (0 : Int32)
def rD4_3 (f y0 y1 y2 : Int32) : Int32 := if f < y2 then rD4_7 f y0 y1 y2 else rD4_6 f y0 y1 y2
def rC4_7 (f y0 y1 y2 : Int32) : Int32 := if f < (2147483647 : Int32) then (-1 : Int32) else rD4_7 f y0 y1 y2
def rC4_6 (f y0 y1 y2 : Int32) : Int32 := if f < y2 then rC4_7 f y0 y1 y2 else rD4_6 f y0 y1 y2
def rC4_3 (f y0 y1 y2 : Int32) : Int32 := if f < (imin y2 (2147483647 : Int32)) then (-1 : Int32) else rD4_3 f y0 y1 y2
def rC4_5 (f y0 y1 y2 : Int32) : Int32 := if f < y1 then rC4_3 f y0 y1 y2 else rD4_5 f y0 y1 y2
def rC4_4 (f y0 y1 y2 : Int32) : Int32 := if f < y0 then rC4_5 f y0 y1 y2 else rD4_4 f y0 y1 y2
def fs4 (st f y0 y1 y2 : Int32) : Int32 := if st = (0 : Int32) then rC4_4 f y0 y1 y2 else if st = (1 : Int32) then rC4_5 f y0 y1 y2 else if st = (2 : Int32) then rC4_6 f y0 y1 y2 else if st = (3 : Int32) then rC4_7 f y0 y1 y2 else (-1 : Int32)
def ff4 (st f y0 y1 y2 : Int32) : Int32 := if st < (4 : Int32) then (if f < (imin (imin y0 y1) (imin y2 (2147483647 : Int32))) then (-1 : Int32) else fs4 st f y0 y1 y2) else (-1 : Int32)
def bD4_7 (d0 d1 d2 : Bool) : Int32 := (3 : Int32)
def bD4_6 (d0 d1 d2 : Bool) : Int32 := (2 : Int32)
def bD4_5 (d0 d1 d2 : Bool) : Int32 := (1 : Int32)
def bD4_4 (d0 d1 d2 : Bool) : Int32 := (0 : Int32)
def bD4_3 (d0 d1 d2 : Bool) : Int32 := bif d2 then bD4_7 d0 d1 d2 else bD4_6 d0 d1 d2
def bC4_7 (d0 d1 d2 : Bool) : Int32 := bif true then (-1 : Int32) else bD4_7 d0 d1 d2
def bC4_6 (d0 d1 d2 : Bool) : Int32 := bif d2 then bC4_7 d0 d1 d2 else bD4_6 d0 d1 d2
def bC4_3 (d0 d1 d2 : Bool) : Int32 := bif (d2 && true) then (-1 : Int32) else bD4_3 d0 d1 d2
def bC4_5 (d0 d1 d2 : Bool) : Int32 := bif d1 then bC4_3 d0 d1 d2 else bD4_5 d0 d1 d2
def bC4_4 (d0 d1 d2 : Bool) : Int32 := bif d0 then bC4_5 d0 d1 d2 else bD4_4 d0 d1 d2
theorem eD4_7 (f y0 y1 y2 : Int32) (hf : f < (2147483647 : Int32)) : rD4_7 f y0 y1 y2 = bD4_7 (decide (f < y0)) (decide (f < y1)) (decide (f < y2)) := rfl
theorem eD4_6 (f y0 y1 y2 : Int32) (hf : f < (2147483647 : Int32)) : rD4_6 f y0 y1 y2 = bD4_6 (decide (f < y0)) (decide (f < y1)) (decide (f < y2)) := rfl
theorem eD4_5 (f y0 y1 y2 : Int32) (hf : f < (2147483647 : Int32)) : rD4_5 f y0 y1 y2 = bD4_5 (decide (f < y0)) (decide (f < y1)) (decide (f < y2)) := rfl
theorem eD4_4 (f y0 y1 y2 : Int32) (hf : f < (2147483647 : Int32)) : rD4_4 f y0 y1 y2 = bD4_4 (decide (f < y0)) (decide (f < y1)) (decide (f < y2)) := rfl
theorem eD4_3 (f y0 y1 y2 : Int32) (hf : f < (2147483647 : Int32)) : rD4_3 f y0 y1 y2 = bD4_3 (decide (f < y0)) (decide (f < y1)) (decide (f < y2)) := by simp only [rD4_3, bD4_3, own_ite, own_dmin, own_dM hf, eD4_6 f y0 y1 y2 hf, eD4_7 f y0 y1 y2 hf]
theorem eC4_7 (f y0 y1 y2 : Int32) (hf : f < (2147483647 : Int32)) : rC4_7 f y0 y1 y2 = bC4_7 (decide (f < y0)) (decide (f < y1)) (decide (f < y2)) := by simp only [rC4_7, bC4_7, own_ite, own_dmin, own_dM hf, eD4_7 f y0 y1 y2 hf]
theorem eC4_6 (f y0 y1 y2 : Int32) (hf : f < (2147483647 : Int32)) : rC4_6 f y0 y1 y2 = bC4_6 (decide (f < y0)) (decide (f < y1)) (decide (f < y2)) := by simp only [rC4_6, bC4_6, own_ite, own_dmin, own_dM hf, eD4_6 f y0 y1 y2 hf, eC4_7 f y0 y1 y2 hf]
theorem eC4_3 (f y0 y1 y2 : Int32) (hf : f < (2147483647 : Int32)) : rC4_3 f y0 y1 y2 = bC4_3 (decide (f < y0)) (decide (f < y1)) (decide (f < y2)) := by simp only [rC4_3, bC4_3, own_ite, own_dmin, own_dM hf, eD4_3 f y0 y1 y2 hf]
theorem eC4_5 (f y0 y1 y2 : Int32) (hf : f < (2147483647 : Int32)) : rC4_5 f y0 y1 y2 = bC4_5 (decide (f < y0)) (decide (f < y1)) (decide (f < y2)) := by simp only [rC4_5, bC4_5, own_ite, own_dmin, own_dM hf, eD4_5 f y0 y1 y2 hf, eC4_3 f y0 y1 y2 hf]
theorem eC4_4 (f y0 y1 y2 : Int32) (hf : f < (2147483647 : Int32)) : rC4_4 f y0 y1 y2 = bC4_4 (decide (f < y0)) (decide (f < y1)) (decide (f < y2)) := by simp only [rC4_4, bC4_4, own_ite, own_dmin, own_dM hf, eD4_4 f y0 y1 y2 hf, eC4_5 f y0 y1 y2 hf]
theorem en4_1 (f y0 y1 y2 : Int32) (hf : f < (2147483647 : Int32)) : decide (f < (imin (imin y0 y1) (imin y2 (2147483647 : Int32)))) = ((decide (f < y0) && decide (f < y1)) && (decide (f < y2) && true)) := by simp only [own_dmin, own_dM hf]
def tr8 (y0 y1 y2 y3 y4 y5 : Int32) : List Value := [(.int (2147483647 : Int32)), (.int (imin (imin (imin y0 y1) (imin y2 y3)) (imin (imin y4 y5) (2147483647 : Int32)))), (.int (imin (imin y0 y1) (imin y2 y3))), (.int (imin (imin y4 y5) (2147483647 : Int32))), (.int (imin y0 y1)), (.int (imin y2 y3)), (.int (imin y4 y5)), (.int (2147483647 : Int32)), (.int y0), (.int y1), (.int y2), (.int y3), (.int y4), (.int y5), (.int (2147483647 : Int32)), (.int (2147483647 : Int32))]
def rD8_15 (f y0 y1 y2 y3 y4 y5 : Int32) : Int32 := (7 : Int32)
def rD8_14 (f y0 y1 y2 y3 y4 y5 : Int32) : Int32 := (6 : Int32)
def rD8_13 (f y0 y1 y2 y3 y4 y5 : Int32) : Int32 := (5 : Int32)
def rD8_12 (f y0 y1 y2 y3 y4 y5 : Int32) : Int32 := (4 : Int32)
def rD8_11 (f y0 y1 y2 y3 y4 y5 : Int32) : Int32 := (3 : Int32)
def rD8_10 (f y0 y1 y2 y3 y4 y5 : Int32) : Int32 := (2 : Int32)
def rD8_9 (f y0 y1 y2 y3 y4 y5 : Int32) : Int32 := (1 : Int32)
def rD8_8 (f y0 y1 y2 y3 y4 y5 : Int32) : Int32 := (0 : Int32)
def rD8_7 (f y0 y1 y2 y3 y4 y5 : Int32) : Int32 := if f < (2147483647 : Int32) then rD8_15 f y0 y1 y2 y3 y4 y5 else rD8_14 f y0 y1 y2 y3 y4 y5
def rD8_6 (f y0 y1 y2 y3 y4 y5 : Int32) : Int32 := if f < y4 then rD8_13 f y0 y1 y2 y3 y4 y5 else rD8_12 f y0 y1 y2 y3 y4 y5
def rD8_5 (f y0 y1 y2 y3 y4 y5 : Int32) : Int32 := if f < y2 then rD8_11 f y0 y1 y2 y3 y4 y5 else rD8_10 f y0 y1 y2 y3 y4 y5
def rD8_3 (f y0 y1 y2 y3 y4 y5 : Int32) : Int32 := if f < (imin y4 y5) then rD8_7 f y0 y1 y2 y3 y4 y5 else rD8_6 f y0 y1 y2 y3 y4 y5
def rC8_15 (f y0 y1 y2 y3 y4 y5 : Int32) : Int32 := if f < (2147483647 : Int32) then (-1 : Int32) else rD8_15 f y0 y1 y2 y3 y4 y5
def rC8_14 (f y0 y1 y2 y3 y4 y5 : Int32) : Int32 := if f < (2147483647 : Int32) then rC8_15 f y0 y1 y2 y3 y4 y5 else rD8_14 f y0 y1 y2 y3 y4 y5
def rC8_7 (f y0 y1 y2 y3 y4 y5 : Int32) : Int32 := if f < (2147483647 : Int32) then (-1 : Int32) else rD8_7 f y0 y1 y2 y3 y4 y5
def rC8_3 (f y0 y1 y2 y3 y4 y5 : Int32) : Int32 := if f < (imin (imin y4 y5) (2147483647 : Int32)) then (-1 : Int32) else rD8_3 f y0 y1 y2 y3 y4 y5
def rC8_13 (f y0 y1 y2 y3 y4 y5 : Int32) : Int32 := if f < y5 then rC8_7 f y0 y1 y2 y3 y4 y5 else rD8_13 f y0 y1 y2 y3 y4 y5
def rC8_12 (f y0 y1 y2 y3 y4 y5 : Int32) : Int32 := if f < y4 then rC8_13 f y0 y1 y2 y3 y4 y5 else rD8_12 f y0 y1 y2 y3 y4 y5
def rC8_11 (f y0 y1 y2 y3 y4 y5 : Int32) : Int32 := if f < y3 then rC8_3 f y0 y1 y2 y3 y4 y5 else rD8_11 f y0 y1 y2 y3 y4 y5
def rC8_10 (f y0 y1 y2 y3 y4 y5 : Int32) : Int32 := if f < y2 then rC8_11 f y0 y1 y2 y3 y4 y5 else rD8_10 f y0 y1 y2 y3 y4 y5
def rC8_5 (f y0 y1 y2 y3 y4 y5 : Int32) : Int32 := if f < (imin y2 y3) then rC8_3 f y0 y1 y2 y3 y4 y5 else rD8_5 f y0 y1 y2 y3 y4 y5
def rC8_9 (f y0 y1 y2 y3 y4 y5 : Int32) : Int32 := if f < y1 then rC8_5 f y0 y1 y2 y3 y4 y5 else rD8_9 f y0 y1 y2 y3 y4 y5
def rC8_8 (f y0 y1 y2 y3 y4 y5 : Int32) : Int32 := if f < y0 then rC8_9 f y0 y1 y2 y3 y4 y5 else rD8_8 f y0 y1 y2 y3 y4 y5
def fs8 (st f y0 y1 y2 y3 y4 y5 : Int32) : Int32 := if st = (0 : Int32) then rC8_8 f y0 y1 y2 y3 y4 y5 else if st = (1 : Int32) then rC8_9 f y0 y1 y2 y3 y4 y5 else if st = (2 : Int32) then rC8_10 f y0 y1 y2 y3 y4 y5 else if st = (3 : Int32) then rC8_11 f y0 y1 y2 y3 y4 y5 else if st = (4 : Int32) then rC8_12 f y0 y1 y2 y3 y4 y5 else if st = (5 : Int32) then rC8_13 f y0 y1 y2 y3 y4 y5 else if st = (6 : Int32) then rC8_14 f y0 y1 y2 y3 y4 y5 else if st = (7 : Int32) then rC8_15 f y0 y1 y2 y3 y4 y5 else (-1 : Int32)
def ff8 (st f y0 y1 y2 y3 y4 y5 : Int32) : Int32 := if st < (8 : Int32) then (if f < (imin (imin (imin y0 y1) (imin y2 y3)) (imin (imin y4 y5) (2147483647 : Int32))) then (-1 : Int32) else fs8 st f y0 y1 y2 y3 y4 y5) else (-1 : Int32)
def bD8_15 (d0 d1 d2 d3 d4 d5 : Bool) : Int32 := (7 : Int32)
def bD8_14 (d0 d1 d2 d3 d4 d5 : Bool) : Int32 := (6 : Int32)
def bD8_13 (d0 d1 d2 d3 d4 d5 : Bool) : Int32 := (5 : Int32)
def bD8_12 (d0 d1 d2 d3 d4 d5 : Bool) : Int32 := (4 : Int32)
def bD8_11 (d0 d1 d2 d3 d4 d5 : Bool) : Int32 := (3 : Int32)
def bD8_10 (d0 d1 d2 d3 d4 d5 : Bool) : Int32 := (2 : Int32)
def bD8_9 (d0 d1 d2 d3 d4 d5 : Bool) : Int32 := (1 : Int32)
def bD8_8 (d0 d1 d2 d3 d4 d5 : Bool) : Int32 := (0 : Int32)
def bD8_7 (d0 d1 d2 d3 d4 d5 : Bool) : Int32 := bif true then bD8_15 d0 d1 d2 d3 d4 d5 else bD8_14 d0 d1 d2 d3 d4 d5
def bD8_6 (d0 d1 d2 d3 d4 d5 : Bool) : Int32 := bif d4 then bD8_13 d0 d1 d2 d3 d4 d5 else bD8_12 d0 d1 d2 d3 d4 d5
def bD8_5 (d0 d1 d2 d3 d4 d5 : Bool) : Int32 := bif d2 then bD8_11 d0 d1 d2 d3 d4 d5 else bD8_10 d0 d1 d2 d3 d4 d5
def bD8_3 (d0 d1 d2 d3 d4 d5 : Bool) : Int32 := bif (d4 && d5) then bD8_7 d0 d1 d2 d3 d4 d5 else bD8_6 d0 d1 d2 d3 d4 d5
def bC8_15 (d0 d1 d2 d3 d4 d5 : Bool) : Int32 := bif true then (-1 : Int32) else bD8_15 d0 d1 d2 d3 d4 d5
def bC8_14 (d0 d1 d2 d3 d4 d5 : Bool) : Int32 := bif true then bC8_15 d0 d1 d2 d3 d4 d5 else bD8_14 d0 d1 d2 d3 d4 d5
def bC8_7 (d0 d1 d2 d3 d4 d5 : Bool) : Int32 := bif true then (-1 : Int32) else bD8_7 d0 d1 d2 d3 d4 d5
def bC8_3 (d0 d1 d2 d3 d4 d5 : Bool) : Int32 := bif ((d4 && d5) && true) then (-1 : Int32) else bD8_3 d0 d1 d2 d3 d4 d5
def bC8_13 (d0 d1 d2 d3 d4 d5 : Bool) : Int32 := bif d5 then bC8_7 d0 d1 d2 d3 d4 d5 else bD8_13 d0 d1 d2 d3 d4 d5
def bC8_12 (d0 d1 d2 d3 d4 d5 : Bool) : Int32 := bif d4 then bC8_13 d0 d1 d2 d3 d4 d5 else bD8_12 d0 d1 d2 d3 d4 d5
def bC8_11 (d0 d1 d2 d3 d4 d5 : Bool) : Int32 := bif d3 then bC8_3 d0 d1 d2 d3 d4 d5 else bD8_11 d0 d1 d2 d3 d4 d5
def bC8_10 (d0 d1 d2 d3 d4 d5 : Bool) : Int32 := bif d2 then bC8_11 d0 d1 d2 d3 d4 d5 else bD8_10 d0 d1 d2 d3 d4 d5
def bC8_5 (d0 d1 d2 d3 d4 d5 : Bool) : Int32 := bif (d2 && d3) then bC8_3 d0 d1 d2 d3 d4 d5 else bD8_5 d0 d1 d2 d3 d4 d5
def bC8_9 (d0 d1 d2 d3 d4 d5 : Bool) : Int32 := bif d1 then bC8_5 d0 d1 d2 d3 d4 d5 else bD8_9 d0 d1 d2 d3 d4 d5
def bC8_8 (d0 d1 d2 d3 d4 d5 : Bool) : Int32 := bif d0 then bC8_9 d0 d1 d2 d3 d4 d5 else bD8_8 d0 d1 d2 d3 d4 d5
theorem eD8_15 (f y0 y1 y2 y3 y4 y5 : Int32) (hf : f < (2147483647 : Int32)) : rD8_15 f y0 y1 y2 y3 y4 y5 = bD8_15 (decide (f < y0)) (decide (f < y1)) (decide (f < y2)) (decide (f < y3)) (decide (f < y4)) (decide (f < y5)) := rfl
theorem eD8_14 (f y0 y1 y2 y3 y4 y5 : Int32) (hf : f < (2147483647 : Int32)) : rD8_14 f y0 y1 y2 y3 y4 y5 = bD8_14 (decide (f < y0)) (decide (f < y1)) (decide (f < y2)) (decide (f < y3)) (decide (f < y4)) (decide (f < y5)) := rfl
theorem eD8_13 (f y0 y1 y2 y3 y4 y5 : Int32) (hf : f < (2147483647 : Int32)) : rD8_13 f y0 y1 y2 y3 y4 y5 = bD8_13 (decide (f < y0)) (decide (f < y1)) (decide (f < y2)) (decide (f < y3)) (decide (f < y4)) (decide (f < y5)) := rfl
theorem eD8_12 (f y0 y1 y2 y3 y4 y5 : Int32) (hf : f < (2147483647 : Int32)) : rD8_12 f y0 y1 y2 y3 y4 y5 = bD8_12 (decide (f < y0)) (decide (f < y1)) (decide (f < y2)) (decide (f < y3)) (decide (f < y4)) (decide (f < y5)) := rfl
theorem eD8_11 (f y0 y1 y2 y3 y4 y5 : Int32) (hf : f < (2147483647 : Int32)) : rD8_11 f y0 y1 y2 y3 y4 y5 = bD8_11 (decide (f < y0)) (decide (f < y1)) (decide (f < y2)) (decide (f < y3)) (decide (f < y4)) (decide (f < y5)) := rfl
theorem eD8_10 (f y0 y1 y2 y3 y4 y5 : Int32) (hf : f < (2147483647 : Int32)) : rD8_10 f y0 y1 y2 y3 y4 y5 = bD8_10 (decide (f < y0)) (decide (f < y1)) (decide (f < y2)) (decide (f < y3)) (decide (f < y4)) (decide (f < y5)) := rfl
theorem eD8_9 (f y0 y1 y2 y3 y4 y5 : Int32) (hf : f < (2147483647 : Int32)) : rD8_9 f y0 y1 y2 y3 y4 y5 = bD8_9 (decide (f < y0)) (decide (f < y1)) (decide (f < y2)) (decide (f < y3)) (decide (f < y4)) (decide (f < y5)) := rfl
theorem eD8_8 (f y0 y1 y2 y3 y4 y5 : Int32) (hf : f < (2147483647 : Int32)) : rD8_8 f y0 y1 y2 y3 y4 y5 = bD8_8 (decide (f < y0)) (decide (f < y1)) (decide (f < y2)) (decide (f < y3)) (decide (f < y4)) (decide (f < y5)) := rfl
theorem eD8_7 (f y0 y1 y2 y3 y4 y5 : Int32) (hf : f < (2147483647 : Int32)) : rD8_7 f y0 y1 y2 y3 y4 y5 = bD8_7 (decide (f < y0)) (decide (f < y1)) (decide (f < y2)) (decide (f < y3)) (decide (f < y4)) (decide (f < y5)) := by simp only [rD8_7, bD8_7, own_ite, own_dmin, own_dM hf, eD8_14 f y0 y1 y2 y3 y4 y5 hf, eD8_15 f y0 y1 y2 y3 y4 y5 hf]
theorem eD8_6 (f y0 y1 y2 y3 y4 y5 : Int32) (hf : f < (2147483647 : Int32)) : rD8_6 f y0 y1 y2 y3 y4 y5 = bD8_6 (decide (f < y0)) (decide (f < y1)) (decide (f < y2)) (decide (f < y3)) (decide (f < y4)) (decide (f < y5)) := by simp only [rD8_6, bD8_6, own_ite, own_dmin, own_dM hf, eD8_12 f y0 y1 y2 y3 y4 y5 hf, eD8_13 f y0 y1 y2 y3 y4 y5 hf]
theorem eD8_5 (f y0 y1 y2 y3 y4 y5 : Int32) (hf : f < (2147483647 : Int32)) : rD8_5 f y0 y1 y2 y3 y4 y5 = bD8_5 (decide (f < y0)) (decide (f < y1)) (decide (f < y2)) (decide (f < y3)) (decide (f < y4)) (decide (f < y5)) := by simp only [rD8_5, bD8_5, own_ite, own_dmin, own_dM hf, eD8_10 f y0 y1 y2 y3 y4 y5 hf, eD8_11 f y0 y1 y2 y3 y4 y5 hf]
theorem eD8_3 (f y0 y1 y2 y3 y4 y5 : Int32) (hf : f < (2147483647 : Int32)) : rD8_3 f y0 y1 y2 y3 y4 y5 = bD8_3 (decide (f < y0)) (decide (f < y1)) (decide (f < y2)) (decide (f < y3)) (decide (f < y4)) (decide (f < y5)) := by simp only [rD8_3, bD8_3, own_ite, own_dmin, own_dM hf, eD8_6 f y0 y1 y2 y3 y4 y5 hf, eD8_7 f y0 y1 y2 y3 y4 y5 hf]
theorem eC8_15 (f y0 y1 y2 y3 y4 y5 : Int32) (hf : f < (2147483647 : Int32)) : rC8_15 f y0 y1 y2 y3 y4 y5 = bC8_15 (decide (f < y0)) (decide (f < y1)) (decide (f < y2)) (decide (f < y3)) (decide (f < y4)) (decide (f < y5)) := by simp only [rC8_15, bC8_15, own_ite, own_dmin, own_dM hf, eD8_15 f y0 y1 y2 y3 y4 y5 hf]
theorem eC8_14 (f y0 y1 y2 y3 y4 y5 : Int32) (hf : f < (2147483647 : Int32)) : rC8_14 f y0 y1 y2 y3 y4 y5 = bC8_14 (decide (f < y0)) (decide (f < y1)) (decide (f < y2)) (decide (f < y3)) (decide (f < y4)) (decide (f < y5)) := by simp only [rC8_14, bC8_14, own_ite, own_dmin, own_dM hf, eD8_14 f y0 y1 y2 y3 y4 y5 hf, eC8_15 f y0 y1 y2 y3 y4 y5 hf]
theorem eC8_7 (f y0 y1 y2 y3 y4 y5 : Int32) (hf : f < (2147483647 : Int32)) : rC8_7 f y0 y1 y2 y3 y4 y5 = bC8_7 (decide (f < y0)) (decide (f < y1)) (decide (f < y2)) (decide (f < y3)) (decide (f < y4)) (decide (f < y5)) := by simp only [rC8_7, bC8_7, own_ite, own_dmin, own_dM hf, eD8_7 f y0 y1 y2 y3 y4 y5 hf]
theorem eC8_3 (f y0 y1 y2 y3 y4 y5 : Int32) (hf : f < (2147483647 : Int32)) : rC8_3 f y0 y1 y2 y3 y4 y5 = bC8_3 (decide (f < y0)) (decide (f < y1)) (decide (f < y2)) (decide (f < y3)) (decide (f < y4)) (decide (f < y5)) := by simp only [rC8_3, bC8_3, own_ite, own_dmin, own_dM hf, eD8_3 f y0 y1 y2 y3 y4 y5 hf]
theorem eC8_13 (f y0 y1 y2 y3 y4 y5 : Int32) (hf : f < (2147483647 : Int32)) : rC8_13 f y0 y1 y2 y3 y4 y5 = bC8_13 (decide (f < y0)) (decide (f < y1)) (decide (f < y2)) (decide (f < y3)) (decide (f < y4)) (decide (f < y5)) := by simp only [rC8_13, bC8_13, own_ite, own_dmin, own_dM hf, eD8_13 f y0 y1 y2 y3 y4 y5 hf, eC8_7 f y0 y1 y2 y3 y4 y5 hf]
theorem eC8_12 (f y0 y1 y2 y3 y4 y5 : Int32) (hf : f < (2147483647 : Int32)) : rC8_12 f y0 y1 y2 y3 y4 y5 = bC8_12 (decide (f < y0)) (decide (f < y1)) (decide (f < y2)) (decide (f < y3)) (decide (f < y4)) (decide (f < y5)) := by simp only [rC8_12, bC8_12, own_ite, own_dmin, own_dM hf, eD8_12 f y0 y1 y2 y3 y4 y5 hf, eC8_13 f y0 y1 y2 y3 y4 y5 hf]
theorem eC8_11 (f y0 y1 y2 y3 y4 y5 : Int32) (hf : f < (2147483647 : Int32)) : rC8_11 f y0 y1 y2 y3 y4 y5 = bC8_11 (decide (f < y0)) (decide (f < y1)) (decide (f < y2)) (decide (f < y3)) (decide (f < y4)) (decide (f < y5)) := by simp only [rC8_11, bC8_11, own_ite, own_dmin, own_dM hf, eD8_11 f y0 y1 y2 y3 y4 y5 hf, eC8_3 f y0 y1 y2 y3 y4 y5 hf]
theorem eC8_10 (f y0 y1 y2 y3 y4 y5 : Int32) (hf : f < (2147483647 : Int32)) : rC8_10 f y0 y1 y2 y3 y4 y5 = bC8_10 (decide (f < y0)) (decide (f < y1)) (decide (f < y2)) (decide (f < y3)) (decide (f < y4)) (decide (f < y5)) := by simp only [rC8_10, bC8_10, own_ite, own_dmin, own_dM hf, eD8_10 f y0 y1 y2 y3 y4 y5 hf, eC8_11 f y0 y1 y2 y3 y4 y5 hf]
theorem eC8_5 (f y0 y1 y2 y3 y4 y5 : Int32) (hf : f < (2147483647 : Int32)) : rC8_5 f y0 y1 y2 y3 y4 y5 = bC8_5 (decide (f < y0)) (decide (f < y1)) (decide (f < y2)) (decide (f < y3)) (decide (f < y4)) (decide (f < y5)) := by simp only [rC8_5, bC8_5, own_ite, own_dmin, own_dM hf, eD8_5 f y0 y1 y2 y3 y4 y5 hf, eC8_3 f y0 y1 y2 y3 y4 y5 hf]
theorem eC8_9 (f y0 y1 y2 y3 y4 y5 : Int32) (hf : f < (2147483647 : Int32)) : rC8_9 f y0 y1 y2 y3 y4 y5 = bC8_9 (decide (f < y0)) (decide (f < y1)) (decide (f < y2)) (decide (f < y3)) (decide (f < y4)) (decide (f < y5)) := by simp only [rC8_9, bC8_9, own_ite, own_dmin, own_dM hf, eD8_9 f y0 y1 y2 y3 y4 y5 hf, eC8_5 f y0 y1 y2 y3 y4 y5 hf]
theorem eC8_8 (f y0 y1 y2 y3 y4 y5 : Int32) (hf : f < (2147483647 : Int32)) : rC8_8 f y0 y1 y2 y3 y4 y5 = bC8_8 (decide (f < y0)) (decide (f < y1)) (decide (f < y2)) (decide (f < y3)) (decide (f < y4)) (decide (f < y5)) := by simp only [rC8_8, bC8_8, own_ite, own_dmin, own_dM hf, eD8_8 f y0 y1 y2 y3 y4 y5 hf, eC8_9 f y0 y1 y2 y3 y4 y5 hf]
theorem en8_1 (f y0 y1 y2 y3 y4 y5 : Int32) (hf : f < (2147483647 : Int32)) : decide (f < (imin (imin (imin y0 y1) (imin y2 y3)) (imin (imin y4 y5) (2147483647 : Int32)))) = (((decide (f < y0) && decide (f < y1)) && (decide (f < y2) && decide (f < y3))) && ((decide (f < y4) && decide (f < y5)) && true)) := by simp only [own_dmin, own_dM hf]
def bn4_1 (d0 d1 d2 : Bool) : Bool := ((d0 && d1) && (d2 && true))
def chk4_0 (e0 e1 e2 : Bool) (q0 q1 q2 : Int32) : Bool := (bif bn4_1 (dB e0 e1 e2 q0 q1 q2 (0 : Int32)) (dB e0 e1 e2 q0 q1 q2 (1 : Int32)) (dB e0 e1 e2 q0 q1 q2 (2 : Int32)) then (-1 : Int32) else bC4_4 (dB e0 e1 e2 q0 q1 q2 (0 : Int32)) (dB e0 e1 e2 q0 q1 q2 (1 : Int32)) (dB e0 e1 e2 q0 q1 q2 (2 : Int32))) == pkB (pkB (pkB (-1) e0 q0 (0 : Int32)) e1 q1 (0 : Int32)) e2 q2 (0 : Int32)
def chk4_1 (e0 e1 e2 : Bool) (q0 q1 q2 : Int32) : Bool := (bif bn4_1 (dB e0 e1 e2 q0 q1 q2 (0 : Int32)) (dB e0 e1 e2 q0 q1 q2 (1 : Int32)) (dB e0 e1 e2 q0 q1 q2 (2 : Int32)) then (-1 : Int32) else bC4_5 (dB e0 e1 e2 q0 q1 q2 (0 : Int32)) (dB e0 e1 e2 q0 q1 q2 (1 : Int32)) (dB e0 e1 e2 q0 q1 q2 (2 : Int32))) == pkB (pkB (pkB (-1) e0 q0 (1 : Int32)) e1 q1 (1 : Int32)) e2 q2 (1 : Int32)
def chk4_2 (e0 e1 e2 : Bool) (q0 q1 q2 : Int32) : Bool := (bif bn4_1 (dB e0 e1 e2 q0 q1 q2 (0 : Int32)) (dB e0 e1 e2 q0 q1 q2 (1 : Int32)) (dB e0 e1 e2 q0 q1 q2 (2 : Int32)) then (-1 : Int32) else bC4_6 (dB e0 e1 e2 q0 q1 q2 (0 : Int32)) (dB e0 e1 e2 q0 q1 q2 (1 : Int32)) (dB e0 e1 e2 q0 q1 q2 (2 : Int32))) == pkB (pkB (pkB (-1) e0 q0 (2 : Int32)) e1 q1 (2 : Int32)) e2 q2 (2 : Int32)
def chk4_3 (e0 e1 e2 : Bool) (q0 q1 q2 : Int32) : Bool := (bif bn4_1 (dB e0 e1 e2 q0 q1 q2 (0 : Int32)) (dB e0 e1 e2 q0 q1 q2 (1 : Int32)) (dB e0 e1 e2 q0 q1 q2 (2 : Int32)) then (-1 : Int32) else bC4_7 (dB e0 e1 e2 q0 q1 q2 (0 : Int32)) (dB e0 e1 e2 q0 q1 q2 (1 : Int32)) (dB e0 e1 e2 q0 q1 q2 (2 : Int32))) == pkB (pkB (pkB (-1) e0 q0 (3 : Int32)) e1 q1 (3 : Int32)) e2 q2 (3 : Int32)
theorem fin4_0 : ∀ (t : Fin 6) (e0 e1 e2 : Bool), chk4_0 e0 e1 e2 (plB false (rkB t 0)) (plB false (rkB t 1)) (plB false (rkB t 2)) = true := by decide +kernel
theorem fin4_1 : ∀ (t : Fin 6) (e0 e1 e2 : Bool), chk4_1 e0 e1 e2 (plB false (rkB t 0)) (plB false (rkB t 1)) (plB false (rkB t 2)) = true := by decide +kernel
theorem fin4_2 : ∀ (t : Fin 6) (e0 e1 e2 : Bool), chk4_2 e0 e1 e2 (plB false (rkB t 0)) (plB false (rkB t 1)) (plB false (rkB t 2)) = true := by decide +kernel
theorem fin4_3 : ∀ (t : Fin 6) (e0 e1 e2 : Bool), chk4_3 e0 e1 e2 (plB false (rkB t 0)) (plB false (rkB t 1)) (plB false (rkB t 2)) = true := by decide +kernel
theorem own_law4 {o0 o1 o2 p0 p1 p2 w0 w1 w2 f st y0 y1 y2 : Int32}  (hp : Perm3 o0 o1 o2) (hf : f < (2147483647 : Int32)) (hst : ¬ st < (0 : Int32)) (hy0 : y0 = ww w2 ((0 : Int32) * (3 : Int32) + rk o0 o1 (2 : Int32)) (0 : Int32) p2 (ww w1 ((0 : Int32) * (3 : Int32) + rk o0 o1 (1 : Int32)) (0 : Int32) p1 (ww w0 ((0 : Int32) * (3 : Int32) + rk o0 o1 (0 : Int32)) (0 : Int32) p0 (2147483647 : Int32)))) (hy1 : y1 = ww w2 ((0 : Int32) * (3 : Int32) + rk o0 o1 (2 : Int32)) (1 : Int32) p2 (ww w1 ((0 : Int32) * (3 : Int32) + rk o0 o1 (1 : Int32)) (1 : Int32) p1 (ww w0 ((0 : Int32) * (3 : Int32) + rk o0 o1 (0 : Int32)) (1 : Int32) p0 (2147483647 : Int32)))) (hy2 : y2 = ww w2 ((0 : Int32) * (3 : Int32) + rk o0 o1 (2 : Int32)) (2 : Int32) p2 (ww w1 ((0 : Int32) * (3 : Int32) + rk o0 o1 (1 : Int32)) (2 : Int32) p1 (ww w0 ((0 : Int32) * (3 : Int32) + rk o0 o1 (0 : Int32)) (2 : Int32) p0 (2147483647 : Int32)))) : ff4 st f y0 y1 y2 = pk (pk (pk (-1) w0 p0 ((0 : Int32) * (3 : Int32) + rk o0 o1 (0 : Int32)) f st) w1 p1 ((0 : Int32) * (3 : Int32) + rk o0 o1 (1 : Int32)) f st) w2 p2 ((0 : Int32) * (3 : Int32) + rk o0 o1 (2 : Int32)) f st := by
  obtain ⟨t, r0, r1, r2⟩ := own_perm hp
  have q0 : (0 : Int32) * (3 : Int32) + rk o0 o1 (0 : Int32) = plB false (rkB t 0) := by rw [r0]; exact own_plB false _
  have q1 : (0 : Int32) * (3 : Int32) + rk o0 o1 (1 : Int32) = plB false (rkB t 1) := by rw [r1]; exact own_plB false _
  have q2 : (0 : Int32) * (3 : Int32) + rk o0 o1 (2 : Int32) = plB false (rkB t 2) := by rw [r2]; exact own_plB false _
  have dn := own_dist t false false false
  simp only [q0, q1, q2] at *
  simp only [pk_e]
  have D := fun i => own_dB (f := f) (w0 := w0) (w1 := w1) (w2 := w2) (p0 := p0) (p1 := p1) (p2 := p2) dn.1 dn.2.1 dn.2.2 hf i
  by_cases hs : st < (4 : Int32)
  · have z : ff4 st f y0 y1 y2 = (bif bn4_1 (decide (f < y0)) (decide (f < y1)) (decide (f < y2)) then (-1 : Int32) else fs4 st f y0 y1 y2) := by
      rw [ff4, if_pos hs, own_ite, en4_1 f y0 y1 y2 hf]; rfl
    rw [z]
    rcases own_st4 hst hs with rfl | rfl | rfl | rfl
    · rw [show fs4 (0 : Int32) f y0 y1 y2 = rC4_4 f y0 y1 y2 from rfl, eC4_4 f y0 y1 y2 hf, hy0, hy1, hy2]
      simp only [D]
      exact eq_of_beq (fin4_0 t  _ _ _)
    · rw [show fs4 (1 : Int32) f y0 y1 y2 = rC4_5 f y0 y1 y2 from rfl, eC4_5 f y0 y1 y2 hf, hy0, hy1, hy2]
      simp only [D]
      exact eq_of_beq (fin4_1 t  _ _ _)
    · rw [show fs4 (2 : Int32) f y0 y1 y2 = rC4_6 f y0 y1 y2 from rfl, eC4_6 f y0 y1 y2 hf, hy0, hy1, hy2]
      simp only [D]
      exact eq_of_beq (fin4_2 t  _ _ _)
    · rw [show fs4 (3 : Int32) f y0 y1 y2 = rC4_7 f y0 y1 y2 from rfl, eC4_7 f y0 y1 y2 hf, hy0, hy1, hy2]
      simp only [D]
      exact eq_of_beq (fin4_3 t  _ _ _)
  · rw [ff4, if_neg hs]
    exact (own_far4 t false false false _ _ _ hs rfl rfl rfl).symm
def bn8_1 (d0 d1 d2 d3 d4 d5 : Bool) : Bool := (((d0 && d1) && (d2 && d3)) && ((d4 && d5) && true))
def chk8_0 (e0 e1 e2 : Bool) (q0 q1 q2 : Int32) : Bool := (bif bn8_1 (dB e0 e1 e2 q0 q1 q2 (0 : Int32)) (dB e0 e1 e2 q0 q1 q2 (1 : Int32)) (dB e0 e1 e2 q0 q1 q2 (2 : Int32)) (dB e0 e1 e2 q0 q1 q2 (3 : Int32)) (dB e0 e1 e2 q0 q1 q2 (4 : Int32)) (dB e0 e1 e2 q0 q1 q2 (5 : Int32)) then (-1 : Int32) else bC8_8 (dB e0 e1 e2 q0 q1 q2 (0 : Int32)) (dB e0 e1 e2 q0 q1 q2 (1 : Int32)) (dB e0 e1 e2 q0 q1 q2 (2 : Int32)) (dB e0 e1 e2 q0 q1 q2 (3 : Int32)) (dB e0 e1 e2 q0 q1 q2 (4 : Int32)) (dB e0 e1 e2 q0 q1 q2 (5 : Int32))) == pkB (pkB (pkB (-1) e0 q0 (0 : Int32)) e1 q1 (0 : Int32)) e2 q2 (0 : Int32)
def chk8_1 (e0 e1 e2 : Bool) (q0 q1 q2 : Int32) : Bool := (bif bn8_1 (dB e0 e1 e2 q0 q1 q2 (0 : Int32)) (dB e0 e1 e2 q0 q1 q2 (1 : Int32)) (dB e0 e1 e2 q0 q1 q2 (2 : Int32)) (dB e0 e1 e2 q0 q1 q2 (3 : Int32)) (dB e0 e1 e2 q0 q1 q2 (4 : Int32)) (dB e0 e1 e2 q0 q1 q2 (5 : Int32)) then (-1 : Int32) else bC8_9 (dB e0 e1 e2 q0 q1 q2 (0 : Int32)) (dB e0 e1 e2 q0 q1 q2 (1 : Int32)) (dB e0 e1 e2 q0 q1 q2 (2 : Int32)) (dB e0 e1 e2 q0 q1 q2 (3 : Int32)) (dB e0 e1 e2 q0 q1 q2 (4 : Int32)) (dB e0 e1 e2 q0 q1 q2 (5 : Int32))) == pkB (pkB (pkB (-1) e0 q0 (1 : Int32)) e1 q1 (1 : Int32)) e2 q2 (1 : Int32)
def chk8_2 (e0 e1 e2 : Bool) (q0 q1 q2 : Int32) : Bool := (bif bn8_1 (dB e0 e1 e2 q0 q1 q2 (0 : Int32)) (dB e0 e1 e2 q0 q1 q2 (1 : Int32)) (dB e0 e1 e2 q0 q1 q2 (2 : Int32)) (dB e0 e1 e2 q0 q1 q2 (3 : Int32)) (dB e0 e1 e2 q0 q1 q2 (4 : Int32)) (dB e0 e1 e2 q0 q1 q2 (5 : Int32)) then (-1 : Int32) else bC8_10 (dB e0 e1 e2 q0 q1 q2 (0 : Int32)) (dB e0 e1 e2 q0 q1 q2 (1 : Int32)) (dB e0 e1 e2 q0 q1 q2 (2 : Int32)) (dB e0 e1 e2 q0 q1 q2 (3 : Int32)) (dB e0 e1 e2 q0 q1 q2 (4 : Int32)) (dB e0 e1 e2 q0 q1 q2 (5 : Int32))) == pkB (pkB (pkB (-1) e0 q0 (2 : Int32)) e1 q1 (2 : Int32)) e2 q2 (2 : Int32)
def chk8_3 (e0 e1 e2 : Bool) (q0 q1 q2 : Int32) : Bool := (bif bn8_1 (dB e0 e1 e2 q0 q1 q2 (0 : Int32)) (dB e0 e1 e2 q0 q1 q2 (1 : Int32)) (dB e0 e1 e2 q0 q1 q2 (2 : Int32)) (dB e0 e1 e2 q0 q1 q2 (3 : Int32)) (dB e0 e1 e2 q0 q1 q2 (4 : Int32)) (dB e0 e1 e2 q0 q1 q2 (5 : Int32)) then (-1 : Int32) else bC8_11 (dB e0 e1 e2 q0 q1 q2 (0 : Int32)) (dB e0 e1 e2 q0 q1 q2 (1 : Int32)) (dB e0 e1 e2 q0 q1 q2 (2 : Int32)) (dB e0 e1 e2 q0 q1 q2 (3 : Int32)) (dB e0 e1 e2 q0 q1 q2 (4 : Int32)) (dB e0 e1 e2 q0 q1 q2 (5 : Int32))) == pkB (pkB (pkB (-1) e0 q0 (3 : Int32)) e1 q1 (3 : Int32)) e2 q2 (3 : Int32)
def chk8_4 (e0 e1 e2 : Bool) (q0 q1 q2 : Int32) : Bool := (bif bn8_1 (dB e0 e1 e2 q0 q1 q2 (0 : Int32)) (dB e0 e1 e2 q0 q1 q2 (1 : Int32)) (dB e0 e1 e2 q0 q1 q2 (2 : Int32)) (dB e0 e1 e2 q0 q1 q2 (3 : Int32)) (dB e0 e1 e2 q0 q1 q2 (4 : Int32)) (dB e0 e1 e2 q0 q1 q2 (5 : Int32)) then (-1 : Int32) else bC8_12 (dB e0 e1 e2 q0 q1 q2 (0 : Int32)) (dB e0 e1 e2 q0 q1 q2 (1 : Int32)) (dB e0 e1 e2 q0 q1 q2 (2 : Int32)) (dB e0 e1 e2 q0 q1 q2 (3 : Int32)) (dB e0 e1 e2 q0 q1 q2 (4 : Int32)) (dB e0 e1 e2 q0 q1 q2 (5 : Int32))) == pkB (pkB (pkB (-1) e0 q0 (4 : Int32)) e1 q1 (4 : Int32)) e2 q2 (4 : Int32)
def chk8_5 (e0 e1 e2 : Bool) (q0 q1 q2 : Int32) : Bool := (bif bn8_1 (dB e0 e1 e2 q0 q1 q2 (0 : Int32)) (dB e0 e1 e2 q0 q1 q2 (1 : Int32)) (dB e0 e1 e2 q0 q1 q2 (2 : Int32)) (dB e0 e1 e2 q0 q1 q2 (3 : Int32)) (dB e0 e1 e2 q0 q1 q2 (4 : Int32)) (dB e0 e1 e2 q0 q1 q2 (5 : Int32)) then (-1 : Int32) else bC8_13 (dB e0 e1 e2 q0 q1 q2 (0 : Int32)) (dB e0 e1 e2 q0 q1 q2 (1 : Int32)) (dB e0 e1 e2 q0 q1 q2 (2 : Int32)) (dB e0 e1 e2 q0 q1 q2 (3 : Int32)) (dB e0 e1 e2 q0 q1 q2 (4 : Int32)) (dB e0 e1 e2 q0 q1 q2 (5 : Int32))) == pkB (pkB (pkB (-1) e0 q0 (5 : Int32)) e1 q1 (5 : Int32)) e2 q2 (5 : Int32)
def chk8_6 (e0 e1 e2 : Bool) (q0 q1 q2 : Int32) : Bool := (bif bn8_1 (dB e0 e1 e2 q0 q1 q2 (0 : Int32)) (dB e0 e1 e2 q0 q1 q2 (1 : Int32)) (dB e0 e1 e2 q0 q1 q2 (2 : Int32)) (dB e0 e1 e2 q0 q1 q2 (3 : Int32)) (dB e0 e1 e2 q0 q1 q2 (4 : Int32)) (dB e0 e1 e2 q0 q1 q2 (5 : Int32)) then (-1 : Int32) else bC8_14 (dB e0 e1 e2 q0 q1 q2 (0 : Int32)) (dB e0 e1 e2 q0 q1 q2 (1 : Int32)) (dB e0 e1 e2 q0 q1 q2 (2 : Int32)) (dB e0 e1 e2 q0 q1 q2 (3 : Int32)) (dB e0 e1 e2 q0 q1 q2 (4 : Int32)) (dB e0 e1 e2 q0 q1 q2 (5 : Int32))) == pkB (pkB (pkB (-1) e0 q0 (6 : Int32)) e1 q1 (6 : Int32)) e2 q2 (6 : Int32)
def chk8_7 (e0 e1 e2 : Bool) (q0 q1 q2 : Int32) : Bool := (bif bn8_1 (dB e0 e1 e2 q0 q1 q2 (0 : Int32)) (dB e0 e1 e2 q0 q1 q2 (1 : Int32)) (dB e0 e1 e2 q0 q1 q2 (2 : Int32)) (dB e0 e1 e2 q0 q1 q2 (3 : Int32)) (dB e0 e1 e2 q0 q1 q2 (4 : Int32)) (dB e0 e1 e2 q0 q1 q2 (5 : Int32)) then (-1 : Int32) else bC8_15 (dB e0 e1 e2 q0 q1 q2 (0 : Int32)) (dB e0 e1 e2 q0 q1 q2 (1 : Int32)) (dB e0 e1 e2 q0 q1 q2 (2 : Int32)) (dB e0 e1 e2 q0 q1 q2 (3 : Int32)) (dB e0 e1 e2 q0 q1 q2 (4 : Int32)) (dB e0 e1 e2 q0 q1 q2 (5 : Int32))) == pkB (pkB (pkB (-1) e0 q0 (7 : Int32)) e1 q1 (7 : Int32)) e2 q2 (7 : Int32)
theorem fin8_0 : ∀ (t : Fin 6) (k0 : Bool) (k1 : Bool) (k2 : Bool) (e0 e1 e2 : Bool), chk8_0 e0 e1 e2 (plB k0 (rkB t 0)) (plB k1 (rkB t 1)) (plB k2 (rkB t 2)) = true := by decide +kernel
theorem fin8_1 : ∀ (t : Fin 6) (k0 : Bool) (k1 : Bool) (k2 : Bool) (e0 e1 e2 : Bool), chk8_1 e0 e1 e2 (plB k0 (rkB t 0)) (plB k1 (rkB t 1)) (plB k2 (rkB t 2)) = true := by decide +kernel
theorem fin8_2 : ∀ (t : Fin 6) (k0 : Bool) (k1 : Bool) (k2 : Bool) (e0 e1 e2 : Bool), chk8_2 e0 e1 e2 (plB k0 (rkB t 0)) (plB k1 (rkB t 1)) (plB k2 (rkB t 2)) = true := by decide +kernel
theorem fin8_3 : ∀ (t : Fin 6) (k0 : Bool) (k1 : Bool) (k2 : Bool) (e0 e1 e2 : Bool), chk8_3 e0 e1 e2 (plB k0 (rkB t 0)) (plB k1 (rkB t 1)) (plB k2 (rkB t 2)) = true := by decide +kernel
theorem fin8_4 : ∀ (t : Fin 6) (k0 : Bool) (k1 : Bool) (k2 : Bool) (e0 e1 e2 : Bool), chk8_4 e0 e1 e2 (plB k0 (rkB t 0)) (plB k1 (rkB t 1)) (plB k2 (rkB t 2)) = true := by decide +kernel
theorem fin8_5 : ∀ (t : Fin 6) (k0 : Bool) (k1 : Bool) (k2 : Bool) (e0 e1 e2 : Bool), chk8_5 e0 e1 e2 (plB k0 (rkB t 0)) (plB k1 (rkB t 1)) (plB k2 (rkB t 2)) = true := by decide +kernel
theorem fin8_6 : ∀ (t : Fin 6) (k0 : Bool) (k1 : Bool) (k2 : Bool) (e0 e1 e2 : Bool), chk8_6 e0 e1 e2 (plB k0 (rkB t 0)) (plB k1 (rkB t 1)) (plB k2 (rkB t 2)) = true := by decide +kernel
theorem fin8_7 : ∀ (t : Fin 6) (k0 : Bool) (k1 : Bool) (k2 : Bool) (e0 e1 e2 : Bool), chk8_7 e0 e1 e2 (plB k0 (rkB t 0)) (plB k1 (rkB t 1)) (plB k2 (rkB t 2)) = true := by decide +kernel
theorem own_law8 {o0 o1 o2 p0 p1 p2 w0 w1 w2 f st y0 y1 y2 y3 y4 y5 : Int32} (k0 k1 k2 : Int32) (hk0 : k0 = 0 ∨ k0 = 1) (hk1 : k1 = 0 ∨ k1 = 1) (hk2 : k2 = 0 ∨ k2 = 1) (hp : Perm3 o0 o1 o2) (hf : f < (2147483647 : Int32)) (hst : ¬ st < (0 : Int32)) (hy0 : y0 = ww w2 (k2 * (3 : Int32) + rk o0 o1 (2 : Int32)) (0 : Int32) p2 (ww w1 (k1 * (3 : Int32) + rk o0 o1 (1 : Int32)) (0 : Int32) p1 (ww w0 (k0 * (3 : Int32) + rk o0 o1 (0 : Int32)) (0 : Int32) p0 (2147483647 : Int32)))) (hy1 : y1 = ww w2 (k2 * (3 : Int32) + rk o0 o1 (2 : Int32)) (1 : Int32) p2 (ww w1 (k1 * (3 : Int32) + rk o0 o1 (1 : Int32)) (1 : Int32) p1 (ww w0 (k0 * (3 : Int32) + rk o0 o1 (0 : Int32)) (1 : Int32) p0 (2147483647 : Int32)))) (hy2 : y2 = ww w2 (k2 * (3 : Int32) + rk o0 o1 (2 : Int32)) (2 : Int32) p2 (ww w1 (k1 * (3 : Int32) + rk o0 o1 (1 : Int32)) (2 : Int32) p1 (ww w0 (k0 * (3 : Int32) + rk o0 o1 (0 : Int32)) (2 : Int32) p0 (2147483647 : Int32)))) (hy3 : y3 = ww w2 (k2 * (3 : Int32) + rk o0 o1 (2 : Int32)) (3 : Int32) p2 (ww w1 (k1 * (3 : Int32) + rk o0 o1 (1 : Int32)) (3 : Int32) p1 (ww w0 (k0 * (3 : Int32) + rk o0 o1 (0 : Int32)) (3 : Int32) p0 (2147483647 : Int32)))) (hy4 : y4 = ww w2 (k2 * (3 : Int32) + rk o0 o1 (2 : Int32)) (4 : Int32) p2 (ww w1 (k1 * (3 : Int32) + rk o0 o1 (1 : Int32)) (4 : Int32) p1 (ww w0 (k0 * (3 : Int32) + rk o0 o1 (0 : Int32)) (4 : Int32) p0 (2147483647 : Int32)))) (hy5 : y5 = ww w2 (k2 * (3 : Int32) + rk o0 o1 (2 : Int32)) (5 : Int32) p2 (ww w1 (k1 * (3 : Int32) + rk o0 o1 (1 : Int32)) (5 : Int32) p1 (ww w0 (k0 * (3 : Int32) + rk o0 o1 (0 : Int32)) (5 : Int32) p0 (2147483647 : Int32)))) : ff8 st f y0 y1 y2 y3 y4 y5 = pk (pk (pk (-1) w0 p0 (k0 * (3 : Int32) + rk o0 o1 (0 : Int32)) f st) w1 p1 (k1 * (3 : Int32) + rk o0 o1 (1 : Int32)) f st) w2 p2 (k2 * (3 : Int32) + rk o0 o1 (2 : Int32)) f st := by
  obtain ⟨t, r0, r1, r2⟩ := own_perm hp
  obtain ⟨b0, rfl⟩ := own_kB hk0
  obtain ⟨b1, rfl⟩ := own_kB hk1
  obtain ⟨b2, rfl⟩ := own_kB hk2
  have q0 : (bif b0 then (1 : Int32) else 0) * (3 : Int32) + rk o0 o1 (0 : Int32) = plB b0 (rkB t 0) := by rw [r0]; exact own_plB _ _
  have q1 : (bif b1 then (1 : Int32) else 0) * (3 : Int32) + rk o0 o1 (1 : Int32) = plB b1 (rkB t 1) := by rw [r1]; exact own_plB _ _
  have q2 : (bif b2 then (1 : Int32) else 0) * (3 : Int32) + rk o0 o1 (2 : Int32) = plB b2 (rkB t 2) := by rw [r2]; exact own_plB _ _
  have dn := own_dist t b0 b1 b2
  simp only [q0, q1, q2] at *
  simp only [pk_e]
  have D := fun i => own_dB (f := f) (w0 := w0) (w1 := w1) (w2 := w2) (p0 := p0) (p1 := p1) (p2 := p2) dn.1 dn.2.1 dn.2.2 hf i
  by_cases hs : st < (8 : Int32)
  · have z : ff8 st f y0 y1 y2 y3 y4 y5 = (bif bn8_1 (decide (f < y0)) (decide (f < y1)) (decide (f < y2)) (decide (f < y3)) (decide (f < y4)) (decide (f < y5)) then (-1 : Int32) else fs8 st f y0 y1 y2 y3 y4 y5) := by
      rw [ff8, if_pos hs, own_ite, en8_1 f y0 y1 y2 y3 y4 y5 hf]; rfl
    rw [z]
    rcases own_st8 hst hs with rfl | rfl | rfl | rfl | rfl | rfl | rfl | rfl
    · rw [show fs8 (0 : Int32) f y0 y1 y2 y3 y4 y5 = rC8_8 f y0 y1 y2 y3 y4 y5 from rfl, eC8_8 f y0 y1 y2 y3 y4 y5 hf, hy0, hy1, hy2, hy3, hy4, hy5]
      simp only [D]
      exact eq_of_beq (fin8_0 t b0 b1 b2 _ _ _)
    · rw [show fs8 (1 : Int32) f y0 y1 y2 y3 y4 y5 = rC8_9 f y0 y1 y2 y3 y4 y5 from rfl, eC8_9 f y0 y1 y2 y3 y4 y5 hf, hy0, hy1, hy2, hy3, hy4, hy5]
      simp only [D]
      exact eq_of_beq (fin8_1 t b0 b1 b2 _ _ _)
    · rw [show fs8 (2 : Int32) f y0 y1 y2 y3 y4 y5 = rC8_10 f y0 y1 y2 y3 y4 y5 from rfl, eC8_10 f y0 y1 y2 y3 y4 y5 hf, hy0, hy1, hy2, hy3, hy4, hy5]
      simp only [D]
      exact eq_of_beq (fin8_2 t b0 b1 b2 _ _ _)
    · rw [show fs8 (3 : Int32) f y0 y1 y2 y3 y4 y5 = rC8_11 f y0 y1 y2 y3 y4 y5 from rfl, eC8_11 f y0 y1 y2 y3 y4 y5 hf, hy0, hy1, hy2, hy3, hy4, hy5]
      simp only [D]
      exact eq_of_beq (fin8_3 t b0 b1 b2 _ _ _)
    · rw [show fs8 (4 : Int32) f y0 y1 y2 y3 y4 y5 = rC8_12 f y0 y1 y2 y3 y4 y5 from rfl, eC8_12 f y0 y1 y2 y3 y4 y5 hf, hy0, hy1, hy2, hy3, hy4, hy5]
      simp only [D]
      exact eq_of_beq (fin8_4 t b0 b1 b2 _ _ _)
    · rw [show fs8 (5 : Int32) f y0 y1 y2 y3 y4 y5 = rC8_13 f y0 y1 y2 y3 y4 y5 from rfl, eC8_13 f y0 y1 y2 y3 y4 y5 hf, hy0, hy1, hy2, hy3, hy4, hy5]
      simp only [D]
      exact eq_of_beq (fin8_5 t b0 b1 b2 _ _ _)
    · rw [show fs8 (6 : Int32) f y0 y1 y2 y3 y4 y5 = rC8_14 f y0 y1 y2 y3 y4 y5 from rfl, eC8_14 f y0 y1 y2 y3 y4 y5 hf, hy0, hy1, hy2, hy3, hy4, hy5]
      simp only [D]
      exact eq_of_beq (fin8_6 t b0 b1 b2 _ _ _)
    · rw [show fs8 (7 : Int32) f y0 y1 y2 y3 y4 y5 = rC8_15 f y0 y1 y2 y3 y4 y5 from rfl, eC8_15 f y0 y1 y2 y3 y4 y5 hf, hy0, hy1, hy2, hy3, hy4, hy5]
      simp only [D]
      exact eq_of_beq (fin8_7 t b0 b1 b2 _ _ _)
  · rw [ff8, if_neg hs]
    exact (own_far8 t b0 b1 b2 _ _ _ hs).symm
def fl (m k : Nat) : List Value := List.replicate k (.int (2147483647 : Int32)) ++ List.replicate (m - k) (.int (0 : Int32))
def QFl (Z : State) (aF : Addr) (kF : ClassId) (z : Int32) (ys : List Value) (h0 : Heap) (n0 : Nat) (v : Option Value) (h : Heap) (L : List Loc) : Prop := v = none ∧ Fr n0 L ∧ Keep h0 h [aF] ∧ Arv Z h aF kF .int z ys (.int (0 : Int32))
theorem dj65_103_0 : decode jdk_65_method_103_code 0 = .ok (.iconst 0, 1) := by decide +kernel
theorem dj65_103_1 : decode jdk_65_method_103_code 1 = .ok (.istore_n 2, 1) := by decide +kernel
theorem dj65_103_2 : decode jdk_65_method_103_code 2 = .ok (.aload_n 0, 1) := by decide +kernel
theorem dj65_103_3 : decode jdk_65_method_103_code 3 = .ok (.arraylength, 1) := by decide +kernel
theorem dj65_103_4 : decode jdk_65_method_103_code 4 = .ok (.istore_n 3, 1) := by decide +kernel
theorem dj65_103_5 : decode jdk_65_method_103_code 5 = .ok (.iload_n 2, 1) := by decide +kernel
theorem dj65_103_6 : decode jdk_65_method_103_code 6 = .ok (.iload_n 3, 1) := by decide +kernel
theorem dj65_103_7 : decode jdk_65_method_103_code 7 = .ok (.if_icmp .ge 13, 3) := by decide +kernel
theorem dj65_103_10 : decode jdk_65_method_103_code 10 = .ok (.aload_n 0, 1) := by decide +kernel
theorem dj65_103_11 : decode jdk_65_method_103_code 11 = .ok (.iload_n 2, 1) := by decide +kernel
theorem dj65_103_12 : decode jdk_65_method_103_code 12 = .ok (.iload_n 1, 1) := by decide +kernel
theorem dj65_103_13 : decode jdk_65_method_103_code 13 = .ok (.iastore, 1) := by decide +kernel
theorem dj65_103_14 : decode jdk_65_method_103_code 14 = .ok (.iinc 2 1, 3) := by decide +kernel
theorem dj65_103_17 : decode jdk_65_method_103_code 17 = .ok (.goto (-12), 3) := by decide +kernel
theorem dj65_103_20 : decode jdk_65_method_103_code 20 = .ok (.return_, 1) := by decide +kernel
set_option maxRecDepth 65536 in
set_option maxHeartbeats 40000000 in
theorem flS {p : Program} {l : Launch} {e : Env} {s : State} {m : MethodId} {args : Array Value} {below : List Frame} {meth : Method} {c : Code}  (Z : State) (a0 : Array Value) (hw : ∀ d ∈ tables_1, d.before a0 Z = true) (hx : p.tables.exec = Jvm.exec) (hby : c.code = jdk_65_method_103_code) (hlk : meth.locks = false) (hret : meth.sig.returnType = none) (hml : c.maxLocals = 4) (hnm : meth.name = "fill") (hown : s.vm.findClass "java/util/Arrays" = some m.cls) (hZ : Z.Warmed39 s.vm) (aF : Addr) (kF : ClassId) (z i i1 : Int32) (xs ys : List Value) (ix : Nat) (h0 hh : Heap) (n0 : Nat) (T0 : State) (locs0 : List Loc) (X0 : Stand p l e ({ frames := 0, cells := 0, slots := 0, locals := 0 } : Room) s m args below meth c T0 locs0 0 0) (e0 : T0.heap = hh) (N0 : Fr n0 locs0) (Z0 : n0 ≤ hh.size) (VF : Arv Z hh aF kF .int z xs (.int (0 : Int32))) (lF : n0 ≤ aF) (K0 : Keep h0 hh [aF]) (hiz : i < z) (hb0 : ¬ i < (0 : Int32)) (e1_ : i + (1 : Int32) = i1) (hix : i.toNatClampNeg = ix) (hlx : ix < xs.length) (kc : ∀ (T1 : State) (locs1 : List Loc) (h1 : Heap), Stand p l e ({ frames := 0, cells := 0, slots := 0, locals := 0 } : Room) s m args below meth c T1 locs1 0 0 → T1.heap = h1 → Fr n0 locs1 → n0 ≤ h1.size → Keep h0 h1 [aF] → Arv Z h1 aF kF .int z (xs.set ix (.int (2147483647 : Int32))) (.int (0 : Int32)) → Goes p e below (EN s (QFl Z aF kF z ys h0 n0) ({ frames := 0, cells := 0, slots := 0, locals := 0 } : Room).cells ({ frames := 0, cells := 0, slots := 0, locals := 0 } : Room).slots) (T1.setTop (mkF m 5 #[rv aF, iv (2147483647 : Int32), iv i1, iv z] []))) :
    Goes p e below (EN s (QFl Z aF kF z ys h0 n0) ({ frames := 0, cells := 0, slots := 0, locals := 0 } : Room).cells ({ frames := 0, cells := 0, slots := 0, locals := 0 } : Room).slots) (T0.setTop (mkF m 5 #[rv aF, iv (2147483647 : Int32), iv i, iv z] [])) := by
  show Gs p e below _ T0 m 5 #[rv aF, iv (2147483647 : Int32), iv i, iv z] []
  refine giloadN X0 hx (hb hby dj65_103_5) rfl ?_
  refine giloadN X0 hx (hb hby dj65_103_6) rfl ?_
  refine gicmpNo X0 hx (hb hby dj65_103_7) (tlt hiz).2.1 ?_
  refine galoadN X0 hx (hb hby dj65_103_10) rfl rfl ?_
  refine giloadN X0 hx (hb hby dj65_103_11) rfl ?_
  refine giloadN X0 hx (hb hby dj65_103_12) rfl ?_
  show Gs p e below _ T0 m 13 #[rv aF, iv (2147483647 : Int32), iv i, iv z] [(.int (2147483647 : Int32)), (.int i), (.ref aF)]
  obtain ⟨cl1, Ar1, qk1, Sz1, qz1, Ha1, Gf1⟩ := id VF
  obtain ⟨T1, h1, X1, e1, W1, st1⟩ := stI X0 hx hZ e0 Ar1 (inb_of Sz1 ⟨hb0, hiz⟩) (g := (mkF m 13 #[rv aF, iv (2147483647 : Int32), iv i, iv z] [(.int (2147483647 : Int32)), (.int i), (.ref aF)])) rfl rfl (hb hby dj65_103_13)
  have N1 := Fr.snoc X1 N0 lF
  have V1 : Arv Z h1 aF kF .int z (xs.set ix (.int (2147483647 : Int32))) (.int (0 : Int32)) := (Arv.set Ar1 qk1 Sz1 qz1 Ha1 Gf1 rfl W1 ix hix hlx)
  refine Goes.st st1 ?_
  have KK2 := K0.wr W1 (Or.inl (List.mem_of_getElem? (i := 0) rfl))
  have Z1 : n0 ≤ h1.size := by have := W1.size; have := Z0; omega
  show Gs p e below _ T1 m 14 #[rv aF, iv (2147483647 : Int32), iv i, iv z] []
  refine Goes.st (fun tg kg => XS.iinc X1.here hx rfl (hb hby dj65_103_14) rfl (l' := #[rv aF, iv (2147483647 : Int32), iv (i + (1 : Int32)), iv z]) rfl kg) ?_
  refine ggoto X1 hx (pc := 17) (pc' := 5) (hb hby dj65_103_17) (by decide) (by decide) ?_
  show Gs p e below _ T1 m 5 #[rv aF, iv (2147483647 : Int32), iv (i + (1 : Int32)), iv z] []
  rw [e1_]
  exact kc _ _ _ X1 e1 N1 Z1 KK2 V1
set_option maxRecDepth 65536 in
set_option maxHeartbeats 40000000 in
theorem flE {p : Program} {l : Launch} {e : Env} {s : State} {m : MethodId} {args : Array Value} {below : List Frame} {meth : Method} {c : Code}  (Z : State) (a0 : Array Value) (hw : ∀ d ∈ tables_1, d.before a0 Z = true) (hx : p.tables.exec = Jvm.exec) (hby : c.code = jdk_65_method_103_code) (hlk : meth.locks = false) (hret : meth.sig.returnType = none) (hml : c.maxLocals = 4) (hnm : meth.name = "fill") (hown : s.vm.findClass "java/util/Arrays" = some m.cls) (hZ : Z.Warmed39 s.vm) (aF : Addr) (kF : ClassId) (z i i1 : Int32) (xs ys : List Value) (ix : Nat) (h0 hh : Heap) (n0 : Nat) (T0 : State) (locs0 : List Loc) (X0 : Stand p l e ({ frames := 0, cells := 0, slots := 0, locals := 0 } : Room) s m args below meth c T0 locs0 0 0) (e0 : T0.heap = hh) (N0 : Fr n0 locs0) (Z0 : n0 ≤ hh.size) (VF : Arv Z hh aF kF .int z xs (.int (0 : Int32))) (lF : n0 ≤ aF) (K0 : Keep h0 hh [aF]) (hiz : ¬ i < z) (hxy : xs = ys) :
    Goes p e below (EN s (QFl Z aF kF z ys h0 n0) ({ frames := 0, cells := 0, slots := 0, locals := 0 } : Room).cells ({ frames := 0, cells := 0, slots := 0, locals := 0 } : Room).slots) (T0.setTop (mkF m 5 #[rv aF, iv (2147483647 : Int32), iv i, iv z] [])) := by
  show Gs p e below _ T0 m 5 #[rv aF, iv (2147483647 : Int32), iv i, iv z] []
  refine giloadN X0 hx (hb hby dj65_103_5) rfl ?_
  refine giloadN X0 hx (hb hby dj65_103_6) rfl ?_
  refine gicmpYes X0 hx (pc := 7) (pc' := 20) (hb hby dj65_103_7) (flt hiz).2.1 (by decide) (by decide) ?_
  refine Goes.retV X0 hx hret (hb hby dj65_103_20) (lvN X0 hlk (fun _ => rfl) ?_ (by decide) (by decide))
  rw [e0]
  exact ⟨rfl, N0, K0, by rw [← hxy]; exact VF⟩
theorem pn_java_util_Arrays : plainName "java/util/Arrays" = true := by first | (simp [plainName, overriddenIn]; done) | decide +kernel
theorem ef_Fl1 (m : MethodId) (x0 : Addr) (x1 : Int32) : entryFrame m #[(.ref x0), (.int x1)] 4 = mkF m 0 #[rv x0, iv x1, .unset, .unset] [] := by first | (simp [entryFrame, mkF, argsToLocals, Value.category]; done) | rfl
set_option maxRecDepth 65536 in
set_option maxHeartbeats 40000000 in
theorem rmFl1 (l : Launch) (Z : State) (a0 : Array Value) (hw : ∀ d ∈ tables_1, d.before a0 Z = true) (ws : List Jvm.Cond) (aF : Addr) (kF : ClassId) (h0 : Heap) (n0 : Nat) (Z0 : n0 ≤ h0.size) (lF : n0 ≤ aF) (VF : Arv Z h0 aF kF .int (8 : Int32) (fl 8 0) (.int (0 : Int32))) :
    MetFree l mN27 (head1 (Jvm.Cond.code mN27 jdk_65_method_103_code 4 none :: ws) ({ frames := 0, cells := 0, slots := 0, locals := 0 } : Room)) (fun aa U => aa = #[(.ref aF), (.int (2147483647 : Int32))] ∧ Z.Warmed39 U.vm ∧ U.heap = h0) (fun _ _ _ _ _ => True) (fun _ u1_ o_ u2_ => ∃ v_ l_, o_ = .returned v_ ∧ QFl Z aF kF (8 : Int32) (fl 8 8) h0 n0 v_ u2_.heap l_ ∧ FrameEnd u1_ o_ u2_ l_ ({ frames := 0, cells := 0, slots := 0, locals := 0 } : Room).cells ({ frames := 0, cells := 0, slots := 0, locals := 0 } : Room).slots) := by
  refine MetFree.of_bodySF (plainFor_of_name pn_java_util_Arrays) hisR ?_
  intro p e s m args below meth c s₁ Bd hml0 hP hK
  obtain ⟨rfl, hZ, hh⟩ := hP
  have hx := Bd.exec
  have hby := Bd.bytes
  have hlk := BodyLoose.notSynchronized Bd
  have hret := Bd.returns
  have hml : c.maxLocals = 4 := hml0
  have hown : s.vm.findClass "java/util/Arrays" = some m.cls := findClass_of_methodNamed Bd.named
  have hnm := (name_of_methodNamed Bd.named Bd.method).1
  have X0 : Stand p l e ({ frames := 0, cells := 0, slots := 0, locals := 0 } : Room) s m #[(.ref aF), (.int (2147483647 : Int32))] below meth c s₁ [] 0 0 := Stand.of_body Bd
  have e0 : s₁.heap = h0 := by rw [← hh, Bd.state]; rfl
  have N0 := Fr.nil n0
  refine Goes.st (E := (EN s (QFl Z aF kF (8 : Int32) (fl 8 8) h0 n0) ({ frames := 0, cells := 0, slots := 0, locals := 0 } : Room).cells ({ frames := 0, cells := 0, slots := 0, locals := 0 } : Room).slots)) (fun tg kg => castTop (ef_Fl1 m aF (2147483647 : Int32)) kg) ?_
  have K0 : Keep h0 h0 [aF] := Keep.refl _ _
  have F8 := fun (T1 : State) (locs1 : List Loc) (h1 : Heap) X1 e1 N1 Z1 K1 (V1 : Arv Z h1 aF kF .int (8 : Int32) (fl 8 8) (.int (0 : Int32))) => flE (l := l) (e := e) (args := #[(.ref aF), (.int (2147483647 : Int32))]) (below := below) Z a0 hw hx hby hlk hret hml hnm hown hZ aF kF (8 : Int32) (8 : Int32) (8 : Int32) (fl 8 8) (fl 8 8) 0 h0 h1 n0 T1 locs1 X1 e1 N1 Z1 V1 lF K1 (by decide) rfl
  have F7 := fun (T1 : State) (locs1 : List Loc) (h1 : Heap) X1 e1 N1 Z1 K1 (V1 : Arv Z h1 aF kF .int (8 : Int32) (fl 8 7) (.int (0 : Int32))) => flS (l := l) (e := e) (args := #[(.ref aF), (.int (2147483647 : Int32))]) (below := below) Z a0 hw hx hby hlk hret hml hnm hown hZ aF kF (8 : Int32) (7 : Int32) (8 : Int32) (fl 8 7) (fl 8 8) 7 h0 h1 n0 T1 locs1 X1 e1 N1 Z1 V1 lF K1 (by decide) (by decide) (by decide) (by decide) (by decide) F8
  have F6 := fun (T1 : State) (locs1 : List Loc) (h1 : Heap) X1 e1 N1 Z1 K1 (V1 : Arv Z h1 aF kF .int (8 : Int32) (fl 8 6) (.int (0 : Int32))) => flS (l := l) (e := e) (args := #[(.ref aF), (.int (2147483647 : Int32))]) (below := below) Z a0 hw hx hby hlk hret hml hnm hown hZ aF kF (8 : Int32) (6 : Int32) (7 : Int32) (fl 8 6) (fl 8 8) 6 h0 h1 n0 T1 locs1 X1 e1 N1 Z1 V1 lF K1 (by decide) (by decide) (by decide) (by decide) (by decide) F7
  have F5 := fun (T1 : State) (locs1 : List Loc) (h1 : Heap) X1 e1 N1 Z1 K1 (V1 : Arv Z h1 aF kF .int (8 : Int32) (fl 8 5) (.int (0 : Int32))) => flS (l := l) (e := e) (args := #[(.ref aF), (.int (2147483647 : Int32))]) (below := below) Z a0 hw hx hby hlk hret hml hnm hown hZ aF kF (8 : Int32) (5 : Int32) (6 : Int32) (fl 8 5) (fl 8 8) 5 h0 h1 n0 T1 locs1 X1 e1 N1 Z1 V1 lF K1 (by decide) (by decide) (by decide) (by decide) (by decide) F6
  have F4 := fun (T1 : State) (locs1 : List Loc) (h1 : Heap) X1 e1 N1 Z1 K1 (V1 : Arv Z h1 aF kF .int (8 : Int32) (fl 8 4) (.int (0 : Int32))) => flS (l := l) (e := e) (args := #[(.ref aF), (.int (2147483647 : Int32))]) (below := below) Z a0 hw hx hby hlk hret hml hnm hown hZ aF kF (8 : Int32) (4 : Int32) (5 : Int32) (fl 8 4) (fl 8 8) 4 h0 h1 n0 T1 locs1 X1 e1 N1 Z1 V1 lF K1 (by decide) (by decide) (by decide) (by decide) (by decide) F5
  have F3 := fun (T1 : State) (locs1 : List Loc) (h1 : Heap) X1 e1 N1 Z1 K1 (V1 : Arv Z h1 aF kF .int (8 : Int32) (fl 8 3) (.int (0 : Int32))) => flS (l := l) (e := e) (args := #[(.ref aF), (.int (2147483647 : Int32))]) (below := below) Z a0 hw hx hby hlk hret hml hnm hown hZ aF kF (8 : Int32) (3 : Int32) (4 : Int32) (fl 8 3) (fl 8 8) 3 h0 h1 n0 T1 locs1 X1 e1 N1 Z1 V1 lF K1 (by decide) (by decide) (by decide) (by decide) (by decide) F4
  have F2 := fun (T1 : State) (locs1 : List Loc) (h1 : Heap) X1 e1 N1 Z1 K1 (V1 : Arv Z h1 aF kF .int (8 : Int32) (fl 8 2) (.int (0 : Int32))) => flS (l := l) (e := e) (args := #[(.ref aF), (.int (2147483647 : Int32))]) (below := below) Z a0 hw hx hby hlk hret hml hnm hown hZ aF kF (8 : Int32) (2 : Int32) (3 : Int32) (fl 8 2) (fl 8 8) 2 h0 h1 n0 T1 locs1 X1 e1 N1 Z1 V1 lF K1 (by decide) (by decide) (by decide) (by decide) (by decide) F3
  have F1 := fun (T1 : State) (locs1 : List Loc) (h1 : Heap) X1 e1 N1 Z1 K1 (V1 : Arv Z h1 aF kF .int (8 : Int32) (fl 8 1) (.int (0 : Int32))) => flS (l := l) (e := e) (args := #[(.ref aF), (.int (2147483647 : Int32))]) (below := below) Z a0 hw hx hby hlk hret hml hnm hown hZ aF kF (8 : Int32) (1 : Int32) (2 : Int32) (fl 8 1) (fl 8 8) 1 h0 h1 n0 T1 locs1 X1 e1 N1 Z1 V1 lF K1 (by decide) (by decide) (by decide) (by decide) (by decide) F2
  have F0 := fun (T1 : State) (locs1 : List Loc) (h1 : Heap) X1 e1 N1 Z1 K1 (V1 : Arv Z h1 aF kF .int (8 : Int32) (fl 8 0) (.int (0 : Int32))) => flS (l := l) (e := e) (args := #[(.ref aF), (.int (2147483647 : Int32))]) (below := below) Z a0 hw hx hby hlk hret hml hnm hown hZ aF kF (8 : Int32) (0 : Int32) (1 : Int32) (fl 8 0) (fl 8 8) 0 h0 h1 n0 T1 locs1 X1 e1 N1 Z1 V1 lF K1 (by decide) (by decide) (by decide) (by decide) (by decide) F1
  show Gs p e below _ s₁ m 0 #[rv aF, iv (2147483647 : Int32), .unset, .unset] []
  refine giconst X0 hx (hb hby dj65_103_0) ?_
  refine gistoreN X0 hx (hb hby dj65_103_1) trivial (l' := #[rv aF, iv (2147483647 : Int32), iv (0 : Int32), .unset]) rfl ?_
  refine galoadN X0 hx (hb hby dj65_103_2) rfl rfl ?_
  obtain ⟨cl1, Ar1, qk1, Sz1, qz1, Ha1, Gf1⟩ := id VF
  refine Goes.st (fun tg kg => X0.arraylength hx (cell := cl1) (by rw [e0]; exact Ar1.1) (State.isArrayOf_alike hZ.alike Ar1.2.1) (g := (mkF m 3 #[rv aF, iv (2147483647 : Int32), iv (0 : Int32), .unset] [(.ref aF)])) rfl (rest := []) rfl (hb hby dj65_103_3) tg kg) ?_
  rw [len_of Sz1 qz1]
  show Gs p e below _ s₁ m 4 #[rv aF, iv (2147483647 : Int32), iv (0 : Int32), .unset] [(.int (8 : Int32))]
  refine gistoreN X0 hx (hb hby dj65_103_4) trivial (l' := #[rv aF, iv (2147483647 : Int32), iv (0 : Int32), iv (8 : Int32)]) rfl ?_
  show Gs p e below _ s₁ m 5 #[rv aF, iv (2147483647 : Int32), iv (0 : Int32), iv (8 : Int32)] []
  exact F0 _ _ _ X0 e0 N0 Z0 K0 VF
theorem ef_Fl2 (m : MethodId) (x0 : Addr) (x1 : Int32) : entryFrame m #[(.ref x0), (.int x1)] 4 = mkF m 0 #[rv x0, iv x1, .unset, .unset] [] := by first | (simp [entryFrame, mkF, argsToLocals, Value.category]; done) | rfl
set_option maxRecDepth 65536 in
set_option maxHeartbeats 40000000 in
theorem rmFl2 (l : Launch) (Z : State) (a0 : Array Value) (hw : ∀ d ∈ tables_1, d.before a0 Z = true) (ws : List Jvm.Cond) (aF : Addr) (kF : ClassId) (h0 : Heap) (n0 : Nat) (Z0 : n0 ≤ h0.size) (lF : n0 ≤ aF) (VF : Arv Z h0 aF kF .int (16 : Int32) (fl 16 0) (.int (0 : Int32))) :
    MetFree l mN27 (head1 (Jvm.Cond.code mN27 jdk_65_method_103_code 4 none :: ws) ({ frames := 0, cells := 0, slots := 0, locals := 0 } : Room)) (fun aa U => aa = #[(.ref aF), (.int (2147483647 : Int32))] ∧ Z.Warmed39 U.vm ∧ U.heap = h0) (fun _ _ _ _ _ => True) (fun _ u1_ o_ u2_ => ∃ v_ l_, o_ = .returned v_ ∧ QFl Z aF kF (16 : Int32) (fl 16 16) h0 n0 v_ u2_.heap l_ ∧ FrameEnd u1_ o_ u2_ l_ ({ frames := 0, cells := 0, slots := 0, locals := 0 } : Room).cells ({ frames := 0, cells := 0, slots := 0, locals := 0 } : Room).slots) := by
  refine MetFree.of_bodySF (plainFor_of_name pn_java_util_Arrays) hisR ?_
  intro p e s m args below meth c s₁ Bd hml0 hP hK
  obtain ⟨rfl, hZ, hh⟩ := hP
  have hx := Bd.exec
  have hby := Bd.bytes
  have hlk := BodyLoose.notSynchronized Bd
  have hret := Bd.returns
  have hml : c.maxLocals = 4 := hml0
  have hown : s.vm.findClass "java/util/Arrays" = some m.cls := findClass_of_methodNamed Bd.named
  have hnm := (name_of_methodNamed Bd.named Bd.method).1
  have X0 : Stand p l e ({ frames := 0, cells := 0, slots := 0, locals := 0 } : Room) s m #[(.ref aF), (.int (2147483647 : Int32))] below meth c s₁ [] 0 0 := Stand.of_body Bd
  have e0 : s₁.heap = h0 := by rw [← hh, Bd.state]; rfl
  have N0 := Fr.nil n0
  refine Goes.st (E := (EN s (QFl Z aF kF (16 : Int32) (fl 16 16) h0 n0) ({ frames := 0, cells := 0, slots := 0, locals := 0 } : Room).cells ({ frames := 0, cells := 0, slots := 0, locals := 0 } : Room).slots)) (fun tg kg => castTop (ef_Fl2 m aF (2147483647 : Int32)) kg) ?_
  have K0 : Keep h0 h0 [aF] := Keep.refl _ _
  have F16 := fun (T1 : State) (locs1 : List Loc) (h1 : Heap) X1 e1 N1 Z1 K1 (V1 : Arv Z h1 aF kF .int (16 : Int32) (fl 16 16) (.int (0 : Int32))) => flE (l := l) (e := e) (args := #[(.ref aF), (.int (2147483647 : Int32))]) (below := below) Z a0 hw hx hby hlk hret hml hnm hown hZ aF kF (16 : Int32) (16 : Int32) (16 : Int32) (fl 16 16) (fl 16 16) 0 h0 h1 n0 T1 locs1 X1 e1 N1 Z1 V1 lF K1 (by decide) rfl
  have F15 := fun (T1 : State) (locs1 : List Loc) (h1 : Heap) X1 e1 N1 Z1 K1 (V1 : Arv Z h1 aF kF .int (16 : Int32) (fl 16 15) (.int (0 : Int32))) => flS (l := l) (e := e) (args := #[(.ref aF), (.int (2147483647 : Int32))]) (below := below) Z a0 hw hx hby hlk hret hml hnm hown hZ aF kF (16 : Int32) (15 : Int32) (16 : Int32) (fl 16 15) (fl 16 16) 15 h0 h1 n0 T1 locs1 X1 e1 N1 Z1 V1 lF K1 (by decide) (by decide) (by decide) (by decide) (by decide) F16
  have F14 := fun (T1 : State) (locs1 : List Loc) (h1 : Heap) X1 e1 N1 Z1 K1 (V1 : Arv Z h1 aF kF .int (16 : Int32) (fl 16 14) (.int (0 : Int32))) => flS (l := l) (e := e) (args := #[(.ref aF), (.int (2147483647 : Int32))]) (below := below) Z a0 hw hx hby hlk hret hml hnm hown hZ aF kF (16 : Int32) (14 : Int32) (15 : Int32) (fl 16 14) (fl 16 16) 14 h0 h1 n0 T1 locs1 X1 e1 N1 Z1 V1 lF K1 (by decide) (by decide) (by decide) (by decide) (by decide) F15
  have F13 := fun (T1 : State) (locs1 : List Loc) (h1 : Heap) X1 e1 N1 Z1 K1 (V1 : Arv Z h1 aF kF .int (16 : Int32) (fl 16 13) (.int (0 : Int32))) => flS (l := l) (e := e) (args := #[(.ref aF), (.int (2147483647 : Int32))]) (below := below) Z a0 hw hx hby hlk hret hml hnm hown hZ aF kF (16 : Int32) (13 : Int32) (14 : Int32) (fl 16 13) (fl 16 16) 13 h0 h1 n0 T1 locs1 X1 e1 N1 Z1 V1 lF K1 (by decide) (by decide) (by decide) (by decide) (by decide) F14
  have F12 := fun (T1 : State) (locs1 : List Loc) (h1 : Heap) X1 e1 N1 Z1 K1 (V1 : Arv Z h1 aF kF .int (16 : Int32) (fl 16 12) (.int (0 : Int32))) => flS (l := l) (e := e) (args := #[(.ref aF), (.int (2147483647 : Int32))]) (below := below) Z a0 hw hx hby hlk hret hml hnm hown hZ aF kF (16 : Int32) (12 : Int32) (13 : Int32) (fl 16 12) (fl 16 16) 12 h0 h1 n0 T1 locs1 X1 e1 N1 Z1 V1 lF K1 (by decide) (by decide) (by decide) (by decide) (by decide) F13
  have F11 := fun (T1 : State) (locs1 : List Loc) (h1 : Heap) X1 e1 N1 Z1 K1 (V1 : Arv Z h1 aF kF .int (16 : Int32) (fl 16 11) (.int (0 : Int32))) => flS (l := l) (e := e) (args := #[(.ref aF), (.int (2147483647 : Int32))]) (below := below) Z a0 hw hx hby hlk hret hml hnm hown hZ aF kF (16 : Int32) (11 : Int32) (12 : Int32) (fl 16 11) (fl 16 16) 11 h0 h1 n0 T1 locs1 X1 e1 N1 Z1 V1 lF K1 (by decide) (by decide) (by decide) (by decide) (by decide) F12
  have F10 := fun (T1 : State) (locs1 : List Loc) (h1 : Heap) X1 e1 N1 Z1 K1 (V1 : Arv Z h1 aF kF .int (16 : Int32) (fl 16 10) (.int (0 : Int32))) => flS (l := l) (e := e) (args := #[(.ref aF), (.int (2147483647 : Int32))]) (below := below) Z a0 hw hx hby hlk hret hml hnm hown hZ aF kF (16 : Int32) (10 : Int32) (11 : Int32) (fl 16 10) (fl 16 16) 10 h0 h1 n0 T1 locs1 X1 e1 N1 Z1 V1 lF K1 (by decide) (by decide) (by decide) (by decide) (by decide) F11
  have F9 := fun (T1 : State) (locs1 : List Loc) (h1 : Heap) X1 e1 N1 Z1 K1 (V1 : Arv Z h1 aF kF .int (16 : Int32) (fl 16 9) (.int (0 : Int32))) => flS (l := l) (e := e) (args := #[(.ref aF), (.int (2147483647 : Int32))]) (below := below) Z a0 hw hx hby hlk hret hml hnm hown hZ aF kF (16 : Int32) (9 : Int32) (10 : Int32) (fl 16 9) (fl 16 16) 9 h0 h1 n0 T1 locs1 X1 e1 N1 Z1 V1 lF K1 (by decide) (by decide) (by decide) (by decide) (by decide) F10
  have F8 := fun (T1 : State) (locs1 : List Loc) (h1 : Heap) X1 e1 N1 Z1 K1 (V1 : Arv Z h1 aF kF .int (16 : Int32) (fl 16 8) (.int (0 : Int32))) => flS (l := l) (e := e) (args := #[(.ref aF), (.int (2147483647 : Int32))]) (below := below) Z a0 hw hx hby hlk hret hml hnm hown hZ aF kF (16 : Int32) (8 : Int32) (9 : Int32) (fl 16 8) (fl 16 16) 8 h0 h1 n0 T1 locs1 X1 e1 N1 Z1 V1 lF K1 (by decide) (by decide) (by decide) (by decide) (by decide) F9
  have F7 := fun (T1 : State) (locs1 : List Loc) (h1 : Heap) X1 e1 N1 Z1 K1 (V1 : Arv Z h1 aF kF .int (16 : Int32) (fl 16 7) (.int (0 : Int32))) => flS (l := l) (e := e) (args := #[(.ref aF), (.int (2147483647 : Int32))]) (below := below) Z a0 hw hx hby hlk hret hml hnm hown hZ aF kF (16 : Int32) (7 : Int32) (8 : Int32) (fl 16 7) (fl 16 16) 7 h0 h1 n0 T1 locs1 X1 e1 N1 Z1 V1 lF K1 (by decide) (by decide) (by decide) (by decide) (by decide) F8
  have F6 := fun (T1 : State) (locs1 : List Loc) (h1 : Heap) X1 e1 N1 Z1 K1 (V1 : Arv Z h1 aF kF .int (16 : Int32) (fl 16 6) (.int (0 : Int32))) => flS (l := l) (e := e) (args := #[(.ref aF), (.int (2147483647 : Int32))]) (below := below) Z a0 hw hx hby hlk hret hml hnm hown hZ aF kF (16 : Int32) (6 : Int32) (7 : Int32) (fl 16 6) (fl 16 16) 6 h0 h1 n0 T1 locs1 X1 e1 N1 Z1 V1 lF K1 (by decide) (by decide) (by decide) (by decide) (by decide) F7
  have F5 := fun (T1 : State) (locs1 : List Loc) (h1 : Heap) X1 e1 N1 Z1 K1 (V1 : Arv Z h1 aF kF .int (16 : Int32) (fl 16 5) (.int (0 : Int32))) => flS (l := l) (e := e) (args := #[(.ref aF), (.int (2147483647 : Int32))]) (below := below) Z a0 hw hx hby hlk hret hml hnm hown hZ aF kF (16 : Int32) (5 : Int32) (6 : Int32) (fl 16 5) (fl 16 16) 5 h0 h1 n0 T1 locs1 X1 e1 N1 Z1 V1 lF K1 (by decide) (by decide) (by decide) (by decide) (by decide) F6
  have F4 := fun (T1 : State) (locs1 : List Loc) (h1 : Heap) X1 e1 N1 Z1 K1 (V1 : Arv Z h1 aF kF .int (16 : Int32) (fl 16 4) (.int (0 : Int32))) => flS (l := l) (e := e) (args := #[(.ref aF), (.int (2147483647 : Int32))]) (below := below) Z a0 hw hx hby hlk hret hml hnm hown hZ aF kF (16 : Int32) (4 : Int32) (5 : Int32) (fl 16 4) (fl 16 16) 4 h0 h1 n0 T1 locs1 X1 e1 N1 Z1 V1 lF K1 (by decide) (by decide) (by decide) (by decide) (by decide) F5
  have F3 := fun (T1 : State) (locs1 : List Loc) (h1 : Heap) X1 e1 N1 Z1 K1 (V1 : Arv Z h1 aF kF .int (16 : Int32) (fl 16 3) (.int (0 : Int32))) => flS (l := l) (e := e) (args := #[(.ref aF), (.int (2147483647 : Int32))]) (below := below) Z a0 hw hx hby hlk hret hml hnm hown hZ aF kF (16 : Int32) (3 : Int32) (4 : Int32) (fl 16 3) (fl 16 16) 3 h0 h1 n0 T1 locs1 X1 e1 N1 Z1 V1 lF K1 (by decide) (by decide) (by decide) (by decide) (by decide) F4
  have F2 := fun (T1 : State) (locs1 : List Loc) (h1 : Heap) X1 e1 N1 Z1 K1 (V1 : Arv Z h1 aF kF .int (16 : Int32) (fl 16 2) (.int (0 : Int32))) => flS (l := l) (e := e) (args := #[(.ref aF), (.int (2147483647 : Int32))]) (below := below) Z a0 hw hx hby hlk hret hml hnm hown hZ aF kF (16 : Int32) (2 : Int32) (3 : Int32) (fl 16 2) (fl 16 16) 2 h0 h1 n0 T1 locs1 X1 e1 N1 Z1 V1 lF K1 (by decide) (by decide) (by decide) (by decide) (by decide) F3
  have F1 := fun (T1 : State) (locs1 : List Loc) (h1 : Heap) X1 e1 N1 Z1 K1 (V1 : Arv Z h1 aF kF .int (16 : Int32) (fl 16 1) (.int (0 : Int32))) => flS (l := l) (e := e) (args := #[(.ref aF), (.int (2147483647 : Int32))]) (below := below) Z a0 hw hx hby hlk hret hml hnm hown hZ aF kF (16 : Int32) (1 : Int32) (2 : Int32) (fl 16 1) (fl 16 16) 1 h0 h1 n0 T1 locs1 X1 e1 N1 Z1 V1 lF K1 (by decide) (by decide) (by decide) (by decide) (by decide) F2
  have F0 := fun (T1 : State) (locs1 : List Loc) (h1 : Heap) X1 e1 N1 Z1 K1 (V1 : Arv Z h1 aF kF .int (16 : Int32) (fl 16 0) (.int (0 : Int32))) => flS (l := l) (e := e) (args := #[(.ref aF), (.int (2147483647 : Int32))]) (below := below) Z a0 hw hx hby hlk hret hml hnm hown hZ aF kF (16 : Int32) (0 : Int32) (1 : Int32) (fl 16 0) (fl 16 16) 0 h0 h1 n0 T1 locs1 X1 e1 N1 Z1 V1 lF K1 (by decide) (by decide) (by decide) (by decide) (by decide) F1
  show Gs p e below _ s₁ m 0 #[rv aF, iv (2147483647 : Int32), .unset, .unset] []
  refine giconst X0 hx (hb hby dj65_103_0) ?_
  refine gistoreN X0 hx (hb hby dj65_103_1) trivial (l' := #[rv aF, iv (2147483647 : Int32), iv (0 : Int32), .unset]) rfl ?_
  refine galoadN X0 hx (hb hby dj65_103_2) rfl rfl ?_
  obtain ⟨cl1, Ar1, qk1, Sz1, qz1, Ha1, Gf1⟩ := id VF
  refine Goes.st (fun tg kg => X0.arraylength hx (cell := cl1) (by rw [e0]; exact Ar1.1) (State.isArrayOf_alike hZ.alike Ar1.2.1) (g := (mkF m 3 #[rv aF, iv (2147483647 : Int32), iv (0 : Int32), .unset] [(.ref aF)])) rfl (rest := []) rfl (hb hby dj65_103_3) tg kg) ?_
  rw [len_of Sz1 qz1]
  show Gs p e below _ s₁ m 4 #[rv aF, iv (2147483647 : Int32), iv (0 : Int32), .unset] [(.int (16 : Int32))]
  refine gistoreN X0 hx (hb hby dj65_103_4) trivial (l' := #[rv aF, iv (2147483647 : Int32), iv (0 : Int32), iv (16 : Int32)]) rfl ?_
  show Gs p e below _ s₁ m 5 #[rv aF, iv (2147483647 : Int32), iv (0 : Int32), iv (16 : Int32)] []
  exact F0 _ _ _ X0 e0 N0 Z0 K0 VF
def lvs (cl : Int32) : Int32 := if cl = 1 then 4 else 8
def zvs (cl : Int32) : Int32 := if cl = 1 then 8 else 16
def fvs (cl : Int32) : List Value := if cl = 1 then fl 8 8 else fl 16 16
def QIn (Z : State) (a aJ eD j0 j1 j2 aO : Addr) (kE kO : ClassId) (cl o0 o1 o2 p0 p1 p2 : Int32) (h0 : Heap) (n0 : Nat) (v : Option Value) (h : Heap) (L : List Loc) : Prop := ∃ (aR aP aF : Addr) (kR kP kF : ClassId), v = none ∧ Fr n0 L ∧ Keep h0 h [a] ∧ h0.size ≤ aR ∧ h0.size ≤ aP ∧ h0.size ≤ aF ∧ n0 ≤ aF ∧ aF ≠ aR ∧ aF ≠ aP ∧ Fld Z h a "com/example/redoubt/redoubt/policies/FirstFitQueue" "order" "[I" (.ref aO) ∧ Fld Z h a "com/example/redoubt/redoubt/policies/FirstFitQueue" "rankOf" "[I" (.ref aR) ∧ Fld Z h a "com/example/redoubt/redoubt/policies/FirstFitQueue" "procs" "[I" (.ref aP) ∧ Fld Z h a "com/example/redoubt/redoubt/policies/FirstFitQueue" "leaves" "I" (.int (lvs cl)) ∧ Fld Z h a "com/example/redoubt/redoubt/policies/FirstFitQueue" "fewest" "[I" (.ref aF) ∧ Fld Z h a "com/example/redoubt/redoubt/policies/FirstFitQueue" "shortest" "[D" .null ∧ Arv Z h aR kR .int (3 : Int32) [(.int (rk o0 o1 0)), (.int (rk o0 o1 1)), (.int (rk o0 o1 2))] (.int (0 : Int32)) ∧ Arv Z h aP kP .int (3 : Int32) [(.int (sel o0 p0 p1 p2)), (.int (sel o1 p0 p1 p2)), (.int (sel o2 p0 p1 p2))] (.int (0 : Int32)) ∧ Arv Z h aF kF .int (zvs cl) (fvs cl) (.int (0 : Int32))
theorem dp106_1_0 : decode prog_106_method_1_code 0 = .ok (.aload_n 0, 1) := by decide +kernel
theorem dp106_1_1 : decode prog_106_method_1_code 1 = .ok (.invokespecial 3, 3) := by decide +kernel
theorem dp106_1_4 : decode prog_106_method_1_code 4 = .ok (.aload_n 0, 1) := by decide +kernel
theorem dp106_1_5 : decode prog_106_method_1_code 5 = .ok (.bipush 16, 2) := by decide +kernel
theorem dp106_1_7 : decode prog_106_method_1_code 7 = .ok (.newarray .int, 2) := by decide +kernel
theorem dp106_1_9 : decode prog_106_method_1_code 9 = .ok (.putfield 9, 3) := by decide +kernel
theorem dp106_1_12 : decode prog_106_method_1_code 12 = .ok (.aload_n 0, 1) := by decide +kernel
theorem dp106_1_13 : decode prog_106_method_1_code 13 = .ok (.aload_n 2, 1) := by decide +kernel
theorem dp106_1_14 : decode prog_106_method_1_code 14 = .ok (.putfield 15, 3) := by decide +kernel
theorem dp106_1_17 : decode prog_106_method_1_code 17 = .ok (.aload_n 0, 1) := by decide +kernel
theorem dp106_1_18 : decode prog_106_method_1_code 18 = .ok (.aload_n 2, 1) := by decide +kernel
theorem dp106_1_19 : decode prog_106_method_1_code 19 = .ok (.arraylength, 1) := by decide +kernel
theorem dp106_1_20 : decode prog_106_method_1_code 20 = .ok (.newarray .int, 2) := by decide +kernel
theorem dp106_1_22 : decode prog_106_method_1_code 22 = .ok (.putfield 18, 3) := by decide +kernel
theorem dp106_1_25 : decode prog_106_method_1_code 25 = .ok (.aload_n 0, 1) := by decide +kernel
theorem dp106_1_26 : decode prog_106_method_1_code 26 = .ok (.aload_n 2, 1) := by decide +kernel
theorem dp106_1_27 : decode prog_106_method_1_code 27 = .ok (.arraylength, 1) := by decide +kernel
theorem dp106_1_28 : decode prog_106_method_1_code 28 = .ok (.newarray .int, 2) := by decide +kernel
theorem dp106_1_30 : decode prog_106_method_1_code 30 = .ok (.putfield 21, 3) := by decide +kernel
theorem dp106_1_33 : decode prog_106_method_1_code 33 = .ok (.aload_n 0, 1) := by decide +kernel
theorem dp106_1_34 : decode prog_106_method_1_code 34 = .ok (.aload_n 2, 1) := by decide +kernel
theorem dp106_1_35 : decode prog_106_method_1_code 35 = .ok (.arraylength, 1) := by decide +kernel
theorem dp106_1_36 : decode prog_106_method_1_code 36 = .ok (.newarray .double, 2) := by decide +kernel
theorem dp106_1_38 : decode prog_106_method_1_code 38 = .ok (.putfield 24, 3) := by decide +kernel
theorem dp106_1_41 : decode prog_106_method_1_code 41 = .ok (.iconst 0, 1) := by decide +kernel
theorem dp106_1_42 : decode prog_106_method_1_code 42 = .ok (.istore 4, 2) := by decide +kernel
theorem dp106_1_44 : decode prog_106_method_1_code 44 = .ok (.iload 4, 2) := by decide +kernel
theorem dp106_1_46 : decode prog_106_method_1_code 46 = .ok (.aload_n 2, 1) := by decide +kernel
theorem dp106_1_47 : decode prog_106_method_1_code 47 = .ok (.arraylength, 1) := by decide +kernel
theorem dp106_1_48 : decode prog_106_method_1_code 48 = .ok (.if_icmp .ge 59, 3) := by decide +kernel
theorem dp106_1_51 : decode prog_106_method_1_code 51 = .ok (.aload_n 1, 1) := by decide +kernel
theorem dp106_1_52 : decode prog_106_method_1_code 52 = .ok (.aload_n 2, 1) := by decide +kernel
theorem dp106_1_53 : decode prog_106_method_1_code 53 = .ok (.iload 4, 2) := by decide +kernel
theorem dp106_1_55 : decode prog_106_method_1_code 55 = .ok (.iaload, 1) := by decide +kernel
theorem dp106_1_56 : decode prog_106_method_1_code 56 = .ok (.invokeinterface 28 2, 5) := by decide +kernel
theorem dp106_1_61 : decode prog_106_method_1_code 61 = .ok (.checkcast 34, 3) := by decide +kernel
theorem dp106_1_64 : decode prog_106_method_1_code 64 = .ok (.astore 5, 2) := by decide +kernel
theorem dp106_1_66 : decode prog_106_method_1_code 66 = .ok (.aload_n 0, 1) := by decide +kernel
theorem dp106_1_67 : decode prog_106_method_1_code 67 = .ok (.getfield 18, 3) := by decide +kernel
theorem dp106_1_70 : decode prog_106_method_1_code 70 = .ok (.aload_n 2, 1) := by decide +kernel
theorem dp106_1_71 : decode prog_106_method_1_code 71 = .ok (.iload 4, 2) := by decide +kernel
theorem dp106_1_73 : decode prog_106_method_1_code 73 = .ok (.iaload, 1) := by decide +kernel
theorem dp106_1_74 : decode prog_106_method_1_code 74 = .ok (.iload 4, 2) := by decide +kernel
theorem dp106_1_76 : decode prog_106_method_1_code 76 = .ok (.iastore, 1) := by decide +kernel
theorem dp106_1_77 : decode prog_106_method_1_code 77 = .ok (.aload_n 0, 1) := by decide +kernel
theorem dp106_1_78 : decode prog_106_method_1_code 78 = .ok (.getfield 21, 3) := by decide +kernel
theorem dp106_1_81 : decode prog_106_method_1_code 81 = .ok (.iload 4, 2) := by decide +kernel
theorem dp106_1_83 : decode prog_106_method_1_code 83 = .ok (.aload 5, 2) := by decide +kernel
theorem dp106_1_85 : decode prog_106_method_1_code 85 = .ok (.invokevirtual 36, 3) := by decide +kernel
theorem dp106_1_88 : decode prog_106_method_1_code 88 = .ok (.iastore, 1) := by decide +kernel
theorem dp106_1_89 : decode prog_106_method_1_code 89 = .ok (.aload_n 0, 1) := by decide +kernel
theorem dp106_1_90 : decode prog_106_method_1_code 90 = .ok (.getfield 24, 3) := by decide +kernel
theorem dp106_1_93 : decode prog_106_method_1_code 93 = .ok (.iload 4, 2) := by decide +kernel
theorem dp106_1_95 : decode prog_106_method_1_code 95 = .ok (.aload 5, 2) := by decide +kernel
theorem dp106_1_97 : decode prog_106_method_1_code 97 = .ok (.invokevirtual 39, 3) := by decide +kernel
theorem dp106_1_100 : decode prog_106_method_1_code 100 = .ok (.dastore, 1) := by decide +kernel
theorem dp106_1_101 : decode prog_106_method_1_code 101 = .ok (.iinc 4 1, 3) := by decide +kernel
theorem dp106_1_104 : decode prog_106_method_1_code 104 = .ok (.goto (-60), 3) := by decide +kernel
theorem dp106_1_107 : decode prog_106_method_1_code 107 = .ok (.aload_n 0, 1) := by decide +kernel
theorem dp106_1_108 : decode prog_106_method_1_code 108 = .ok (.iload_n 3, 1) := by decide +kernel
theorem dp106_1_109 : decode prog_106_method_1_code 109 = .ok (.aload_n 2, 1) := by decide +kernel
theorem dp106_1_110 : decode prog_106_method_1_code 110 = .ok (.arraylength, 1) := by decide +kernel
theorem dp106_1_111 : decode prog_106_method_1_code 111 = .ok (.imul, 1) := by decide +kernel
theorem dp106_1_112 : decode prog_106_method_1_code 112 = .ok (.putfield 43, 3) := by decide +kernel
theorem dp106_1_115 : decode prog_106_method_1_code 115 = .ok (.iconst 1, 1) := by decide +kernel
theorem dp106_1_116 : decode prog_106_method_1_code 116 = .ok (.istore 4, 2) := by decide +kernel
theorem dp106_1_118 : decode prog_106_method_1_code 118 = .ok (.iload 4, 2) := by decide +kernel
theorem dp106_1_120 : decode prog_106_method_1_code 120 = .ok (.aload_n 0, 1) := by decide +kernel
theorem dp106_1_121 : decode prog_106_method_1_code 121 = .ok (.getfield 43, 3) := by decide +kernel
theorem dp106_1_124 : decode prog_106_method_1_code 124 = .ok (.if_icmp .ge 12, 3) := by decide +kernel
theorem dp106_1_127 : decode prog_106_method_1_code 127 = .ok (.iload 4, 2) := by decide +kernel
theorem dp106_1_129 : decode prog_106_method_1_code 129 = .ok (.iconst 2, 1) := by decide +kernel
theorem dp106_1_130 : decode prog_106_method_1_code 130 = .ok (.imul, 1) := by decide +kernel
theorem dp106_1_131 : decode prog_106_method_1_code 131 = .ok (.istore 4, 2) := by decide +kernel
theorem dp106_1_133 : decode prog_106_method_1_code 133 = .ok (.goto (-15), 3) := by decide +kernel
theorem dp106_1_136 : decode prog_106_method_1_code 136 = .ok (.aload_n 0, 1) := by decide +kernel
theorem dp106_1_137 : decode prog_106_method_1_code 137 = .ok (.iload 4, 2) := by decide +kernel
theorem dp106_1_139 : decode prog_106_method_1_code 139 = .ok (.putfield 47, 3) := by decide +kernel
theorem dp106_1_142 : decode prog_106_method_1_code 142 = .ok (.aload_n 0, 1) := by decide +kernel
theorem dp106_1_143 : decode prog_106_method_1_code 143 = .ok (.iconst 2, 1) := by decide +kernel
theorem dp106_1_144 : decode prog_106_method_1_code 144 = .ok (.iload 4, 2) := by decide +kernel
theorem dp106_1_146 : decode prog_106_method_1_code 146 = .ok (.imul, 1) := by decide +kernel
theorem dp106_1_147 : decode prog_106_method_1_code 147 = .ok (.newarray .int, 2) := by decide +kernel
theorem dp106_1_149 : decode prog_106_method_1_code 149 = .ok (.putfield 50, 3) := by decide +kernel
theorem dp106_1_152 : decode prog_106_method_1_code 152 = .ok (.aload_n 0, 1) := by decide +kernel
theorem dp106_1_153 : decode prog_106_method_1_code 153 = .ok (.getfield 50, 3) := by decide +kernel
theorem dp106_1_156 : decode prog_106_method_1_code 156 = .ok (.ldc 53, 2) := by decide +kernel
theorem dp106_1_158 : decode prog_106_method_1_code 158 = .ok (.invokestatic 54, 3) := by decide +kernel
theorem dp106_1_161 : decode prog_106_method_1_code 161 = .ok (.return_, 1) := by decide +kernel
theorem pn_com_example_redoubt_redoubt_policies_FirstFitQueue : plainName "com/example/redoubt/redoubt/policies/FirstFitQueue" = true := by first | (simp [plainName, overriddenIn]; done) | decide +kernel
theorem pd___D_4c4 : parseMethodDescriptor "()D" = some ⟨[], some .double⟩ := by decide +kernel
theorem pd___II_V_f26 : parseMethodDescriptor "([II)V" = some ⟨[(.array .int), .int], none⟩ := by decide +kernel
set_option maxRecDepth 65536 in
set_option maxHeartbeats 40000000 in
theorem in107 {p : Program} {l : Launch} {e : Env} {s : State} {m : MethodId} {args : Array Value} {below : List Frame} {meth : Method} {c : Code}  (Z : State) (a0 : Array Value) (hw : ∀ d ∈ tables_1, d.before a0 Z = true) (hx : p.tables.exec = Jvm.exec) (hby : c.code = prog_106_method_1_code) (hlk : meth.locks = false) (hret : meth.sig.returnType = none) (hml : c.maxLocals = 6) (hnm : meth.name = "<init>") (hown : s.vm.findClass "com/example/redoubt/redoubt/policies/FirstFitQueue" = some m.cls) (hZ : Z.Warmed39 s.vm) (a : Addr) (aJ : Addr) (eD : Addr) (j0 : Addr) (j1 : Addr) (j2 : Addr) (aO : Addr) (kE : ClassId) (kO : ClassId) (cl : Int32) (o0 : Int32) (o1 : Int32) (o2 : Int32) (p0 : Int32) (p1 : Int32) (p2 : Int32) (b14 : Addr) (b29 : Addr) (cA14 : ClassId) (cA29 : ClassId) (h0 hh : Heap) (n0 : Nat) (T0 : State) (locs0 : List Loc) (X0 : Stand p l e ({ frames := 3, cells := 5, slots := 41, locals := 40 } : Room) s m args below meth c T0 locs0 4 25) (e0 : T0.heap = hh) (N0 : Fr n0 locs0) (Z0 : n0 ≤ hh.size) (q0_ : Exa Z hh a "com/example/redoubt/redoubt/policies/FirstFitQueue") (q1_ : Fld Z hh a "com/example/redoubt/redoubt/policies/FirstFitQueue" "places" "I" (.int (0 : Int32))) (q2_ : Fld Z hh a "com/example/redoubt/redoubt/policies/FirstFitQueue" "leaves" "I" (.int (0 : Int32))) (q3_ : Fld Z hh a "com/example/redoubt/redoubt/policies/FirstFitQueue" "fewest" "[I" .null) (q4_ : Fld Z hh a "com/example/redoubt/redoubt/policies/FirstFitQueue" "shortest" "[D" .null) (q5_ : Arv Z hh aO kO .int (3 : Int32) [(.int o0), (.int o1), (.int o2)] (.int (0 : Int32))) (q6_ : Fld Z hh a "com/example/redoubt/redoubt/policies/FirstFitQueue" "order" "[I" (.ref aO)) (q7_ : Fld Z hh a "com/example/redoubt/redoubt/policies/FirstFitQueue" "rankOf" "[I" (.ref b14)) (q8_ : Fld Z hh a "com/example/redoubt/redoubt/policies/FirstFitQueue" "procs" "[I" (.ref b29)) (q9_ : Arv Z hh b14 cA14 .int (3 : Int32) [(.int (put1 o2 0 (2 : Int32) (put1 o1 0 (1 : Int32) (put1 o0 0 (0 : Int32) (0 : Int32))))), (.int (put1 o2 1 (2 : Int32) (put1 o1 1 (1 : Int32) (put1 o0 1 (0 : Int32) (0 : Int32))))), (.int (put1 o2 2 (2 : Int32) (put1 o1 2 (1 : Int32) (put1 o0 2 (0 : Int32) (0 : Int32)))))] (.int (0 : Int32))) (q10_ : Arv Z hh b29 cA29 .int (3 : Int32) [(.int (sel o0 p0 p1 p2)), (.int (sel o1 p0 p1 p2)), (.int (sel o2 p0 p1 p2))] (.int (0 : Int32))) (n0_ : a ≠ aO) (n1_ : a ≠ b14) (n2_ : aO ≠ b14) (n3_ : a ≠ b29) (n4_ : aO ≠ b29) (n5_ : b14 ≠ b29) (w0_ : n0 ≤ a) (w1_ : n0 ≤ b14) (w2_ : n0 ≤ b29) (K0 : Keep h0 hh [a]) (sz_b14 : h0.size ≤ b14) (sz_b29 : h0.size ≤ b29) (hp : Perm3 o0 o1 o2) (hcl : cl = 1 ∨ cl = 2) :
    Goes p e below (EN s (QIn Z a aJ eD j0 j1 j2 aO kE kO cl o0 o1 o2 p0 p1 p2 h0 n0) ({ frames := 3, cells := 5, slots := 41, locals := 40 } : Room).cells ({ frames := 3, cells := 5, slots := 41, locals := 40 } : Room).slots) (T0.setTop (mkF m 107 #[rv a, rv aJ, rv aO, iv cl, iv (3 : Int32), rv (sel o2 j0 j1 j2)] [])) := by
  show Gs p e below _ T0 m 107 #[rv a, rv aJ, rv aO, iv cl, iv (3 : Int32), rv (sel o2 j0 j1 j2)] []
  refine galoadN X0 hx (hb hby dp106_1_107) rfl rfl ?_
  show Gs p e below _ T0 m 108 #[rv a, rv aJ, rv aO, iv cl, iv (3 : Int32), rv (sel o2 j0 j1 j2)] [(.ref a)]
  rcases hcl with rfl | rfl
  · show Gs p e below _ T0 m 108 #[rv a, rv aJ, rv aO, iv (1 : Int32), iv (3 : Int32), rv (sel o2 j0 j1 j2)] [(.ref a)]
    refine giloadN X0 hx (hb hby dp106_1_108) rfl ?_
    refine galoadN X0 hx (hb hby dp106_1_109) rfl rfl ?_
    obtain ⟨cl1, Ar1, qk1, Sz1, qz1, Ha1, Gf1⟩ := id q5_
    refine Goes.st (fun tg kg => X0.arraylength hx (cell := cl1) (by rw [e0]; exact Ar1.1) (State.isArrayOf_alike hZ.alike Ar1.2.1) (g := (mkF m 110 #[rv a, rv aJ, rv aO, iv (1 : Int32), iv (3 : Int32), rv (sel o2 j0 j1 j2)] [(.ref aO), (.int (1 : Int32)), (.ref a)])) rfl (rest := [(.int (1 : Int32)), (.ref a)]) rfl (hb hby dp106_1_110) tg kg) ?_
    rw [len_of Sz1 qz1]
    show Gs p e below _ T0 m 111 #[rv a, rv aJ, rv aO, iv (1 : Int32), iv (3 : Int32), rv (sel o2 j0 j1 j2)] [(.int (3 : Int32)), (.int (1 : Int32)), (.ref a)]
    refine gimul X0 hx (hb hby dp106_1_111) trivial ?_
    show Gs p e below _ T0 m 112 #[rv a, rv aJ, rv aO, iv (1 : Int32), iv (3 : Int32), rv (sel o2 j0 j1 j2)] [(.int ((1 : Int32) * (3 : Int32))), (.ref a)]
    rw [show ((1 : Int32) * (3 : Int32)) = (3 : Int32) from by decide]
    show Gs p e below _ T0 m 112 #[rv a, rv aJ, rv aO, iv (1 : Int32), iv (3 : Int32), rv (sel o2 j0 j1 j2)] [(.int (3 : Int32)), (.ref a)]
    obtain ⟨T2, h2, X2, e2, W2, st2⟩ := putF X0 hx hZ hown (host := "") (Or.inl (hwk hw 192 rfl)) Via.refl e0 q1_ q0_ (Or.inr ⟨(hwk hw 193 rfl), rfl, hnm⟩) (hwk hw 145 rfl) (ty := .int) (by decide) rfl rfl (g := (mkF m 112 #[rv a, rv aJ, rv aO, iv (1 : Int32), iv (3 : Int32), rv (sel o2 j0 j1 j2)] [(.int (3 : Int32)), (.ref a)])) rfl rfl (hb hby dp106_1_112)
    have N2 := Fr.snoc X2 N0 w0_
    have G2 := q1_.same W2
    refine Goes.st st2 ?_
    have KK3 := K0.wr W2 (Or.inl (List.mem_of_getElem? (i := 0) rfl))
    have Z2 : n0 ≤ h2.size := by have := W2.size; have := Z0; omega
    show Gs p e below _ T2 m 115 #[rv a, rv aJ, rv aO, iv (1 : Int32), iv (3 : Int32), rv (sel o2 j0 j1 j2)] []
    refine giconst X2 hx (hb hby dp106_1_115) ?_
    refine gistore X2 hx (hb hby dp106_1_116) trivial (l' := #[rv a, rv aJ, rv aO, iv (1 : Int32), iv (1 : Int32), rv (sel o2 j0 j1 j2)]) rfl ?_
    refine giload X2 hx (hb hby dp106_1_118) rfl ?_
    refine galoadN X2 hx (hb hby dp106_1_120) rfl rfl ?_
    obtain ⟨T4, X4, e4, st4⟩ := getF X2 hx hZ hown (host := "") (Or.inl (hwk hw 192 rfl)) Via.refl e2 G2 (g := (mkF m 121 #[rv a, rv aJ, rv aO, iv (1 : Int32), iv (1 : Int32), rv (sel o2 j0 j1 j2)] [(.ref a), (.int (1 : Int32))])) rfl rfl (hb hby dp106_1_121)
    refine Goes.st st4 ?_
    refine gicmpNo X4 hx (hb hby dp106_1_124) (by decide) ?_
    refine giload X4 hx (hb hby dp106_1_127) rfl ?_
    refine giconst X4 hx (hb hby dp106_1_129) ?_
    refine gimul X4 hx (hb hby dp106_1_130) trivial ?_
    show Gs p e below _ T4 m 131 #[rv a, rv aJ, rv aO, iv (1 : Int32), iv (1 : Int32), rv (sel o2 j0 j1 j2)] [(.int ((1 : Int32) * (2 : Int32)))]
    rw [show ((1 : Int32) * (2 : Int32)) = (2 : Int32) from by decide]
    show Gs p e below _ T4 m 131 #[rv a, rv aJ, rv aO, iv (1 : Int32), iv (1 : Int32), rv (sel o2 j0 j1 j2)] [(.int (2 : Int32))]
    refine gistore X4 hx (hb hby dp106_1_131) trivial (l' := #[rv a, rv aJ, rv aO, iv (1 : Int32), iv (2 : Int32), rv (sel o2 j0 j1 j2)]) rfl ?_
    refine ggoto X4 hx (pc := 133) (pc' := 118) (hb hby dp106_1_133) (by decide) (by decide) ?_
    refine giload X4 hx (hb hby dp106_1_118) rfl ?_
    refine galoadN X4 hx (hb hby dp106_1_120) rfl rfl ?_
    obtain ⟨T5, X5, e5, st5⟩ := getF X4 hx hZ hown (host := "") (Or.inl (hwk hw 192 rfl)) Via.refl e4 G2 (g := (mkF m 121 #[rv a, rv aJ, rv aO, iv (1 : Int32), iv (2 : Int32), rv (sel o2 j0 j1 j2)] [(.ref a), (.int (2 : Int32))])) rfl rfl (hb hby dp106_1_121)
    refine Goes.st st5 ?_
    refine gicmpNo X5 hx (hb hby dp106_1_124) (by decide) ?_
    refine giload X5 hx (hb hby dp106_1_127) rfl ?_
    refine giconst X5 hx (hb hby dp106_1_129) ?_
    refine gimul X5 hx (hb hby dp106_1_130) trivial ?_
    show Gs p e below _ T5 m 131 #[rv a, rv aJ, rv aO, iv (1 : Int32), iv (2 : Int32), rv (sel o2 j0 j1 j2)] [(.int ((2 : Int32) * (2 : Int32)))]
    rw [show ((2 : Int32) * (2 : Int32)) = (4 : Int32) from by decide]
    show Gs p e below _ T5 m 131 #[rv a, rv aJ, rv aO, iv (1 : Int32), iv (2 : Int32), rv (sel o2 j0 j1 j2)] [(.int (4 : Int32))]
    refine gistore X5 hx (hb hby dp106_1_131) trivial (l' := #[rv a, rv aJ, rv aO, iv (1 : Int32), iv (4 : Int32), rv (sel o2 j0 j1 j2)]) rfl ?_
    refine ggoto X5 hx (pc := 133) (pc' := 118) (hb hby dp106_1_133) (by decide) (by decide) ?_
    refine giload X5 hx (hb hby dp106_1_118) rfl ?_
    refine galoadN X5 hx (hb hby dp106_1_120) rfl rfl ?_
    obtain ⟨T6, X6, e6, st6⟩ := getF X5 hx hZ hown (host := "") (Or.inl (hwk hw 192 rfl)) Via.refl e5 G2 (g := (mkF m 121 #[rv a, rv aJ, rv aO, iv (1 : Int32), iv (4 : Int32), rv (sel o2 j0 j1 j2)] [(.ref a), (.int (4 : Int32))])) rfl rfl (hb hby dp106_1_121)
    refine Goes.st st6 ?_
    refine gicmpYes X6 hx (pc := 124) (pc' := 136) (hb hby dp106_1_124) (by decide) (by decide) (by decide) ?_
    refine galoadN X6 hx (hb hby dp106_1_136) rfl rfl ?_
    refine giload X6 hx (hb hby dp106_1_137) rfl ?_
    have f8 := (q2_.other W2 (Or.inr (slot_ne (Or.inr (hwk hw 195 rfl)) (Or.inr (hwk hw 193 rfl)) (by decide) (t := .int) (t' := .int) (by decide) (by decide))))
    have f9 := (q0_.wr W2)
    obtain ⟨T7, h7, X7, e7, W7, st7⟩ := putF X6 hx hZ hown (host := "") (Or.inl (hwk hw 194 rfl)) Via.refl e6 f8 f9 (Or.inr ⟨(hwk hw 195 rfl), rfl, hnm⟩) (hwk hw 145 rfl) (ty := .int) (by decide) rfl rfl (g := (mkF m 139 #[rv a, rv aJ, rv aO, iv (1 : Int32), iv (4 : Int32), rv (sel o2 j0 j1 j2)] [(.int (4 : Int32)), (.ref a)])) rfl rfl (hb hby dp106_1_139)
    have N7 := Fr.snoc X7 N2 w0_
    have G7 := f8.same W7
    refine Goes.st st7 ?_
    have KK10 := KK3.wr W7 (Or.inl (List.mem_of_getElem? (i := 0) rfl))
    have Z7 : n0 ≤ h7.size := by have := W7.size; have := Z2; omega
    show Gs p e below _ T7 m 142 #[rv a, rv aJ, rv aO, iv (1 : Int32), iv (4 : Int32), rv (sel o2 j0 j1 j2)] []
    refine galoadN X7 hx (hb hby dp106_1_142) rfl rfl ?_
    refine giconst X7 hx (hb hby dp106_1_143) ?_
    refine giload X7 hx (hb hby dp106_1_144) rfl ?_
    refine gimul X7 hx (hb hby dp106_1_146) trivial ?_
    show Gs p e below _ T7 m 147 #[rv a, rv aJ, rv aO, iv (1 : Int32), iv (4 : Int32), rv (sel o2 j0 j1 j2)] [(.int ((2 : Int32) * (4 : Int32))), (.ref a)]
    rw [show ((2 : Int32) * (4 : Int32)) = (8 : Int32) from by decide]
    show Gs p e below _ T7 m 147 #[rv a, rv aJ, rv aO, iv (1 : Int32), iv (4 : Int32), rv (sel o2 j0 j1 j2)] [(.int (8 : Int32)), (.ref a)]
    obtain ⟨T11, h11, cA11, X11, e11, E11, A11, st11⟩ := newP X7 hx hZ (hwk hw 2 rfl) e7 (g := (mkF m 147 #[rv a, rv aJ, rv aO, iv (1 : Int32), iv (4 : Int32), rv (sel o2 j0 j1 j2)] [(.int (8 : Int32)), (.ref a)])) rfl (hb hby dp106_1_147) rfl (by decide) (cap := 8) (by decide) (by decide) (by decide) (by decide)
    obtain ⟨b11, g11⟩ : ∃ z, z = h7.size := ⟨_, rfl⟩
    rw [← g11] at A11 st11
    have f12 := (f9.wr W7)
    have ne_a_b11 : a ≠ b11 := Nat.ne_of_lt (Nat.lt_of_lt_of_le f12.lt (Nat.le_of_eq g11.symm))
    have f13 := ((q5_.other W2 (Ne.symm n0_)).other W7 (Ne.symm n0_))
    have ne_aO_b11 : aO ≠ b11 := Nat.ne_of_lt (Nat.lt_of_lt_of_le f13.lt (Nat.le_of_eq g11.symm))
    have f14 := ((q9_.other W2 (Ne.symm n1_)).other W7 (Ne.symm n1_))
    have ne_b14_b11 : b14 ≠ b11 := Nat.ne_of_lt (Nat.lt_of_lt_of_le f14.lt (Nat.le_of_eq g11.symm))
    have f15 := ((q10_.other W2 (Ne.symm n3_)).other W7 (Ne.symm n3_))
    have ne_b29_b11 : b29 ≠ b11 := Nat.ne_of_lt (Nat.lt_of_lt_of_le f15.lt (Nat.le_of_eq g11.symm))
    have lo_b11 : n0 ≤ b11 := by have := Z7; omega
    have sz_b11 : h0.size ≤ b11 := by have := KK10.1; omega
    have KK16 := KK10.ext E11
    have V11 : Arv Z h11 b11 cA11 .int (8 : Int32) [(.int (0 : Int32)), (.int (0 : Int32)), (.int (0 : Int32)), (.int (0 : Int32)), (.int (0 : Int32)), (.int (0 : Int32)), (.int (0 : Int32)), (.int (0 : Int32))] (.int (0 : Int32)) := (Arv.new A11 (by decide)).pad (pad_rep [] _ 8)
    refine Goes.st st11 ?_
    have Z11 : n0 ≤ h11.size := Nat.le_trans Z7 E11.1
    show Gs p e below _ T11 m 149 #[rv a, rv aJ, rv aO, iv (1 : Int32), iv (4 : Int32), rv (sel o2 j0 j1 j2)] [(.ref b11), (.ref a)]
    have f18 := (((q3_.other W2 (Or.inr (slot_ne (Or.inr (hwk hw 197 rfl)) (Or.inr (hwk hw 193 rfl)) (by decide) (t := (.array .int)) (t' := .int) (by decide) (by decide)))).other W7 (Or.inr (slot_ne (Or.inr (hwk hw 197 rfl)) (Or.inr (hwk hw 195 rfl)) (by decide) (t := (.array .int)) (t' := .int) (by decide) (by decide)))).ext E11)
    have f19 := (f12.ext E11)
    obtain ⟨T17, h17, X17, e17, W17, st17⟩ := putF X11 hx hZ hown (host := "") (Or.inl (hwk hw 196 rfl)) Via.refl e11 f18 f19 (Or.inr ⟨(hwk hw 197 rfl), rfl, hnm⟩) (hwk hw 145 rfl) (ty := (.array .int)) (by decide) rfl rfl (g := (mkF m 149 #[rv a, rv aJ, rv aO, iv (1 : Int32), iv (4 : Int32), rv (sel o2 j0 j1 j2)] [(.ref b11), (.ref a)])) rfl rfl (hb hby dp106_1_149)
    have N17 := Fr.snoc X17 N7 w0_
    have G17 := f18.same W17
    refine Goes.st st17 ?_
    have KK20 := KK16.wr W17 (Or.inl (List.mem_of_getElem? (i := 0) rfl))
    have Z17 : n0 ≤ h17.size := by have := W17.size; have := Z11; omega
    show Gs p e below _ T17 m 152 #[rv a, rv aJ, rv aO, iv (1 : Int32), iv (4 : Int32), rv (sel o2 j0 j1 j2)] []
    refine galoadN X17 hx (hb hby dp106_1_152) rfl rfl ?_
    obtain ⟨T21, X21, e21, st21⟩ := getF X17 hx hZ hown (host := "") (Or.inl (hwk hw 196 rfl)) Via.refl e17 G17 (g := (mkF m 153 #[rv a, rv aJ, rv aO, iv (1 : Int32), iv (4 : Int32), rv (sel o2 j0 j1 j2)] [(.ref a)])) rfl rfl (hb hby dp106_1_153)
    refine Goes.st st21 ?_
    show Gs p e below _ T21 m 156 #[rv a, rv aJ, rv aO, iv (1 : Int32), iv (4 : Int32), rv (sel o2 j0 j1 j2)] [(.ref b11)]
    refine Goes.st (fun tg kg => X21.ldcInt hx hown (mvT hZ (hwk hw 198 rfl)) (g := (mkF m 156 #[rv a, rv aJ, rv aO, iv (1 : Int32), iv (4 : Int32), rv (sel o2 j0 j1 j2)] [(.ref b11)])) rfl (hb hby dp106_1_156) tg kg) ?_
    show Gs p e below _ T21 m 158 #[rv a, rv aJ, rv aO, iv (1 : Int32), iv (4 : Int32), rv (sel o2 j0 j1 j2)] [(.int (2147483647 : Int32)), (.ref b11)]
    have f22 := (V11.other W17 (Ne.symm ne_a_b11))
    obtain ⟨_, _, ⟨T23, L23, k23, n23⟩, -, X23, ⟨Lc23, hQ23, l23, y23, z23⟩, st23⟩ := Jvm.LawKit.callS X21 hx (y := mN27) hown (mvT hZ (hwk hw 199 rfl)) (mvT hZ (hwk hw 200 rfl)) (mvT hZ (hwk hw 201 rfl)) (mvT hZ (hwk hw 202 rfl)) (by decide) (backOf (W := 0) (rmFl1 l Z a0 hw [] b11 cA11 h17 n0 Z17 lo_b11 f22) hZ (hwk hw 202 rfl) (hwk hw 201 rfl) (by decide) (by decide)) (g := (mkF m 158 #[rv a, rv aJ, rv aO, iv (1 : Int32), iv (4 : Int32), rv (sel o2 j0 j1 j2)] [(.int (2147483647 : Int32)), (.ref b11)])) rfl (by rw [hml]; rfl) (argsL := [(.ref b11), (.int (2147483647 : Int32))]) (rest := []) (lenOf pd___II_V_f26 rfl) rfl (by show 2 * 0 + _ ≤ _; exact Nat.le_of_eq rfl) (hb hby dp106_1_158) (fun _ _ => ⟨rfl, e21, (by decide : 5 + 0 ≤ 5), (by decide : 33 + 0 ≤ 41)⟩)
    dsimp only [Pt.U, Pt.locs, Pt.cells, Pt.slots] at X23 l23 y23 z23 st23 hQ23
    subst l23 y23 z23
    obtain ⟨rfl, N23q, K23, VF23⟩ := hQ23
    have KK24 := KK20.trans K23 (allS (Or.inr sz_b11) all0)
    have Z23 : n0 ≤ T23.heap.size := Nat.le_trans Z17 K23.1
    have N23 := Fr.app N17 N23q
    refine Goes.st st23 ?_
    show Gs p e below _ T23 m 161 #[rv a, rv aJ, rv aO, iv (1 : Int32), iv (4 : Int32), rv (sel o2 j0 j1 j2)] []
    have f25 := (((((q6_.other W2 (Or.inr (slot_ne (Or.inr (hwk hw 154 rfl)) (Or.inr (hwk hw 193 rfl)) (by decide) (t := (.array .int)) (t' := .int) (by decide) (by decide)))).other W7 (Or.inr (slot_ne (Or.inr (hwk hw 154 rfl)) (Or.inr (hwk hw 195 rfl)) (by decide) (t := (.array .int)) (t' := .int) (by decide) (by decide)))).ext E11).other W17 (Or.inr (slot_ne (Or.inr (hwk hw 154 rfl)) (Or.inr (hwk hw 197 rfl)) (by decide) (t := (.array .int)) (t' := (.array .int)) (by decide) (by decide)))).keep K23 (ninS ne_a_b11 nin0))
    have f26 := (((((q7_.other W2 (Or.inr (slot_ne (Or.inr (hwk hw 156 rfl)) (Or.inr (hwk hw 193 rfl)) (by decide) (t := (.array .int)) (t' := .int) (by decide) (by decide)))).other W7 (Or.inr (slot_ne (Or.inr (hwk hw 156 rfl)) (Or.inr (hwk hw 195 rfl)) (by decide) (t := (.array .int)) (t' := .int) (by decide) (by decide)))).ext E11).other W17 (Or.inr (slot_ne (Or.inr (hwk hw 156 rfl)) (Or.inr (hwk hw 197 rfl)) (by decide) (t := (.array .int)) (t' := (.array .int)) (by decide) (by decide)))).keep K23 (ninS ne_a_b11 nin0))
    have f27 := (((((q8_.other W2 (Or.inr (slot_ne (Or.inr (hwk hw 158 rfl)) (Or.inr (hwk hw 193 rfl)) (by decide) (t := (.array .int)) (t' := .int) (by decide) (by decide)))).other W7 (Or.inr (slot_ne (Or.inr (hwk hw 158 rfl)) (Or.inr (hwk hw 195 rfl)) (by decide) (t := (.array .int)) (t' := .int) (by decide) (by decide)))).ext E11).other W17 (Or.inr (slot_ne (Or.inr (hwk hw 158 rfl)) (Or.inr (hwk hw 197 rfl)) (by decide) (t := (.array .int)) (t' := (.array .int)) (by decide) (by decide)))).keep K23 (ninS ne_a_b11 nin0))
    have f28 := (((G7.ext E11).other W17 (Or.inr (slot_ne (Or.inr (hwk hw 195 rfl)) (Or.inr (hwk hw 197 rfl)) (by decide) (t := .int) (t' := (.array .int)) (by decide) (by decide)))).keep K23 (ninS ne_a_b11 nin0))
    have f29 := (G17.keep K23 (ninS ne_a_b11 nin0))
    have f30 := (((((q4_.other W2 (Or.inr (slot_ne (Or.inl (hwk hw 222 rfl)) (Or.inr (hwk hw 193 rfl)) (by decide) (t := (.array .double)) (t' := .int) (by decide) (by decide)))).other W7 (Or.inr (slot_ne (Or.inl (hwk hw 222 rfl)) (Or.inr (hwk hw 195 rfl)) (by decide) (t := (.array .double)) (t' := .int) (by decide) (by decide)))).ext E11).other W17 (Or.inr (slot_ne (Or.inl (hwk hw 222 rfl)) (Or.inr (hwk hw 197 rfl)) (by decide) (t := (.array .double)) (t' := (.array .int)) (by decide) (by decide)))).keep K23 (ninS ne_a_b11 nin0))
    have f31 := (((f14.ext E11).other W17 (Ne.symm n1_)).keep K23 (ninS ne_b14_b11 nin0))
    have f32 := (((f15.ext E11).other W17 (Ne.symm n3_)).keep K23 (ninS ne_b29_b11 nin0))
    refine Goes.retV X23 hx hret (hb hby dp106_1_161) (lvN X23 hlk (fun _ => rfl) ?_ (by decide) (by decide))
    exact ⟨b14, b29, b11, cA14, cA29, cA11, rfl, N23, KK24, sz_b14, sz_b29, sz_b11, lo_b11, (Ne.symm ne_b14_b11), (Ne.symm ne_b29_b11), f25, f26, f27, f28, f29, f30, own_rkA hp f31, f32, VF23⟩
  · show Gs p e below _ T0 m 108 #[rv a, rv aJ, rv aO, iv (2 : Int32), iv (3 : Int32), rv (sel o2 j0 j1 j2)] [(.ref a)]
    refine giloadN X0 hx (hb hby dp106_1_108) rfl ?_
    refine galoadN X0 hx (hb hby dp106_1_109) rfl rfl ?_
    obtain ⟨cl33, Ar33, qk33, Sz33, qz33, Ha33, Gf33⟩ := id q5_
    refine Goes.st (fun tg kg => X0.arraylength hx (cell := cl33) (by rw [e0]; exact Ar33.1) (State.isArrayOf_alike hZ.alike Ar33.2.1) (g := (mkF m 110 #[rv a, rv aJ, rv aO, iv (2 : Int32), iv (3 : Int32), rv (sel o2 j0 j1 j2)] [(.ref aO), (.int (2 : Int32)), (.ref a)])) rfl (rest := [(.int (2 : Int32)), (.ref a)]) rfl (hb hby dp106_1_110) tg kg) ?_
    rw [len_of Sz33 qz33]
    show Gs p e below _ T0 m 111 #[rv a, rv aJ, rv aO, iv (2 : Int32), iv (3 : Int32), rv (sel o2 j0 j1 j2)] [(.int (3 : Int32)), (.int (2 : Int32)), (.ref a)]
    refine gimul X0 hx (hb hby dp106_1_111) trivial ?_
    show Gs p e below _ T0 m 112 #[rv a, rv aJ, rv aO, iv (2 : Int32), iv (3 : Int32), rv (sel o2 j0 j1 j2)] [(.int ((2 : Int32) * (3 : Int32))), (.ref a)]
    rw [show ((2 : Int32) * (3 : Int32)) = (6 : Int32) from by decide]
    show Gs p e below _ T0 m 112 #[rv a, rv aJ, rv aO, iv (2 : Int32), iv (3 : Int32), rv (sel o2 j0 j1 j2)] [(.int (6 : Int32)), (.ref a)]
    obtain ⟨T34, h34, X34, e34, W34, st34⟩ := putF X0 hx hZ hown (host := "") (Or.inl (hwk hw 192 rfl)) Via.refl e0 q1_ q0_ (Or.inr ⟨(hwk hw 193 rfl), rfl, hnm⟩) (hwk hw 145 rfl) (ty := .int) (by decide) rfl rfl (g := (mkF m 112 #[rv a, rv aJ, rv aO, iv (2 : Int32), iv (3 : Int32), rv (sel o2 j0 j1 j2)] [(.int (6 : Int32)), (.ref a)])) rfl rfl (hb hby dp106_1_112)
    have N34 := Fr.snoc X34 N0 w0_
    have G34 := q1_.same W34
    refine Goes.st st34 ?_
    have KK35 := K0.wr W34 (Or.inl (List.mem_of_getElem? (i := 0) rfl))
    have Z34 : n0 ≤ h34.size := by have := W34.size; have := Z0; omega
    show Gs p e below _ T34 m 115 #[rv a, rv aJ, rv aO, iv (2 : Int32), iv (3 : Int32), rv (sel o2 j0 j1 j2)] []
    refine giconst X34 hx (hb hby dp106_1_115) ?_
    refine gistore X34 hx (hb hby dp106_1_116) trivial (l' := #[rv a, rv aJ, rv aO, iv (2 : Int32), iv (1 : Int32), rv (sel o2 j0 j1 j2)]) rfl ?_
    refine giload X34 hx (hb hby dp106_1_118) rfl ?_
    refine galoadN X34 hx (hb hby dp106_1_120) rfl rfl ?_
    obtain ⟨T36, X36, e36, st36⟩ := getF X34 hx hZ hown (host := "") (Or.inl (hwk hw 192 rfl)) Via.refl e34 G34 (g := (mkF m 121 #[rv a, rv aJ, rv aO, iv (2 : Int32), iv (1 : Int32), rv (sel o2 j0 j1 j2)] [(.ref a), (.int (1 : Int32))])) rfl rfl (hb hby dp106_1_121)
    refine Goes.st st36 ?_
    refine gicmpNo X36 hx (hb hby dp106_1_124) (by decide) ?_
    refine giload X36 hx (hb hby dp106_1_127) rfl ?_
    refine giconst X36 hx (hb hby dp106_1_129) ?_
    refine gimul X36 hx (hb hby dp106_1_130) trivial ?_
    show Gs p e below _ T36 m 131 #[rv a, rv aJ, rv aO, iv (2 : Int32), iv (1 : Int32), rv (sel o2 j0 j1 j2)] [(.int ((1 : Int32) * (2 : Int32)))]
    rw [show ((1 : Int32) * (2 : Int32)) = (2 : Int32) from by decide]
    show Gs p e below _ T36 m 131 #[rv a, rv aJ, rv aO, iv (2 : Int32), iv (1 : Int32), rv (sel o2 j0 j1 j2)] [(.int (2 : Int32))]
    refine gistore X36 hx (hb hby dp106_1_131) trivial (l' := #[rv a, rv aJ, rv aO, iv (2 : Int32), iv (2 : Int32), rv (sel o2 j0 j1 j2)]) rfl ?_
    refine ggoto X36 hx (pc := 133) (pc' := 118) (hb hby dp106_1_133) (by decide) (by decide) ?_
    refine giload X36 hx (hb hby dp106_1_118) rfl ?_
    refine galoadN X36 hx (hb hby dp106_1_120) rfl rfl ?_
    obtain ⟨T37, X37, e37, st37⟩ := getF X36 hx hZ hown (host := "") (Or.inl (hwk hw 192 rfl)) Via.refl e36 G34 (g := (mkF m 121 #[rv a, rv aJ, rv aO, iv (2 : Int32), iv (2 : Int32), rv (sel o2 j0 j1 j2)] [(.ref a), (.int (2 : Int32))])) rfl rfl (hb hby dp106_1_121)
    refine Goes.st st37 ?_
    refine gicmpNo X37 hx (hb hby dp106_1_124) (by decide) ?_
    refine giload X37 hx (hb hby dp106_1_127) rfl ?_
    refine giconst X37 hx (hb hby dp106_1_129) ?_
    refine gimul X37 hx (hb hby dp106_1_130) trivial ?_
    show Gs p e below _ T37 m 131 #[rv a, rv aJ, rv aO, iv (2 : Int32), iv (2 : Int32), rv (sel o2 j0 j1 j2)] [(.int ((2 : Int32) * (2 : Int32)))]
    rw [show ((2 : Int32) * (2 : Int32)) = (4 : Int32) from by decide]
    show Gs p e below _ T37 m 131 #[rv a, rv aJ, rv aO, iv (2 : Int32), iv (2 : Int32), rv (sel o2 j0 j1 j2)] [(.int (4 : Int32))]
    refine gistore X37 hx (hb hby dp106_1_131) trivial (l' := #[rv a, rv aJ, rv aO, iv (2 : Int32), iv (4 : Int32), rv (sel o2 j0 j1 j2)]) rfl ?_
    refine ggoto X37 hx (pc := 133) (pc' := 118) (hb hby dp106_1_133) (by decide) (by decide) ?_
    refine giload X37 hx (hb hby dp106_1_118) rfl ?_
    refine galoadN X37 hx (hb hby dp106_1_120) rfl rfl ?_
    obtain ⟨T38, X38, e38, st38⟩ := getF X37 hx hZ hown (host := "") (Or.inl (hwk hw 192 rfl)) Via.refl e37 G34 (g := (mkF m 121 #[rv a, rv aJ, rv aO, iv (2 : Int32), iv (4 : Int32), rv (sel o2 j0 j1 j2)] [(.ref a), (.int (4 : Int32))])) rfl rfl (hb hby dp106_1_121)
    refine Goes.st st38 ?_
    refine gicmpNo X38 hx (hb hby dp106_1_124) (by decide) ?_
    refine giload X38 hx (hb hby dp106_1_127) rfl ?_
    refine giconst X38 hx (hb hby dp106_1_129) ?_
    refine gimul X38 hx (hb hby dp106_1_130) trivial ?_
    show Gs p e below _ T38 m 131 #[rv a, rv aJ, rv aO, iv (2 : Int32), iv (4 : Int32), rv (sel o2 j0 j1 j2)] [(.int ((4 : Int32) * (2 : Int32)))]
    rw [show ((4 : Int32) * (2 : Int32)) = (8 : Int32) from by decide]
    show Gs p e below _ T38 m 131 #[rv a, rv aJ, rv aO, iv (2 : Int32), iv (4 : Int32), rv (sel o2 j0 j1 j2)] [(.int (8 : Int32))]
    refine gistore X38 hx (hb hby dp106_1_131) trivial (l' := #[rv a, rv aJ, rv aO, iv (2 : Int32), iv (8 : Int32), rv (sel o2 j0 j1 j2)]) rfl ?_
    refine ggoto X38 hx (pc := 133) (pc' := 118) (hb hby dp106_1_133) (by decide) (by decide) ?_
    refine giload X38 hx (hb hby dp106_1_118) rfl ?_
    refine galoadN X38 hx (hb hby dp106_1_120) rfl rfl ?_
    obtain ⟨T39, X39, e39, st39⟩ := getF X38 hx hZ hown (host := "") (Or.inl (hwk hw 192 rfl)) Via.refl e38 G34 (g := (mkF m 121 #[rv a, rv aJ, rv aO, iv (2 : Int32), iv (8 : Int32), rv (sel o2 j0 j1 j2)] [(.ref a), (.int (8 : Int32))])) rfl rfl (hb hby dp106_1_121)
    refine Goes.st st39 ?_
    refine gicmpYes X39 hx (pc := 124) (pc' := 136) (hb hby dp106_1_124) (by decide) (by decide) (by decide) ?_
    refine galoadN X39 hx (hb hby dp106_1_136) rfl rfl ?_
    refine giload X39 hx (hb hby dp106_1_137) rfl ?_
    have f41 := (q2_.other W34 (Or.inr (slot_ne (Or.inr (hwk hw 195 rfl)) (Or.inr (hwk hw 193 rfl)) (by decide) (t := .int) (t' := .int) (by decide) (by decide))))
    have f42 := (q0_.wr W34)
    obtain ⟨T40, h40, X40, e40, W40, st40⟩ := putF X39 hx hZ hown (host := "") (Or.inl (hwk hw 194 rfl)) Via.refl e39 f41 f42 (Or.inr ⟨(hwk hw 195 rfl), rfl, hnm⟩) (hwk hw 145 rfl) (ty := .int) (by decide) rfl rfl (g := (mkF m 139 #[rv a, rv aJ, rv aO, iv (2 : Int32), iv (8 : Int32), rv (sel o2 j0 j1 j2)] [(.int (8 : Int32)), (.ref a)])) rfl rfl (hb hby dp106_1_139)
    have N40 := Fr.snoc X40 N34 w0_
    have G40 := f41.same W40
    refine Goes.st st40 ?_
    have KK43 := KK35.wr W40 (Or.inl (List.mem_of_getElem? (i := 0) rfl))
    have Z40 : n0 ≤ h40.size := by have := W40.size; have := Z34; omega
    show Gs p e below _ T40 m 142 #[rv a, rv aJ, rv aO, iv (2 : Int32), iv (8 : Int32), rv (sel o2 j0 j1 j2)] []
    refine galoadN X40 hx (hb hby dp106_1_142) rfl rfl ?_
    refine giconst X40 hx (hb hby dp106_1_143) ?_
    refine giload X40 hx (hb hby dp106_1_144) rfl ?_
    refine gimul X40 hx (hb hby dp106_1_146) trivial ?_
    show Gs p e below _ T40 m 147 #[rv a, rv aJ, rv aO, iv (2 : Int32), iv (8 : Int32), rv (sel o2 j0 j1 j2)] [(.int ((2 : Int32) * (8 : Int32))), (.ref a)]
    rw [show ((2 : Int32) * (8 : Int32)) = (16 : Int32) from by decide]
    show Gs p e below _ T40 m 147 #[rv a, rv aJ, rv aO, iv (2 : Int32), iv (8 : Int32), rv (sel o2 j0 j1 j2)] [(.int (16 : Int32)), (.ref a)]
    obtain ⟨T44, h44, cA44, X44, e44, E44, A44, st44⟩ := newP X40 hx hZ (hwk hw 2 rfl) e40 (g := (mkF m 147 #[rv a, rv aJ, rv aO, iv (2 : Int32), iv (8 : Int32), rv (sel o2 j0 j1 j2)] [(.int (16 : Int32)), (.ref a)])) rfl (hb hby dp106_1_147) rfl (by decide) (cap := 16) (by decide) (by decide) (by decide) (by decide)
    obtain ⟨b44, g44⟩ : ∃ z, z = h40.size := ⟨_, rfl⟩
    rw [← g44] at A44 st44
    have f45 := (f42.wr W40)
    have ne_a_b44 : a ≠ b44 := Nat.ne_of_lt (Nat.lt_of_lt_of_le f45.lt (Nat.le_of_eq g44.symm))
    have f46 := ((q5_.other W34 (Ne.symm n0_)).other W40 (Ne.symm n0_))
    have ne_aO_b44 : aO ≠ b44 := Nat.ne_of_lt (Nat.lt_of_lt_of_le f46.lt (Nat.le_of_eq g44.symm))
    have f47 := ((q9_.other W34 (Ne.symm n1_)).other W40 (Ne.symm n1_))
    have ne_b14_b44 : b14 ≠ b44 := Nat.ne_of_lt (Nat.lt_of_lt_of_le f47.lt (Nat.le_of_eq g44.symm))
    have f48 := ((q10_.other W34 (Ne.symm n3_)).other W40 (Ne.symm n3_))
    have ne_b29_b44 : b29 ≠ b44 := Nat.ne_of_lt (Nat.lt_of_lt_of_le f48.lt (Nat.le_of_eq g44.symm))
    have lo_b44 : n0 ≤ b44 := by have := Z40; omega
    have sz_b44 : h0.size ≤ b44 := by have := KK43.1; omega
    have KK49 := KK43.ext E44
    have V44 : Arv Z h44 b44 cA44 .int (16 : Int32) [(.int (0 : Int32)), (.int (0 : Int32)), (.int (0 : Int32)), (.int (0 : Int32)), (.int (0 : Int32)), (.int (0 : Int32)), (.int (0 : Int32)), (.int (0 : Int32)), (.int (0 : Int32)), (.int (0 : Int32)), (.int (0 : Int32)), (.int (0 : Int32)), (.int (0 : Int32)), (.int (0 : Int32)), (.int (0 : Int32)), (.int (0 : Int32))] (.int (0 : Int32)) := (Arv.new A44 (by decide)).pad (pad_rep [] _ 16)
    refine Goes.st st44 ?_
    have Z44 : n0 ≤ h44.size := Nat.le_trans Z40 E44.1
    show Gs p e below _ T44 m 149 #[rv a, rv aJ, rv aO, iv (2 : Int32), iv (8 : Int32), rv (sel o2 j0 j1 j2)] [(.ref b44), (.ref a)]
    have f51 := (((q3_.other W34 (Or.inr (slot_ne (Or.inr (hwk hw 197 rfl)) (Or.inr (hwk hw 193 rfl)) (by decide) (t := (.array .int)) (t' := .int) (by decide) (by decide)))).other W40 (Or.inr (slot_ne (Or.inr (hwk hw 197 rfl)) (Or.inr (hwk hw 195 rfl)) (by decide) (t := (.array .int)) (t' := .int) (by decide) (by decide)))).ext E44)
    have f52 := (f45.ext E44)
    obtain ⟨T50, h50, X50, e50, W50, st50⟩ := putF X44 hx hZ hown (host := "") (Or.inl (hwk hw 196 rfl)) Via.refl e44 f51 f52 (Or.inr ⟨(hwk hw 197 rfl), rfl, hnm⟩) (hwk hw 145 rfl) (ty := (.array .int)) (by decide) rfl rfl (g := (mkF m 149 #[rv a, rv aJ, rv aO, iv (2 : Int32), iv (8 : Int32), rv (sel o2 j0 j1 j2)] [(.ref b44), (.ref a)])) rfl rfl (hb hby dp106_1_149)
    have N50 := Fr.snoc X50 N40 w0_
    have G50 := f51.same W50
    refine Goes.st st50 ?_
    have KK53 := KK49.wr W50 (Or.inl (List.mem_of_getElem? (i := 0) rfl))
    have Z50 : n0 ≤ h50.size := by have := W50.size; have := Z44; omega
    show Gs p e below _ T50 m 152 #[rv a, rv aJ, rv aO, iv (2 : Int32), iv (8 : Int32), rv (sel o2 j0 j1 j2)] []
    refine galoadN X50 hx (hb hby dp106_1_152) rfl rfl ?_
    obtain ⟨T54, X54, e54, st54⟩ := getF X50 hx hZ hown (host := "") (Or.inl (hwk hw 196 rfl)) Via.refl e50 G50 (g := (mkF m 153 #[rv a, rv aJ, rv aO, iv (2 : Int32), iv (8 : Int32), rv (sel o2 j0 j1 j2)] [(.ref a)])) rfl rfl (hb hby dp106_1_153)
    refine Goes.st st54 ?_
    show Gs p e below _ T54 m 156 #[rv a, rv aJ, rv aO, iv (2 : Int32), iv (8 : Int32), rv (sel o2 j0 j1 j2)] [(.ref b44)]
    refine Goes.st (fun tg kg => X54.ldcInt hx hown (mvT hZ (hwk hw 198 rfl)) (g := (mkF m 156 #[rv a, rv aJ, rv aO, iv (2 : Int32), iv (8 : Int32), rv (sel o2 j0 j1 j2)] [(.ref b44)])) rfl (hb hby dp106_1_156) tg kg) ?_
    show Gs p e below _ T54 m 158 #[rv a, rv aJ, rv aO, iv (2 : Int32), iv (8 : Int32), rv (sel o2 j0 j1 j2)] [(.int (2147483647 : Int32)), (.ref b44)]
    have f55 := (V44.other W50 (Ne.symm ne_a_b44))
    obtain ⟨_, _, ⟨T56, L56, k56, n56⟩, -, X56, ⟨Lc56, hQ56, l56, y56, z56⟩, st56⟩ := Jvm.LawKit.callS X54 hx (y := mN27) hown (mvT hZ (hwk hw 199 rfl)) (mvT hZ (hwk hw 200 rfl)) (mvT hZ (hwk hw 201 rfl)) (mvT hZ (hwk hw 202 rfl)) (by decide) (backOf (W := 0) (rmFl2 l Z a0 hw [] b44 cA44 h50 n0 Z50 lo_b44 f55) hZ (hwk hw 202 rfl) (hwk hw 201 rfl) (by decide) (by decide)) (g := (mkF m 158 #[rv a, rv aJ, rv aO, iv (2 : Int32), iv (8 : Int32), rv (sel o2 j0 j1 j2)] [(.int (2147483647 : Int32)), (.ref b44)])) rfl (by rw [hml]; rfl) (argsL := [(.ref b44), (.int (2147483647 : Int32))]) (rest := []) (lenOf pd___II_V_f26 rfl) rfl (by show 2 * 0 + _ ≤ _; exact Nat.le_of_eq rfl) (hb hby dp106_1_158) (fun _ _ => ⟨rfl, e54, (by decide : 5 + 0 ≤ 5), (by decide : 41 + 0 ≤ 41)⟩)
    dsimp only [Pt.U, Pt.locs, Pt.cells, Pt.slots] at X56 l56 y56 z56 st56 hQ56
    subst l56 y56 z56
    obtain ⟨rfl, N56q, K56, VF56⟩ := hQ56
    have KK57 := KK53.trans K56 (allS (Or.inr sz_b44) all0)
    have Z56 : n0 ≤ T56.heap.size := Nat.le_trans Z50 K56.1
    have N56 := Fr.app N50 N56q
    refine Goes.st st56 ?_
    show Gs p e below _ T56 m 161 #[rv a, rv aJ, rv aO, iv (2 : Int32), iv (8 : Int32), rv (sel o2 j0 j1 j2)] []
    have f58 := (((((q6_.other W34 (Or.inr (slot_ne (Or.inr (hwk hw 154 rfl)) (Or.inr (hwk hw 193 rfl)) (by decide) (t := (.array .int)) (t' := .int) (by decide) (by decide)))).other W40 (Or.inr (slot_ne (Or.inr (hwk hw 154 rfl)) (Or.inr (hwk hw 195 rfl)) (by decide) (t := (.array .int)) (t' := .int) (by decide) (by decide)))).ext E44).other W50 (Or.inr (slot_ne (Or.inr (hwk hw 154 rfl)) (Or.inr (hwk hw 197 rfl)) (by decide) (t := (.array .int)) (t' := (.array .int)) (by decide) (by decide)))).keep K56 (ninS ne_a_b44 nin0))
    have f59 := (((((q7_.other W34 (Or.inr (slot_ne (Or.inr (hwk hw 156 rfl)) (Or.inr (hwk hw 193 rfl)) (by decide) (t := (.array .int)) (t' := .int) (by decide) (by decide)))).other W40 (Or.inr (slot_ne (Or.inr (hwk hw 156 rfl)) (Or.inr (hwk hw 195 rfl)) (by decide) (t := (.array .int)) (t' := .int) (by decide) (by decide)))).ext E44).other W50 (Or.inr (slot_ne (Or.inr (hwk hw 156 rfl)) (Or.inr (hwk hw 197 rfl)) (by decide) (t := (.array .int)) (t' := (.array .int)) (by decide) (by decide)))).keep K56 (ninS ne_a_b44 nin0))
    have f60 := (((((q8_.other W34 (Or.inr (slot_ne (Or.inr (hwk hw 158 rfl)) (Or.inr (hwk hw 193 rfl)) (by decide) (t := (.array .int)) (t' := .int) (by decide) (by decide)))).other W40 (Or.inr (slot_ne (Or.inr (hwk hw 158 rfl)) (Or.inr (hwk hw 195 rfl)) (by decide) (t := (.array .int)) (t' := .int) (by decide) (by decide)))).ext E44).other W50 (Or.inr (slot_ne (Or.inr (hwk hw 158 rfl)) (Or.inr (hwk hw 197 rfl)) (by decide) (t := (.array .int)) (t' := (.array .int)) (by decide) (by decide)))).keep K56 (ninS ne_a_b44 nin0))
    have f61 := (((G40.ext E44).other W50 (Or.inr (slot_ne (Or.inr (hwk hw 195 rfl)) (Or.inr (hwk hw 197 rfl)) (by decide) (t := .int) (t' := (.array .int)) (by decide) (by decide)))).keep K56 (ninS ne_a_b44 nin0))
    have f62 := (G50.keep K56 (ninS ne_a_b44 nin0))
    have f63 := (((((q4_.other W34 (Or.inr (slot_ne (Or.inl (hwk hw 222 rfl)) (Or.inr (hwk hw 193 rfl)) (by decide) (t := (.array .double)) (t' := .int) (by decide) (by decide)))).other W40 (Or.inr (slot_ne (Or.inl (hwk hw 222 rfl)) (Or.inr (hwk hw 195 rfl)) (by decide) (t := (.array .double)) (t' := .int) (by decide) (by decide)))).ext E44).other W50 (Or.inr (slot_ne (Or.inl (hwk hw 222 rfl)) (Or.inr (hwk hw 197 rfl)) (by decide) (t := (.array .double)) (t' := (.array .int)) (by decide) (by decide)))).keep K56 (ninS ne_a_b44 nin0))
    have f64 := (((f47.ext E44).other W50 (Ne.symm n1_)).keep K56 (ninS ne_b14_b44 nin0))
    have f65 := (((f48.ext E44).other W50 (Ne.symm n3_)).keep K56 (ninS ne_b29_b44 nin0))
    refine Goes.retV X56 hx hret (hb hby dp106_1_161) (lvN X56 hlk (fun _ => rfl) ?_ (by decide) (by decide))
    exact ⟨b14, b29, b44, cA14, cA29, cA44, rfl, N56, KK57, sz_b14, sz_b29, sz_b44, lo_b44, (Ne.symm ne_b14_b44), (Ne.symm ne_b29_b44), f58, f59, f60, f61, f62, f63, own_rkA hp f64, f65, VF56⟩
set_option maxRecDepth 65536 in
set_option maxHeartbeats 40000000 in
theorem in44_2 {p : Program} {l : Launch} {e : Env} {s : State} {m : MethodId} {args : Array Value} {below : List Frame} {meth : Method} {c : Code}  (Z : State) (a0 : Array Value) (hw : ∀ d ∈ tables_1, d.before a0 Z = true) (hx : p.tables.exec = Jvm.exec) (hby : c.code = prog_106_method_1_code) (hlk : meth.locks = false) (hret : meth.sig.returnType = none) (hml : c.maxLocals = 6) (hnm : meth.name = "<init>") (hown : s.vm.findClass "com/example/redoubt/redoubt/policies/FirstFitQueue" = some m.cls) (hZ : Z.Warmed39 s.vm) (a : Addr) (aJ : Addr) (eD : Addr) (j0 : Addr) (j1 : Addr) (j2 : Addr) (aO : Addr) (kE : ClassId) (kO : ClassId) (cl : Int32) (o0 : Int32) (o1 : Int32) (o2 : Int32) (p0 : Int32) (p1 : Int32) (p2 : Int32) (b14 : Addr) (b29 : Addr) (b45 : Addr) (cA14 : ClassId) (cA29 : ClassId) (cA45 : ClassId) (h0 hh : Heap) (n0 : Nat) (T0 : State) (locs0 : List Loc) (X0 : Stand p l e ({ frames := 3, cells := 5, slots := 41, locals := 40 } : Room) s m args below meth c T0 locs0 4 25) (e0 : T0.heap = hh) (N0 : Fr n0 locs0) (Z0 : n0 ≤ hh.size) (q0_ : Exa Z hh a "com/example/redoubt/redoubt/policies/FirstFitQueue") (q1_ : Fld Z hh a "com/example/redoubt/redoubt/policies/FirstFitQueue" "places" "I" (.int (0 : Int32))) (q2_ : Fld Z hh a "com/example/redoubt/redoubt/policies/FirstFitQueue" "leaves" "I" (.int (0 : Int32))) (q3_ : Fld Z hh a "com/example/redoubt/redoubt/policies/FirstFitQueue" "fewest" "[I" .null) (q4_ : Fld Z hh a "com/example/redoubt/redoubt/policies/FirstFitQueue" "shortest" "[D" .null) (q5_ : Exa Z hh aJ "java/util/ArrayList") (q6_ : Fld Z hh aJ "java/util/ArrayList" "size" "I" (.int (3 : Int32))) (q7_ : Fld Z hh aJ "java/util/ArrayList" "elementData" "[Ljava/lang/Object;" (.ref eD)) (q8_ : Arv Z hh eD kE (.object "java/lang/Object") (10 : Int32) [(.ref j0), (.ref j1), (.ref j2), .null, .null, .null, .null, .null, .null, .null] .null) (q9_ : Exa Z hh j0 "com/example/redoubt/redoubt/engine/Job") (q10_ : Fld Z hh j0 "com/example/redoubt/redoubt/engine/Job" "procs" "I" (.int p0)) (q11_ : Fld Z hh j0 "com/example/redoubt/redoubt/engine/Job" "time" "D" (.double FP.dconst1)) (q12_ : Exa Z hh j1 "com/example/redoubt/redoubt/engine/Job") (q13_ : Fld Z hh j1 "com/example/redoubt/redoubt/engine/Job" "procs" "I" (.int p1)) (q14_ : Fld Z hh j1 "com/example/redoubt/redoubt/engine/Job" "time" "D" (.double FP.dconst1)) (q15_ : Exa Z hh j2 "com/example/redoubt/redoubt/engine/Job") (q16_ : Fld Z hh j2 "com/example/redoubt/redoubt/engine/Job" "procs" "I" (.int p2)) (q17_ : Fld Z hh j2 "com/example/redoubt/redoubt/engine/Job" "time" "D" (.double FP.dconst1)) (q18_ : Arv Z hh aO kO .int (3 : Int32) [(.int o0), (.int o1), (.int o2)] (.int (0 : Int32))) (q19_ : Fld Z hh a "com/example/redoubt/redoubt/policies/FirstFitQueue" "order" "[I" (.ref aO)) (q20_ : Fld Z hh a "com/example/redoubt/redoubt/policies/FirstFitQueue" "rankOf" "[I" (.ref b14)) (q21_ : Fld Z hh a "com/example/redoubt/redoubt/policies/FirstFitQueue" "procs" "[I" (.ref b29)) (q22_ : Fld Z hh a "com/example/redoubt/redoubt/policies/FirstFitQueue" "times" "[D" (.ref b45)) (q23_ : Arv Z hh b14 cA14 .int (3 : Int32) [(.int (put1 o1 0 (1 : Int32) (put1 o0 0 (0 : Int32) (0 : Int32)))), (.int (put1 o1 1 (1 : Int32) (put1 o0 1 (0 : Int32) (0 : Int32)))), (.int (put1 o1 2 (1 : Int32) (put1 o0 2 (0 : Int32) (0 : Int32))))] (.int (0 : Int32))) (q24_ : Arv Z hh b29 cA29 .int (3 : Int32) [(.int (sel o0 p0 p1 p2)), (.int (sel o1 p0 p1 p2)), (.int (0 : Int32))] (.int (0 : Int32))) (q25_ : Arv Z hh b45 cA45 .double (3 : Int32) [(.double FP.dconst1), (.double FP.dconst1), (.double (0 : UInt64))] (.double (0 : UInt64))) (n0_ : a ≠ aJ) (n1_ : a ≠ eD) (n2_ : a ≠ j0) (n3_ : a ≠ j1) (n4_ : a ≠ j2) (n5_ : a ≠ aO) (n6_ : a ≠ b14) (n7_ : aJ ≠ b14) (n8_ : eD ≠ b14) (n9_ : j0 ≠ b14) (n10_ : j1 ≠ b14) (n11_ : j2 ≠ b14) (n12_ : aO ≠ b14) (n13_ : a ≠ b29) (n14_ : aJ ≠ b29) (n15_ : eD ≠ b29) (n16_ : j0 ≠ b29) (n17_ : j1 ≠ b29) (n18_ : j2 ≠ b29) (n19_ : aO ≠ b29) (n20_ : b14 ≠ b29) (n21_ : a ≠ b45) (n22_ : aJ ≠ b45) (n23_ : eD ≠ b45) (n24_ : j0 ≠ b45) (n25_ : j1 ≠ b45) (n26_ : j2 ≠ b45) (n27_ : aO ≠ b45) (n28_ : b14 ≠ b45) (n29_ : b29 ≠ b45) (w0_ : n0 ≤ a) (w1_ : n0 ≤ b14) (w2_ : n0 ≤ b29) (w3_ : n0 ≤ b45) (K0 : Keep h0 hh [a]) (sz_b14 : h0.size ≤ b14) (sz_b29 : h0.size ≤ b29) (sz_b45 : h0.size ≤ b45) (hp : Perm3 o0 o1 o2) (hcl : cl = 1 ∨ cl = 2) :
    Goes p e below (EN s (QIn Z a aJ eD j0 j1 j2 aO kE kO cl o0 o1 o2 p0 p1 p2 h0 n0) ({ frames := 3, cells := 5, slots := 41, locals := 40 } : Room).cells ({ frames := 3, cells := 5, slots := 41, locals := 40 } : Room).slots) (T0.setTop (mkF m 44 #[rv a, rv aJ, rv aO, iv cl, iv (2 : Int32), rv (sel o1 j0 j1 j2)] [])) := by
  show Gs p e below _ T0 m 44 #[rv a, rv aJ, rv aO, iv cl, iv (2 : Int32), rv (sel o1 j0 j1 j2)] []
  refine giload X0 hx (hb hby dp106_1_44) rfl ?_
  refine galoadN X0 hx (hb hby dp106_1_46) rfl rfl ?_
  obtain ⟨cl1, Ar1, qk1, Sz1, qz1, Ha1, Gf1⟩ := id q18_
  refine Goes.st (fun tg kg => X0.arraylength hx (cell := cl1) (by rw [e0]; exact Ar1.1) (State.isArrayOf_alike hZ.alike Ar1.2.1) (g := (mkF m 47 #[rv a, rv aJ, rv aO, iv cl, iv (2 : Int32), rv (sel o1 j0 j1 j2)] [(.ref aO), (.int (2 : Int32))])) rfl (rest := [(.int (2 : Int32))]) rfl (hb hby dp106_1_47) tg kg) ?_
  rw [len_of Sz1 qz1]
  show Gs p e below _ T0 m 48 #[rv a, rv aJ, rv aO, iv cl, iv (2 : Int32), rv (sel o1 j0 j1 j2)] [(.int (3 : Int32)), (.int (2 : Int32))]
  refine gicmpNo X0 hx (hb hby dp106_1_48) (by decide) ?_
  refine galoadN X0 hx (hb hby dp106_1_51) rfl rfl ?_
  refine galoadN X0 hx (hb hby dp106_1_52) rfl rfl ?_
  refine giload X0 hx (hb hby dp106_1_53) rfl ?_
  obtain ⟨cl2, Ar2, qk2, Sz2, qz2, Ha2, Gf2⟩ := id q18_
  have in2 := inb_of (j := (2 : Int32)) Sz2 ⟨by decide, by decide⟩
  refine Goes.st (fun tg kg => X0.iaload hx (j := (2 : Int32)) (v := (.int o2)) (by rw [e0]; exact Ar2.1) (State.isArrayOf_alike hZ.alike Ar2.2.1) Ar2.2.2 in2 (Ha2.at in2 rfl) (g := (mkF m 55 #[rv a, rv aJ, rv aO, iv cl, iv (2 : Int32), rv (sel o1 j0 j1 j2)] [(.int (2 : Int32)), (.ref aO), (.ref aJ)])) rfl rfl (hb hby dp106_1_55) tg kg) ?_
  show Gs p e below _ T0 m 56 #[rv a, rv aJ, rv aO, iv cl, iv (2 : Int32), rv (sel o1 j0 j1 j2)] [(.int o2), (.ref aJ)]
  obtain ⟨cq3, kq3, qa3, qb3, qc3⟩ := isOf hZ e0 q5_
  obtain ⟨_, _, ⟨T3, L3, k3, n3⟩, -, X3, ⟨Lc3, hQ3, l3, y3, z3⟩, st3⟩ := X0.interfaceBack hx (xi := mN28) (y := mN24) hown (mvT hZ (hwk hw 162 rfl)) (mvT hZ (hwk hw 163 rfl)) (mvT hZ (hwk hw 164 rfl)) (mvT hZ (hwk hw 165 rfl)) (mvT hZ (hwk hw 166 rfl)) (mvT hZ (hwk hw 167 rfl)) (mvT hZ (hwk hw 168 rfl)) (mvT hZ (hwk hw 169 rfl)) (by decide) (backOf (W := 0) (rmGt l Z a0 hw [] aJ eD kE j0 j1 j2 o2 hh n0 Z0 q5_ q6_ q7_ q8_ (own_p2 hp)) hZ (hwk hw 170 rfl) (hwk hw 11 rfl) (by decide) (by decide)) qa3 qb3 qc3 (g := (mkF m 56 #[rv a, rv aJ, rv aO, iv cl, iv (2 : Int32), rv (sel o1 j0 j1 j2)] [(.int o2), (.ref aJ)])) rfl (by rw [hml]; rfl) (Steps.refl _) (argsL := [(.int o2)]) (rest := []) (lenOf pd__I_Ljava_lang_Object__7cbf rfl) rfl (by show 2 * 0 + _ ≤ _; exact Nat.le_of_eq rfl) (hb hby dp106_1_56) (fun _ _ => ⟨rfl, e0, (by decide : 4 + 0 ≤ 5), (by decide : 25 + 0 ≤ 41)⟩)
  dsimp only [Pt.U, Pt.locs, Pt.cells, Pt.slots] at X3 l3 y3 z3 st3 hQ3
  subst l3 y3 z3
  obtain ⟨rfl, N3q, eh3⟩ := hQ3
  have sE3 := own_selE (own_p2 hp) q9_ q12_ q15_
  have N3 := Fr.app N0 N3q
  refine Goes.sts st3 ?_
  show Gs p e below _ T3 m 61 #[rv a, rv aJ, rv aO, iv cl, iv (2 : Int32), rv (sel o1 j0 j1 j2)] [(.ref (sel o2 j0 j1 j2))]
  obtain ⟨T4, X4, e4, st4⟩ := castY X3 hx hZ hown (hwk hw 180 rfl) eh3 (Ins.self sE3) (g := (mkF m 61 #[rv a, rv aJ, rv aO, iv cl, iv (2 : Int32), rv (sel o1 j0 j1 j2)] [(.ref (sel o2 j0 j1 j2))])) rfl rfl (hb hby dp106_1_61)
  refine Goes.st st4 ?_
  show Gs p e below _ T4 m 64 #[rv a, rv aJ, rv aO, iv cl, iv (2 : Int32), rv (sel o1 j0 j1 j2)] [(.ref (sel o2 j0 j1 j2))]
  refine gastore X4 hx (hb hby dp106_1_64) trivial rfl (l' := #[rv a, rv aJ, rv aO, iv cl, iv (2 : Int32), rv (sel o2 j0 j1 j2)]) rfl ?_
  refine galoadN X4 hx (hb hby dp106_1_66) rfl rfl ?_
  obtain ⟨T5, X5, e5, st5⟩ := getF X4 hx hZ hown (host := "") (Or.inl (hwk hw 155 rfl)) Via.refl e4 q20_ (g := (mkF m 67 #[rv a, rv aJ, rv aO, iv cl, iv (2 : Int32), rv (sel o2 j0 j1 j2)] [(.ref a)])) rfl rfl (hb hby dp106_1_67)
  refine Goes.st st5 ?_
  refine galoadN X5 hx (hb hby dp106_1_70) rfl rfl ?_
  refine giload X5 hx (hb hby dp106_1_71) rfl ?_
  obtain ⟨cl6, Ar6, qk6, Sz6, qz6, Ha6, Gf6⟩ := id q18_
  have in6 := inb_of (j := (2 : Int32)) Sz6 ⟨by decide, by decide⟩
  refine Goes.st (fun tg kg => X5.iaload hx (j := (2 : Int32)) (v := (.int o2)) (by rw [e5]; exact Ar6.1) (State.isArrayOf_alike hZ.alike Ar6.2.1) Ar6.2.2 in6 (Ha6.at in6 rfl) (g := (mkF m 73 #[rv a, rv aJ, rv aO, iv cl, iv (2 : Int32), rv (sel o2 j0 j1 j2)] [(.int (2 : Int32)), (.ref aO), (.ref b14)])) rfl rfl (hb hby dp106_1_73) tg kg) ?_
  refine giload X5 hx (hb hby dp106_1_74) rfl ?_
  show Gs p e below _ T5 m 76 #[rv a, rv aJ, rv aO, iv cl, iv (2 : Int32), rv (sel o2 j0 j1 j2)] [(.int (2 : Int32)), (.int o2), (.ref b14)]
  obtain ⟨cl7, Ar7, qk7, Sz7, qz7, Ha7, Gf7⟩ := id q23_
  obtain ⟨T7, h7, X7, e7, W7, st7⟩ := stI X5 hx hZ e5 Ar7 (inb_of Sz7 ⟨own_jlo (own_p2 hp), own_jhi (own_p2 hp)⟩) (g := (mkF m 76 #[rv a, rv aJ, rv aO, iv cl, iv (2 : Int32), rv (sel o2 j0 j1 j2)] [(.int (2 : Int32)), (.int o2), (.ref b14)])) rfl rfl (hb hby dp106_1_76)
  have N7 := Fr.snoc X7 N3 w1_
  have V7 : Arv Z h7 b14 cA14 .int (3 : Int32) [(.int (put1 o2 0 (2 : Int32) (put1 o1 0 (1 : Int32) (put1 o0 0 (0 : Int32) (0 : Int32))))), (.int (put1 o2 1 (2 : Int32) (put1 o1 1 (1 : Int32) (put1 o0 1 (0 : Int32) (0 : Int32))))), (.int (put1 o2 2 (2 : Int32) (put1 o1 2 (1 : Int32) (put1 o0 2 (0 : Int32) (0 : Int32)))))] (.int (0 : Int32)) := own_set3 (own_p2 hp) (Arv.set Ar7 qk7 Sz7 qz7 Ha7 Gf7 rfl W7 o2.toNatClampNeg rfl (own_len3 (own_p2 hp) _ _ _))
  refine Goes.st st7 ?_
  have KK8 := K0.wr W7 (Or.inr sz_b14)
  have Z7 : n0 ≤ h7.size := by have := W7.size; have := Z0; omega
  show Gs p e below _ T7 m 77 #[rv a, rv aJ, rv aO, iv cl, iv (2 : Int32), rv (sel o2 j0 j1 j2)] []
  refine galoadN X7 hx (hb hby dp106_1_77) rfl rfl ?_
  have f10 := (q21_.other W7 (Or.inl n6_))
  obtain ⟨T9, X9, e9, st9⟩ := getF X7 hx hZ hown (host := "") (Or.inl (hwk hw 157 rfl)) Via.refl e7 f10 (g := (mkF m 78 #[rv a, rv aJ, rv aO, iv cl, iv (2 : Int32), rv (sel o2 j0 j1 j2)] [(.ref a)])) rfl rfl (hb hby dp106_1_78)
  refine Goes.st st9 ?_
  refine giload X9 hx (hb hby dp106_1_81) rfl ?_
  refine gaload X9 hx (hb hby dp106_1_83) rfl rfl ?_
  have f11 := (q10_.other W7 (Or.inl n9_))
  have f12 := (q13_.other W7 (Or.inl n10_))
  have f13 := (q16_.other W7 (Or.inl n11_))
  have sG14 := own_selF (own_p2 hp) f11 f12 f13
  have f16 := (sE3.wr W7)
  obtain ⟨cq15, kq15, qa15, qb15, qc15⟩ := isOf hZ e9 f16
  obtain ⟨_, _, ⟨T15, L15, k15, n15⟩, -, X15, ⟨Lc15, hQ15, l15, y15, z15⟩, st15⟩ := X9.virtualBack hx (y := mN25) (z := mN25) hown (mvT hZ (hwk hw 182 rfl)) (mvT hZ (hwk hw 183 rfl)) (notFace_of_selects (args := #[]) (mvT hZ (hwk hw 185 rfl))) (mvT hZ (hwk hw 185 rfl)) (mvT hZ (hwk hw 184 rfl)) (by decide) (backOf (W := 2) (rmJp l Z a0 hw [] (sel o2 j0 j1 j2) (sel o2 p0 p1 p2) h7 n0 Z7 sG14) hZ (hwk hw 186 rfl) (hwk hw 37 rfl) (by decide) (by decide)) qa15 qc15 (g := (mkF m 85 #[rv a, rv aJ, rv aO, iv cl, iv (2 : Int32), rv (sel o2 j0 j1 j2)] [(.ref (sel o2 j0 j1 j2)), (.int (2 : Int32)), (.ref b29)])) rfl (by rw [hml]; rfl) (Steps.refl _) (argsL := []) (rest := [(.int (2 : Int32)), (.ref b29)]) (lenOf pd___I_4f1 rfl) rfl (by show 2 * 0 + _ ≤ _; exact Nat.le_of_eq rfl) (hb hby dp106_1_85) (fun _ _ => ⟨rfl, e9, (by decide : 4 + 0 ≤ 5), (by decide : 25 + 0 ≤ 41)⟩)
  dsimp only [Pt.U, Pt.locs, Pt.cells, Pt.slots] at X15 l15 y15 z15 st15 hQ15
  subst l15 y15 z15
  obtain ⟨rfl, N15q, eh15⟩ := hQ15
  have N15 := Fr.app N7 N15q
  refine Goes.sts st15 ?_
  show Gs p e below _ T15 m 88 #[rv a, rv aJ, rv aO, iv cl, iv (2 : Int32), rv (sel o2 j0 j1 j2)] [(.int (sel o2 p0 p1 p2)), (.int (2 : Int32)), (.ref b29)]
  have f17 := (q24_.other W7 (Ne.symm n20_))
  obtain ⟨cl18, Ar18, qk18, Sz18, qz18, Ha18, Gf18⟩ := id f17
  obtain ⟨T18, h18, X18, e18, W18, st18⟩ := stI X15 hx hZ eh15 Ar18 (inb_of Sz18 ⟨by decide, by decide⟩) (g := (mkF m 88 #[rv a, rv aJ, rv aO, iv cl, iv (2 : Int32), rv (sel o2 j0 j1 j2)] [(.int (sel o2 p0 p1 p2)), (.int (2 : Int32)), (.ref b29)])) rfl rfl (hb hby dp106_1_88)
  have N18 := Fr.snoc X18 N15 w2_
  have V18 : Arv Z h18 b29 cA29 .int (3 : Int32) [(.int (sel o0 p0 p1 p2)), (.int (sel o1 p0 p1 p2)), (.int (sel o2 p0 p1 p2))] (.int (0 : Int32)) := (Arv.set Ar18 qk18 Sz18 qz18 Ha18 Gf18 rfl W18 2 (by decide) (by simp))
  refine Goes.st st18 ?_
  have KK19 := KK8.wr W18 (Or.inr sz_b29)
  have Z18 : n0 ≤ h18.size := by have := W18.size; have := Z7; omega
  show Gs p e below _ T18 m 89 #[rv a, rv aJ, rv aO, iv cl, iv (2 : Int32), rv (sel o2 j0 j1 j2)] []
  refine galoadN X18 hx (hb hby dp106_1_89) rfl rfl ?_
  have f21 := ((q22_.other W7 (Or.inl n6_)).other W18 (Or.inl n13_))
  obtain ⟨T20, X20, e20, st20⟩ := getF X18 hx hZ hown (host := "") (Or.inl (hwk hw 160 rfl)) Via.refl e18 f21 (g := (mkF m 90 #[rv a, rv aJ, rv aO, iv cl, iv (2 : Int32), rv (sel o2 j0 j1 j2)] [(.ref a)])) rfl rfl (hb hby dp106_1_90)
  refine Goes.st st20 ?_
  refine giload X20 hx (hb hby dp106_1_93) rfl ?_
  refine gaload X20 hx (hb hby dp106_1_95) rfl rfl ?_
  have f22 := ((q11_.other W7 (Or.inl n9_)).other W18 (Or.inl n16_))
  have f23 := ((q14_.other W7 (Or.inl n10_)).other W18 (Or.inl n17_))
  have f24 := ((q17_.other W7 (Or.inl n11_)).other W18 (Or.inl n18_))
  have sG25 := own_selT (own_p2 hp) f22 f23 f24
  have f27 := (f16.wr W18)
  obtain ⟨cq26, kq26, qa26, qb26, qc26⟩ := isOf hZ e20 f27
  obtain ⟨_, _, ⟨T26, L26, k26, n26⟩, -, X26, ⟨Lc26, hQ26, l26, y26, z26⟩, st26⟩ := X20.virtualBack hx (y := mN26) (z := mN26) hown (mvT hZ (hwk hw 187 rfl)) (mvT hZ (hwk hw 188 rfl)) (notFace_of_selects (args := #[]) (mvT hZ (hwk hw 190 rfl))) (mvT hZ (hwk hw 190 rfl)) (mvT hZ (hwk hw 189 rfl)) (by decide) (backOf (W := 2) (rmJt l Z a0 hw [] (sel o2 j0 j1 j2) h18 n0 Z18 sG25) hZ (hwk hw 191 rfl) (hwk hw 37 rfl) (by decide) (by decide)) qa26 qc26 (g := (mkF m 97 #[rv a, rv aJ, rv aO, iv cl, iv (2 : Int32), rv (sel o2 j0 j1 j2)] [(.ref (sel o2 j0 j1 j2)), (.int (2 : Int32)), (.ref b45)])) rfl (by rw [hml]; rfl) (Steps.refl _) (argsL := []) (rest := [(.int (2 : Int32)), (.ref b45)]) (lenOf pd___D_4c4 rfl) rfl (by show 2 * 0 + _ ≤ _; exact Nat.le_of_eq rfl) (hb hby dp106_1_97) (fun _ _ => ⟨rfl, e20, (by decide : 4 + 0 ≤ 5), (by decide : 25 + 0 ≤ 41)⟩)
  dsimp only [Pt.U, Pt.locs, Pt.cells, Pt.slots] at X26 l26 y26 z26 st26 hQ26
  subst l26 y26 z26
  obtain ⟨rfl, N26q, eh26⟩ := hQ26
  have N26 := Fr.app N18 N26q
  refine Goes.sts st26 ?_
  show Gs p e below _ T26 m 100 #[rv a, rv aJ, rv aO, iv cl, iv (2 : Int32), rv (sel o2 j0 j1 j2)] [(.double FP.dconst1), (.int (2 : Int32)), (.ref b45)]
  have f28 := ((q25_.other W7 (Ne.symm n28_)).other W18 (Ne.symm n29_))
  obtain ⟨cl29, Ar29, qk29, Sz29, qz29, Ha29, Gf29⟩ := id f28
  obtain ⟨T29, h29, X29, e29, W29, st29⟩ := stD X26 hx hZ eh26 Ar29 (inb_of Sz29 ⟨by decide, by decide⟩) (g := (mkF m 100 #[rv a, rv aJ, rv aO, iv cl, iv (2 : Int32), rv (sel o2 j0 j1 j2)] [(.double FP.dconst1), (.int (2 : Int32)), (.ref b45)])) rfl rfl (hb hby dp106_1_100)
  have N29 := Fr.snoc X29 N26 w3_
  have V29 : Arv Z h29 b45 cA45 .double (3 : Int32) [(.double FP.dconst1), (.double FP.dconst1), (.double FP.dconst1)] (.double (0 : UInt64)) := (Arv.set Ar29 qk29 Sz29 qz29 Ha29 Gf29 rfl W29 2 (by decide) (by simp))
  refine Goes.st st29 ?_
  have KK30 := KK19.wr W29 (Or.inr sz_b45)
  have Z29 : n0 ≤ h29.size := by have := W29.size; have := Z18; omega
  show Gs p e below _ T29 m 101 #[rv a, rv aJ, rv aO, iv cl, iv (2 : Int32), rv (sel o2 j0 j1 j2)] []
  refine Goes.st (fun tg kg => XS.iinc X29.here hx rfl (hb hby dp106_1_101) rfl (l' := #[rv a, rv aJ, rv aO, iv cl, iv (3 : Int32), rv (sel o2 j0 j1 j2)]) rfl kg) ?_
  refine ggoto X29 hx (pc := 104) (pc' := 44) (hb hby dp106_1_104) (by decide) (by decide) ?_
  show Gs p e below _ T29 m 44 #[rv a, rv aJ, rv aO, iv cl, iv (3 : Int32), rv (sel o2 j0 j1 j2)] []
  refine giload X29 hx (hb hby dp106_1_44) rfl ?_
  refine galoadN X29 hx (hb hby dp106_1_46) rfl rfl ?_
  have f31 := (((q18_.other W7 n12_).other W18 n19_).other W29 n27_)
  obtain ⟨cl32, Ar32, qk32, Sz32, qz32, Ha32, Gf32⟩ := id f31
  refine Goes.st (fun tg kg => X29.arraylength hx (cell := cl32) (by rw [e29]; exact Ar32.1) (State.isArrayOf_alike hZ.alike Ar32.2.1) (g := (mkF m 47 #[rv a, rv aJ, rv aO, iv cl, iv (3 : Int32), rv (sel o2 j0 j1 j2)] [(.ref aO), (.int (3 : Int32))])) rfl (rest := [(.int (3 : Int32))]) rfl (hb hby dp106_1_47) tg kg) ?_
  rw [len_of Sz32 qz32]
  show Gs p e below _ T29 m 48 #[rv a, rv aJ, rv aO, iv cl, iv (3 : Int32), rv (sel o2 j0 j1 j2)] [(.int (3 : Int32)), (.int (3 : Int32))]
  refine gicmpYes X29 hx (pc := 48) (pc' := 107) (hb hby dp106_1_48) (by decide) (by decide) (by decide) ?_
  show Gs p e below _ T29 m 107 #[rv a, rv aJ, rv aO, iv cl, iv (3 : Int32), rv (sel o2 j0 j1 j2)] []
  have f33 := (((q0_.wr W7).wr W18).wr W29)
  have f34 := (((q1_.other W7 (Or.inl n6_)).other W18 (Or.inl n13_)).other W29 (Or.inl n21_))
  have f35 := (((q2_.other W7 (Or.inl n6_)).other W18 (Or.inl n13_)).other W29 (Or.inl n21_))
  have f36 := (((q3_.other W7 (Or.inl n6_)).other W18 (Or.inl n13_)).other W29 (Or.inl n21_))
  have f37 := (((q4_.other W7 (Or.inl n6_)).other W18 (Or.inl n13_)).other W29 (Or.inl n21_))
  have f38 := (((q19_.other W7 (Or.inl n6_)).other W18 (Or.inl n13_)).other W29 (Or.inl n21_))
  have f39 := (((q20_.other W7 (Or.inl n6_)).other W18 (Or.inl n13_)).other W29 (Or.inl n21_))
  have f40 := ((f10.other W18 (Or.inl n13_)).other W29 (Or.inl n21_))
  have f41 := ((V7.other W18 n20_).other W29 n28_)
  have f42 := (V18.other W29 n29_)
  exact in107 Z a0 hw hx hby hlk hret hml hnm hown hZ a aJ eD j0 j1 j2 aO kE kO cl o0 o1 o2 p0 p1 p2 b14 b29 cA14 cA29 h0 h29 n0 T29 _ X29 e29 N29 Z29 f33 f34 f35 f36 f37 f31 f38 f39 f40 f41 f42 n5_ n6_ n12_ n13_ n19_ n20_ w0_ w1_ w2_ KK30 sz_b14 sz_b29 hp hcl
set_option maxRecDepth 65536 in
set_option maxHeartbeats 40000000 in
theorem in44_1 {p : Program} {l : Launch} {e : Env} {s : State} {m : MethodId} {args : Array Value} {below : List Frame} {meth : Method} {c : Code}  (Z : State) (a0 : Array Value) (hw : ∀ d ∈ tables_1, d.before a0 Z = true) (hx : p.tables.exec = Jvm.exec) (hby : c.code = prog_106_method_1_code) (hlk : meth.locks = false) (hret : meth.sig.returnType = none) (hml : c.maxLocals = 6) (hnm : meth.name = "<init>") (hown : s.vm.findClass "com/example/redoubt/redoubt/policies/FirstFitQueue" = some m.cls) (hZ : Z.Warmed39 s.vm) (a : Addr) (aJ : Addr) (eD : Addr) (j0 : Addr) (j1 : Addr) (j2 : Addr) (aO : Addr) (kE : ClassId) (kO : ClassId) (cl : Int32) (o0 : Int32) (o1 : Int32) (o2 : Int32) (p0 : Int32) (p1 : Int32) (p2 : Int32) (b14 : Addr) (b29 : Addr) (b45 : Addr) (cA14 : ClassId) (cA29 : ClassId) (cA45 : ClassId) (h0 hh : Heap) (n0 : Nat) (T0 : State) (locs0 : List Loc) (X0 : Stand p l e ({ frames := 3, cells := 5, slots := 41, locals := 40 } : Room) s m args below meth c T0 locs0 4 25) (e0 : T0.heap = hh) (N0 : Fr n0 locs0) (Z0 : n0 ≤ hh.size) (q0_ : Exa Z hh a "com/example/redoubt/redoubt/policies/FirstFitQueue") (q1_ : Fld Z hh a "com/example/redoubt/redoubt/policies/FirstFitQueue" "places" "I" (.int (0 : Int32))) (q2_ : Fld Z hh a "com/example/redoubt/redoubt/policies/FirstFitQueue" "leaves" "I" (.int (0 : Int32))) (q3_ : Fld Z hh a "com/example/redoubt/redoubt/policies/FirstFitQueue" "fewest" "[I" .null) (q4_ : Fld Z hh a "com/example/redoubt/redoubt/policies/FirstFitQueue" "shortest" "[D" .null) (q5_ : Exa Z hh aJ "java/util/ArrayList") (q6_ : Fld Z hh aJ "java/util/ArrayList" "size" "I" (.int (3 : Int32))) (q7_ : Fld Z hh aJ "java/util/ArrayList" "elementData" "[Ljava/lang/Object;" (.ref eD)) (q8_ : Arv Z hh eD kE (.object "java/lang/Object") (10 : Int32) [(.ref j0), (.ref j1), (.ref j2), .null, .null, .null, .null, .null, .null, .null] .null) (q9_ : Exa Z hh j0 "com/example/redoubt/redoubt/engine/Job") (q10_ : Fld Z hh j0 "com/example/redoubt/redoubt/engine/Job" "procs" "I" (.int p0)) (q11_ : Fld Z hh j0 "com/example/redoubt/redoubt/engine/Job" "time" "D" (.double FP.dconst1)) (q12_ : Exa Z hh j1 "com/example/redoubt/redoubt/engine/Job") (q13_ : Fld Z hh j1 "com/example/redoubt/redoubt/engine/Job" "procs" "I" (.int p1)) (q14_ : Fld Z hh j1 "com/example/redoubt/redoubt/engine/Job" "time" "D" (.double FP.dconst1)) (q15_ : Exa Z hh j2 "com/example/redoubt/redoubt/engine/Job") (q16_ : Fld Z hh j2 "com/example/redoubt/redoubt/engine/Job" "procs" "I" (.int p2)) (q17_ : Fld Z hh j2 "com/example/redoubt/redoubt/engine/Job" "time" "D" (.double FP.dconst1)) (q18_ : Arv Z hh aO kO .int (3 : Int32) [(.int o0), (.int o1), (.int o2)] (.int (0 : Int32))) (q19_ : Fld Z hh a "com/example/redoubt/redoubt/policies/FirstFitQueue" "order" "[I" (.ref aO)) (q20_ : Fld Z hh a "com/example/redoubt/redoubt/policies/FirstFitQueue" "rankOf" "[I" (.ref b14)) (q21_ : Fld Z hh a "com/example/redoubt/redoubt/policies/FirstFitQueue" "procs" "[I" (.ref b29)) (q22_ : Fld Z hh a "com/example/redoubt/redoubt/policies/FirstFitQueue" "times" "[D" (.ref b45)) (q23_ : Arv Z hh b14 cA14 .int (3 : Int32) [(.int (put1 o0 0 (0 : Int32) (0 : Int32))), (.int (put1 o0 1 (0 : Int32) (0 : Int32))), (.int (put1 o0 2 (0 : Int32) (0 : Int32)))] (.int (0 : Int32))) (q24_ : Arv Z hh b29 cA29 .int (3 : Int32) [(.int (sel o0 p0 p1 p2)), (.int (0 : Int32)), (.int (0 : Int32))] (.int (0 : Int32))) (q25_ : Arv Z hh b45 cA45 .double (3 : Int32) [(.double FP.dconst1), (.double (0 : UInt64)), (.double (0 : UInt64))] (.double (0 : UInt64))) (n0_ : a ≠ aJ) (n1_ : a ≠ eD) (n2_ : a ≠ j0) (n3_ : a ≠ j1) (n4_ : a ≠ j2) (n5_ : a ≠ aO) (n6_ : a ≠ b14) (n7_ : aJ ≠ b14) (n8_ : eD ≠ b14) (n9_ : j0 ≠ b14) (n10_ : j1 ≠ b14) (n11_ : j2 ≠ b14) (n12_ : aO ≠ b14) (n13_ : a ≠ b29) (n14_ : aJ ≠ b29) (n15_ : eD ≠ b29) (n16_ : j0 ≠ b29) (n17_ : j1 ≠ b29) (n18_ : j2 ≠ b29) (n19_ : aO ≠ b29) (n20_ : b14 ≠ b29) (n21_ : a ≠ b45) (n22_ : aJ ≠ b45) (n23_ : eD ≠ b45) (n24_ : j0 ≠ b45) (n25_ : j1 ≠ b45) (n26_ : j2 ≠ b45) (n27_ : aO ≠ b45) (n28_ : b14 ≠ b45) (n29_ : b29 ≠ b45) (w0_ : n0 ≤ a) (w1_ : n0 ≤ b14) (w2_ : n0 ≤ b29) (w3_ : n0 ≤ b45) (K0 : Keep h0 hh [a]) (sz_b14 : h0.size ≤ b14) (sz_b29 : h0.size ≤ b29) (sz_b45 : h0.size ≤ b45) (hp : Perm3 o0 o1 o2) (hcl : cl = 1 ∨ cl = 2) :
    Goes p e below (EN s (QIn Z a aJ eD j0 j1 j2 aO kE kO cl o0 o1 o2 p0 p1 p2 h0 n0) ({ frames := 3, cells := 5, slots := 41, locals := 40 } : Room).cells ({ frames := 3, cells := 5, slots := 41, locals := 40 } : Room).slots) (T0.setTop (mkF m 44 #[rv a, rv aJ, rv aO, iv cl, iv (1 : Int32), rv (sel o0 j0 j1 j2)] [])) := by
  show Gs p e below _ T0 m 44 #[rv a, rv aJ, rv aO, iv cl, iv (1 : Int32), rv (sel o0 j0 j1 j2)] []
  refine giload X0 hx (hb hby dp106_1_44) rfl ?_
  refine galoadN X0 hx (hb hby dp106_1_46) rfl rfl ?_
  obtain ⟨cl1, Ar1, qk1, Sz1, qz1, Ha1, Gf1⟩ := id q18_
  refine Goes.st (fun tg kg => X0.arraylength hx (cell := cl1) (by rw [e0]; exact Ar1.1) (State.isArrayOf_alike hZ.alike Ar1.2.1) (g := (mkF m 47 #[rv a, rv aJ, rv aO, iv cl, iv (1 : Int32), rv (sel o0 j0 j1 j2)] [(.ref aO), (.int (1 : Int32))])) rfl (rest := [(.int (1 : Int32))]) rfl (hb hby dp106_1_47) tg kg) ?_
  rw [len_of Sz1 qz1]
  show Gs p e below _ T0 m 48 #[rv a, rv aJ, rv aO, iv cl, iv (1 : Int32), rv (sel o0 j0 j1 j2)] [(.int (3 : Int32)), (.int (1 : Int32))]
  refine gicmpNo X0 hx (hb hby dp106_1_48) (by decide) ?_
  refine galoadN X0 hx (hb hby dp106_1_51) rfl rfl ?_
  refine galoadN X0 hx (hb hby dp106_1_52) rfl rfl ?_
  refine giload X0 hx (hb hby dp106_1_53) rfl ?_
  obtain ⟨cl2, Ar2, qk2, Sz2, qz2, Ha2, Gf2⟩ := id q18_
  have in2 := inb_of (j := (1 : Int32)) Sz2 ⟨by decide, by decide⟩
  refine Goes.st (fun tg kg => X0.iaload hx (j := (1 : Int32)) (v := (.int o1)) (by rw [e0]; exact Ar2.1) (State.isArrayOf_alike hZ.alike Ar2.2.1) Ar2.2.2 in2 (Ha2.at in2 rfl) (g := (mkF m 55 #[rv a, rv aJ, rv aO, iv cl, iv (1 : Int32), rv (sel o0 j0 j1 j2)] [(.int (1 : Int32)), (.ref aO), (.ref aJ)])) rfl rfl (hb hby dp106_1_55) tg kg) ?_
  show Gs p e below _ T0 m 56 #[rv a, rv aJ, rv aO, iv cl, iv (1 : Int32), rv (sel o0 j0 j1 j2)] [(.int o1), (.ref aJ)]
  obtain ⟨cq3, kq3, qa3, qb3, qc3⟩ := isOf hZ e0 q5_
  obtain ⟨_, _, ⟨T3, L3, k3, n3⟩, -, X3, ⟨Lc3, hQ3, l3, y3, z3⟩, st3⟩ := X0.interfaceBack hx (xi := mN28) (y := mN24) hown (mvT hZ (hwk hw 162 rfl)) (mvT hZ (hwk hw 163 rfl)) (mvT hZ (hwk hw 164 rfl)) (mvT hZ (hwk hw 165 rfl)) (mvT hZ (hwk hw 166 rfl)) (mvT hZ (hwk hw 167 rfl)) (mvT hZ (hwk hw 168 rfl)) (mvT hZ (hwk hw 169 rfl)) (by decide) (backOf (W := 0) (rmGt l Z a0 hw [] aJ eD kE j0 j1 j2 o1 hh n0 Z0 q5_ q6_ q7_ q8_ (own_p1 hp)) hZ (hwk hw 170 rfl) (hwk hw 11 rfl) (by decide) (by decide)) qa3 qb3 qc3 (g := (mkF m 56 #[rv a, rv aJ, rv aO, iv cl, iv (1 : Int32), rv (sel o0 j0 j1 j2)] [(.int o1), (.ref aJ)])) rfl (by rw [hml]; rfl) (Steps.refl _) (argsL := [(.int o1)]) (rest := []) (lenOf pd__I_Ljava_lang_Object__7cbf rfl) rfl (by show 2 * 0 + _ ≤ _; exact Nat.le_of_eq rfl) (hb hby dp106_1_56) (fun _ _ => ⟨rfl, e0, (by decide : 4 + 0 ≤ 5), (by decide : 25 + 0 ≤ 41)⟩)
  dsimp only [Pt.U, Pt.locs, Pt.cells, Pt.slots] at X3 l3 y3 z3 st3 hQ3
  subst l3 y3 z3
  obtain ⟨rfl, N3q, eh3⟩ := hQ3
  have sE3 := own_selE (own_p1 hp) q9_ q12_ q15_
  have N3 := Fr.app N0 N3q
  refine Goes.sts st3 ?_
  show Gs p e below _ T3 m 61 #[rv a, rv aJ, rv aO, iv cl, iv (1 : Int32), rv (sel o0 j0 j1 j2)] [(.ref (sel o1 j0 j1 j2))]
  obtain ⟨T4, X4, e4, st4⟩ := castY X3 hx hZ hown (hwk hw 180 rfl) eh3 (Ins.self sE3) (g := (mkF m 61 #[rv a, rv aJ, rv aO, iv cl, iv (1 : Int32), rv (sel o0 j0 j1 j2)] [(.ref (sel o1 j0 j1 j2))])) rfl rfl (hb hby dp106_1_61)
  refine Goes.st st4 ?_
  show Gs p e below _ T4 m 64 #[rv a, rv aJ, rv aO, iv cl, iv (1 : Int32), rv (sel o0 j0 j1 j2)] [(.ref (sel o1 j0 j1 j2))]
  refine gastore X4 hx (hb hby dp106_1_64) trivial rfl (l' := #[rv a, rv aJ, rv aO, iv cl, iv (1 : Int32), rv (sel o1 j0 j1 j2)]) rfl ?_
  refine galoadN X4 hx (hb hby dp106_1_66) rfl rfl ?_
  obtain ⟨T5, X5, e5, st5⟩ := getF X4 hx hZ hown (host := "") (Or.inl (hwk hw 155 rfl)) Via.refl e4 q20_ (g := (mkF m 67 #[rv a, rv aJ, rv aO, iv cl, iv (1 : Int32), rv (sel o1 j0 j1 j2)] [(.ref a)])) rfl rfl (hb hby dp106_1_67)
  refine Goes.st st5 ?_
  refine galoadN X5 hx (hb hby dp106_1_70) rfl rfl ?_
  refine giload X5 hx (hb hby dp106_1_71) rfl ?_
  obtain ⟨cl6, Ar6, qk6, Sz6, qz6, Ha6, Gf6⟩ := id q18_
  have in6 := inb_of (j := (1 : Int32)) Sz6 ⟨by decide, by decide⟩
  refine Goes.st (fun tg kg => X5.iaload hx (j := (1 : Int32)) (v := (.int o1)) (by rw [e5]; exact Ar6.1) (State.isArrayOf_alike hZ.alike Ar6.2.1) Ar6.2.2 in6 (Ha6.at in6 rfl) (g := (mkF m 73 #[rv a, rv aJ, rv aO, iv cl, iv (1 : Int32), rv (sel o1 j0 j1 j2)] [(.int (1 : Int32)), (.ref aO), (.ref b14)])) rfl rfl (hb hby dp106_1_73) tg kg) ?_
  refine giload X5 hx (hb hby dp106_1_74) rfl ?_
  show Gs p e below _ T5 m 76 #[rv a, rv aJ, rv aO, iv cl, iv (1 : Int32), rv (sel o1 j0 j1 j2)] [(.int (1 : Int32)), (.int o1), (.ref b14)]
  obtain ⟨cl7, Ar7, qk7, Sz7, qz7, Ha7, Gf7⟩ := id q23_
  obtain ⟨T7, h7, X7, e7, W7, st7⟩ := stI X5 hx hZ e5 Ar7 (inb_of Sz7 ⟨own_jlo (own_p1 hp), own_jhi (own_p1 hp)⟩) (g := (mkF m 76 #[rv a, rv aJ, rv aO, iv cl, iv (1 : Int32), rv (sel o1 j0 j1 j2)] [(.int (1 : Int32)), (.int o1), (.ref b14)])) rfl rfl (hb hby dp106_1_76)
  have N7 := Fr.snoc X7 N3 w1_
  have V7 : Arv Z h7 b14 cA14 .int (3 : Int32) [(.int (put1 o1 0 (1 : Int32) (put1 o0 0 (0 : Int32) (0 : Int32)))), (.int (put1 o1 1 (1 : Int32) (put1 o0 1 (0 : Int32) (0 : Int32)))), (.int (put1 o1 2 (1 : Int32) (put1 o0 2 (0 : Int32) (0 : Int32))))] (.int (0 : Int32)) := own_set3 (own_p1 hp) (Arv.set Ar7 qk7 Sz7 qz7 Ha7 Gf7 rfl W7 o1.toNatClampNeg rfl (own_len3 (own_p1 hp) _ _ _))
  refine Goes.st st7 ?_
  have KK8 := K0.wr W7 (Or.inr sz_b14)
  have Z7 : n0 ≤ h7.size := by have := W7.size; have := Z0; omega
  show Gs p e below _ T7 m 77 #[rv a, rv aJ, rv aO, iv cl, iv (1 : Int32), rv (sel o1 j0 j1 j2)] []
  refine galoadN X7 hx (hb hby dp106_1_77) rfl rfl ?_
  have f10 := (q21_.other W7 (Or.inl n6_))
  obtain ⟨T9, X9, e9, st9⟩ := getF X7 hx hZ hown (host := "") (Or.inl (hwk hw 157 rfl)) Via.refl e7 f10 (g := (mkF m 78 #[rv a, rv aJ, rv aO, iv cl, iv (1 : Int32), rv (sel o1 j0 j1 j2)] [(.ref a)])) rfl rfl (hb hby dp106_1_78)
  refine Goes.st st9 ?_
  refine giload X9 hx (hb hby dp106_1_81) rfl ?_
  refine gaload X9 hx (hb hby dp106_1_83) rfl rfl ?_
  have f11 := (q10_.other W7 (Or.inl n9_))
  have f12 := (q13_.other W7 (Or.inl n10_))
  have f13 := (q16_.other W7 (Or.inl n11_))
  have sG14 := own_selF (own_p1 hp) f11 f12 f13
  have f16 := (sE3.wr W7)
  obtain ⟨cq15, kq15, qa15, qb15, qc15⟩ := isOf hZ e9 f16
  obtain ⟨_, _, ⟨T15, L15, k15, n15⟩, -, X15, ⟨Lc15, hQ15, l15, y15, z15⟩, st15⟩ := X9.virtualBack hx (y := mN25) (z := mN25) hown (mvT hZ (hwk hw 182 rfl)) (mvT hZ (hwk hw 183 rfl)) (notFace_of_selects (args := #[]) (mvT hZ (hwk hw 185 rfl))) (mvT hZ (hwk hw 185 rfl)) (mvT hZ (hwk hw 184 rfl)) (by decide) (backOf (W := 2) (rmJp l Z a0 hw [] (sel o1 j0 j1 j2) (sel o1 p0 p1 p2) h7 n0 Z7 sG14) hZ (hwk hw 186 rfl) (hwk hw 37 rfl) (by decide) (by decide)) qa15 qc15 (g := (mkF m 85 #[rv a, rv aJ, rv aO, iv cl, iv (1 : Int32), rv (sel o1 j0 j1 j2)] [(.ref (sel o1 j0 j1 j2)), (.int (1 : Int32)), (.ref b29)])) rfl (by rw [hml]; rfl) (Steps.refl _) (argsL := []) (rest := [(.int (1 : Int32)), (.ref b29)]) (lenOf pd___I_4f1 rfl) rfl (by show 2 * 0 + _ ≤ _; exact Nat.le_of_eq rfl) (hb hby dp106_1_85) (fun _ _ => ⟨rfl, e9, (by decide : 4 + 0 ≤ 5), (by decide : 25 + 0 ≤ 41)⟩)
  dsimp only [Pt.U, Pt.locs, Pt.cells, Pt.slots] at X15 l15 y15 z15 st15 hQ15
  subst l15 y15 z15
  obtain ⟨rfl, N15q, eh15⟩ := hQ15
  have N15 := Fr.app N7 N15q
  refine Goes.sts st15 ?_
  show Gs p e below _ T15 m 88 #[rv a, rv aJ, rv aO, iv cl, iv (1 : Int32), rv (sel o1 j0 j1 j2)] [(.int (sel o1 p0 p1 p2)), (.int (1 : Int32)), (.ref b29)]
  have f17 := (q24_.other W7 (Ne.symm n20_))
  obtain ⟨cl18, Ar18, qk18, Sz18, qz18, Ha18, Gf18⟩ := id f17
  obtain ⟨T18, h18, X18, e18, W18, st18⟩ := stI X15 hx hZ eh15 Ar18 (inb_of Sz18 ⟨by decide, by decide⟩) (g := (mkF m 88 #[rv a, rv aJ, rv aO, iv cl, iv (1 : Int32), rv (sel o1 j0 j1 j2)] [(.int (sel o1 p0 p1 p2)), (.int (1 : Int32)), (.ref b29)])) rfl rfl (hb hby dp106_1_88)
  have N18 := Fr.snoc X18 N15 w2_
  have V18 : Arv Z h18 b29 cA29 .int (3 : Int32) [(.int (sel o0 p0 p1 p2)), (.int (sel o1 p0 p1 p2)), (.int (0 : Int32))] (.int (0 : Int32)) := (Arv.set Ar18 qk18 Sz18 qz18 Ha18 Gf18 rfl W18 1 (by decide) (by simp))
  refine Goes.st st18 ?_
  have KK19 := KK8.wr W18 (Or.inr sz_b29)
  have Z18 : n0 ≤ h18.size := by have := W18.size; have := Z7; omega
  show Gs p e below _ T18 m 89 #[rv a, rv aJ, rv aO, iv cl, iv (1 : Int32), rv (sel o1 j0 j1 j2)] []
  refine galoadN X18 hx (hb hby dp106_1_89) rfl rfl ?_
  have f21 := ((q22_.other W7 (Or.inl n6_)).other W18 (Or.inl n13_))
  obtain ⟨T20, X20, e20, st20⟩ := getF X18 hx hZ hown (host := "") (Or.inl (hwk hw 160 rfl)) Via.refl e18 f21 (g := (mkF m 90 #[rv a, rv aJ, rv aO, iv cl, iv (1 : Int32), rv (sel o1 j0 j1 j2)] [(.ref a)])) rfl rfl (hb hby dp106_1_90)
  refine Goes.st st20 ?_
  refine giload X20 hx (hb hby dp106_1_93) rfl ?_
  refine gaload X20 hx (hb hby dp106_1_95) rfl rfl ?_
  have f22 := ((q11_.other W7 (Or.inl n9_)).other W18 (Or.inl n16_))
  have f23 := ((q14_.other W7 (Or.inl n10_)).other W18 (Or.inl n17_))
  have f24 := ((q17_.other W7 (Or.inl n11_)).other W18 (Or.inl n18_))
  have sG25 := own_selT (own_p1 hp) f22 f23 f24
  have f27 := (f16.wr W18)
  obtain ⟨cq26, kq26, qa26, qb26, qc26⟩ := isOf hZ e20 f27
  obtain ⟨_, _, ⟨T26, L26, k26, n26⟩, -, X26, ⟨Lc26, hQ26, l26, y26, z26⟩, st26⟩ := X20.virtualBack hx (y := mN26) (z := mN26) hown (mvT hZ (hwk hw 187 rfl)) (mvT hZ (hwk hw 188 rfl)) (notFace_of_selects (args := #[]) (mvT hZ (hwk hw 190 rfl))) (mvT hZ (hwk hw 190 rfl)) (mvT hZ (hwk hw 189 rfl)) (by decide) (backOf (W := 2) (rmJt l Z a0 hw [] (sel o1 j0 j1 j2) h18 n0 Z18 sG25) hZ (hwk hw 191 rfl) (hwk hw 37 rfl) (by decide) (by decide)) qa26 qc26 (g := (mkF m 97 #[rv a, rv aJ, rv aO, iv cl, iv (1 : Int32), rv (sel o1 j0 j1 j2)] [(.ref (sel o1 j0 j1 j2)), (.int (1 : Int32)), (.ref b45)])) rfl (by rw [hml]; rfl) (Steps.refl _) (argsL := []) (rest := [(.int (1 : Int32)), (.ref b45)]) (lenOf pd___D_4c4 rfl) rfl (by show 2 * 0 + _ ≤ _; exact Nat.le_of_eq rfl) (hb hby dp106_1_97) (fun _ _ => ⟨rfl, e20, (by decide : 4 + 0 ≤ 5), (by decide : 25 + 0 ≤ 41)⟩)
  dsimp only [Pt.U, Pt.locs, Pt.cells, Pt.slots] at X26 l26 y26 z26 st26 hQ26
  subst l26 y26 z26
  obtain ⟨rfl, N26q, eh26⟩ := hQ26
  have N26 := Fr.app N18 N26q
  refine Goes.sts st26 ?_
  show Gs p e below _ T26 m 100 #[rv a, rv aJ, rv aO, iv cl, iv (1 : Int32), rv (sel o1 j0 j1 j2)] [(.double FP.dconst1), (.int (1 : Int32)), (.ref b45)]
  have f28 := ((q25_.other W7 (Ne.symm n28_)).other W18 (Ne.symm n29_))
  obtain ⟨cl29, Ar29, qk29, Sz29, qz29, Ha29, Gf29⟩ := id f28
  obtain ⟨T29, h29, X29, e29, W29, st29⟩ := stD X26 hx hZ eh26 Ar29 (inb_of Sz29 ⟨by decide, by decide⟩) (g := (mkF m 100 #[rv a, rv aJ, rv aO, iv cl, iv (1 : Int32), rv (sel o1 j0 j1 j2)] [(.double FP.dconst1), (.int (1 : Int32)), (.ref b45)])) rfl rfl (hb hby dp106_1_100)
  have N29 := Fr.snoc X29 N26 w3_
  have V29 : Arv Z h29 b45 cA45 .double (3 : Int32) [(.double FP.dconst1), (.double FP.dconst1), (.double (0 : UInt64))] (.double (0 : UInt64)) := (Arv.set Ar29 qk29 Sz29 qz29 Ha29 Gf29 rfl W29 1 (by decide) (by simp))
  refine Goes.st st29 ?_
  have KK30 := KK19.wr W29 (Or.inr sz_b45)
  have Z29 : n0 ≤ h29.size := by have := W29.size; have := Z18; omega
  show Gs p e below _ T29 m 101 #[rv a, rv aJ, rv aO, iv cl, iv (1 : Int32), rv (sel o1 j0 j1 j2)] []
  refine Goes.st (fun tg kg => XS.iinc X29.here hx rfl (hb hby dp106_1_101) rfl (l' := #[rv a, rv aJ, rv aO, iv cl, iv (2 : Int32), rv (sel o1 j0 j1 j2)]) rfl kg) ?_
  refine ggoto X29 hx (pc := 104) (pc' := 44) (hb hby dp106_1_104) (by decide) (by decide) ?_
  show Gs p e below _ T29 m 44 #[rv a, rv aJ, rv aO, iv cl, iv (2 : Int32), rv (sel o1 j0 j1 j2)] []
  have f31 := (((q0_.wr W7).wr W18).wr W29)
  have f32 := (((q1_.other W7 (Or.inl n6_)).other W18 (Or.inl n13_)).other W29 (Or.inl n21_))
  have f33 := (((q2_.other W7 (Or.inl n6_)).other W18 (Or.inl n13_)).other W29 (Or.inl n21_))
  have f34 := (((q3_.other W7 (Or.inl n6_)).other W18 (Or.inl n13_)).other W29 (Or.inl n21_))
  have f35 := (((q4_.other W7 (Or.inl n6_)).other W18 (Or.inl n13_)).other W29 (Or.inl n21_))
  have f36 := (((q5_.wr W7).wr W18).wr W29)
  have f37 := (((q6_.other W7 (Or.inl n7_)).other W18 (Or.inl n14_)).other W29 (Or.inl n22_))
  have f38 := (((q7_.other W7 (Or.inl n7_)).other W18 (Or.inl n14_)).other W29 (Or.inl n22_))
  have f39 := (((q8_.other W7 n8_).other W18 n15_).other W29 n23_)
  have f40 := (((q9_.wr W7).wr W18).wr W29)
  have f41 := ((f11.other W18 (Or.inl n16_)).other W29 (Or.inl n24_))
  have f42 := (f22.other W29 (Or.inl n24_))
  have f43 := (((q12_.wr W7).wr W18).wr W29)
  have f44 := ((f12.other W18 (Or.inl n17_)).other W29 (Or.inl n25_))
  have f45 := (f23.other W29 (Or.inl n25_))
  have f46 := (((q15_.wr W7).wr W18).wr W29)
  have f47 := ((f13.other W18 (Or.inl n18_)).other W29 (Or.inl n26_))
  have f48 := (f24.other W29 (Or.inl n26_))
  have f49 := (((q18_.other W7 n12_).other W18 n19_).other W29 n27_)
  have f50 := (((q19_.other W7 (Or.inl n6_)).other W18 (Or.inl n13_)).other W29 (Or.inl n21_))
  have f51 := (((q20_.other W7 (Or.inl n6_)).other W18 (Or.inl n13_)).other W29 (Or.inl n21_))
  have f52 := ((f10.other W18 (Or.inl n13_)).other W29 (Or.inl n21_))
  have f53 := (f21.other W29 (Or.inl n21_))
  have f54 := ((V7.other W18 n20_).other W29 n28_)
  have f55 := (V18.other W29 n29_)
  exact in44_2 Z a0 hw hx hby hlk hret hml hnm hown hZ a aJ eD j0 j1 j2 aO kE kO cl o0 o1 o2 p0 p1 p2 b14 b29 b45 cA14 cA29 cA45 h0 h29 n0 T29 _ X29 e29 N29 Z29 f31 f32 f33 f34 f35 f36 f37 f38 f39 f40 f41 f42 f43 f44 f45 f46 f47 f48 f49 f50 f51 f52 f53 f54 f55 V29 n0_ n1_ n2_ n3_ n4_ n5_ n6_ n7_ n8_ n9_ n10_ n11_ n12_ n13_ n14_ n15_ n16_ n17_ n18_ n19_ n20_ n21_ n22_ n23_ n24_ n25_ n26_ n27_ n28_ n29_ w0_ w1_ w2_ w3_ KK30 sz_b14 sz_b29 sz_b45 hp hcl
set_option maxRecDepth 65536 in
set_option maxHeartbeats 40000000 in
theorem in44_0 {p : Program} {l : Launch} {e : Env} {s : State} {m : MethodId} {args : Array Value} {below : List Frame} {meth : Method} {c : Code}  (Z : State) (a0 : Array Value) (hw : ∀ d ∈ tables_1, d.before a0 Z = true) (hx : p.tables.exec = Jvm.exec) (hby : c.code = prog_106_method_1_code) (hlk : meth.locks = false) (hret : meth.sig.returnType = none) (hml : c.maxLocals = 6) (hnm : meth.name = "<init>") (hown : s.vm.findClass "com/example/redoubt/redoubt/policies/FirstFitQueue" = some m.cls) (hZ : Z.Warmed39 s.vm) (a : Addr) (aJ : Addr) (eD : Addr) (j0 : Addr) (j1 : Addr) (j2 : Addr) (aO : Addr) (kE : ClassId) (kO : ClassId) (cl : Int32) (o0 : Int32) (o1 : Int32) (o2 : Int32) (p0 : Int32) (p1 : Int32) (p2 : Int32) (b14 : Addr) (cA14 : ClassId) (b29 : Addr) (cA29 : ClassId) (b45 : Addr) (cA45 : ClassId) (h0 hh : Heap) (n0 : Nat) (T0 : State) (locs0 : List Loc) (X0 : Stand p l e ({ frames := 3, cells := 5, slots := 41, locals := 40 } : Room) s m args below meth c T0 locs0 4 25) (e0 : T0.heap = hh) (N0 : Fr n0 locs0) (Z0 : n0 ≤ hh.size) (q0_ : Exa Z hh a "com/example/redoubt/redoubt/policies/FirstFitQueue") (q1_ : Fld Z hh a "com/example/redoubt/redoubt/policies/FirstFitQueue" "places" "I" (.int (0 : Int32))) (q2_ : Fld Z hh a "com/example/redoubt/redoubt/policies/FirstFitQueue" "leaves" "I" (.int (0 : Int32))) (q3_ : Fld Z hh a "com/example/redoubt/redoubt/policies/FirstFitQueue" "fewest" "[I" .null) (q4_ : Fld Z hh a "com/example/redoubt/redoubt/policies/FirstFitQueue" "shortest" "[D" .null) (q5_ : Exa Z hh aJ "java/util/ArrayList") (q6_ : Fld Z hh aJ "java/util/ArrayList" "size" "I" (.int (3 : Int32))) (q7_ : Fld Z hh aJ "java/util/ArrayList" "elementData" "[Ljava/lang/Object;" (.ref eD)) (q8_ : Arv Z hh eD kE (.object "java/lang/Object") (10 : Int32) [(.ref j0), (.ref j1), (.ref j2), .null, .null, .null, .null, .null, .null, .null] .null) (q9_ : Exa Z hh j0 "com/example/redoubt/redoubt/engine/Job") (q10_ : Fld Z hh j0 "com/example/redoubt/redoubt/engine/Job" "procs" "I" (.int p0)) (q11_ : Fld Z hh j0 "com/example/redoubt/redoubt/engine/Job" "time" "D" (.double FP.dconst1)) (q12_ : Exa Z hh j1 "com/example/redoubt/redoubt/engine/Job") (q13_ : Fld Z hh j1 "com/example/redoubt/redoubt/engine/Job" "procs" "I" (.int p1)) (q14_ : Fld Z hh j1 "com/example/redoubt/redoubt/engine/Job" "time" "D" (.double FP.dconst1)) (q15_ : Exa Z hh j2 "com/example/redoubt/redoubt/engine/Job") (q16_ : Fld Z hh j2 "com/example/redoubt/redoubt/engine/Job" "procs" "I" (.int p2)) (q17_ : Fld Z hh j2 "com/example/redoubt/redoubt/engine/Job" "time" "D" (.double FP.dconst1)) (q18_ : Arv Z hh aO kO .int (3 : Int32) [(.int o0), (.int o1), (.int o2)] (.int (0 : Int32))) (q19_ : Fld Z hh a "com/example/redoubt/redoubt/policies/FirstFitQueue" "order" "[I" (.ref aO)) (q20_ : Arv Z hh b14 cA14 .int (3 : Int32) [(.int (0 : Int32)), (.int (0 : Int32)), (.int (0 : Int32))] (.int (0 : Int32))) (q21_ : Fld Z hh a "com/example/redoubt/redoubt/policies/FirstFitQueue" "rankOf" "[I" (.ref b14)) (q22_ : Arv Z hh b29 cA29 .int (3 : Int32) [(.int (0 : Int32)), (.int (0 : Int32)), (.int (0 : Int32))] (.int (0 : Int32))) (q23_ : Fld Z hh a "com/example/redoubt/redoubt/policies/FirstFitQueue" "procs" "[I" (.ref b29)) (q24_ : Arv Z hh b45 cA45 .double (3 : Int32) [(.double (0 : UInt64)), (.double (0 : UInt64)), (.double (0 : UInt64))] (.double (0 : UInt64))) (q25_ : Fld Z hh a "com/example/redoubt/redoubt/policies/FirstFitQueue" "times" "[D" (.ref b45)) (n0_ : a ≠ aJ) (n1_ : a ≠ eD) (n2_ : a ≠ j0) (n3_ : a ≠ j1) (n4_ : a ≠ j2) (n5_ : a ≠ aO) (n6_ : a ≠ b14) (n7_ : aJ ≠ b14) (n8_ : eD ≠ b14) (n9_ : j0 ≠ b14) (n10_ : j1 ≠ b14) (n11_ : j2 ≠ b14) (n12_ : aO ≠ b14) (n13_ : a ≠ b29) (n14_ : aJ ≠ b29) (n15_ : eD ≠ b29) (n16_ : j0 ≠ b29) (n17_ : j1 ≠ b29) (n18_ : j2 ≠ b29) (n19_ : aO ≠ b29) (n20_ : b14 ≠ b29) (n21_ : a ≠ b45) (n22_ : aJ ≠ b45) (n23_ : eD ≠ b45) (n24_ : j0 ≠ b45) (n25_ : j1 ≠ b45) (n26_ : j2 ≠ b45) (n27_ : aO ≠ b45) (n28_ : b14 ≠ b45) (n29_ : b29 ≠ b45) (w0_ : n0 ≤ a) (w1_ : n0 ≤ b14) (w2_ : n0 ≤ b29) (w3_ : n0 ≤ b45) (K0 : Keep h0 hh [a]) (sz_b14 : h0.size ≤ b14) (sz_b29 : h0.size ≤ b29) (sz_b45 : h0.size ≤ b45) (hp : Perm3 o0 o1 o2) (hcl : cl = 1 ∨ cl = 2) :
    Goes p e below (EN s (QIn Z a aJ eD j0 j1 j2 aO kE kO cl o0 o1 o2 p0 p1 p2 h0 n0) ({ frames := 3, cells := 5, slots := 41, locals := 40 } : Room).cells ({ frames := 3, cells := 5, slots := 41, locals := 40 } : Room).slots) (T0.setTop (mkF m 44 #[rv a, rv aJ, rv aO, iv cl, iv (0 : Int32), .unset] [])) := by
  show Gs p e below _ T0 m 44 #[rv a, rv aJ, rv aO, iv cl, iv (0 : Int32), .unset] []
  refine giload X0 hx (hb hby dp106_1_44) rfl ?_
  refine galoadN X0 hx (hb hby dp106_1_46) rfl rfl ?_
  obtain ⟨cl1, Ar1, qk1, Sz1, qz1, Ha1, Gf1⟩ := id q18_
  refine Goes.st (fun tg kg => X0.arraylength hx (cell := cl1) (by rw [e0]; exact Ar1.1) (State.isArrayOf_alike hZ.alike Ar1.2.1) (g := (mkF m 47 #[rv a, rv aJ, rv aO, iv cl, iv (0 : Int32), .unset] [(.ref aO), (.int (0 : Int32))])) rfl (rest := [(.int (0 : Int32))]) rfl (hb hby dp106_1_47) tg kg) ?_
  rw [len_of Sz1 qz1]
  show Gs p e below _ T0 m 48 #[rv a, rv aJ, rv aO, iv cl, iv (0 : Int32), .unset] [(.int (3 : Int32)), (.int (0 : Int32))]
  refine gicmpNo X0 hx (hb hby dp106_1_48) (by decide) ?_
  refine galoadN X0 hx (hb hby dp106_1_51) rfl rfl ?_
  refine galoadN X0 hx (hb hby dp106_1_52) rfl rfl ?_
  refine giload X0 hx (hb hby dp106_1_53) rfl ?_
  obtain ⟨cl2, Ar2, qk2, Sz2, qz2, Ha2, Gf2⟩ := id q18_
  have in2 := inb_of (j := (0 : Int32)) Sz2 ⟨by decide, by decide⟩
  refine Goes.st (fun tg kg => X0.iaload hx (j := (0 : Int32)) (v := (.int o0)) (by rw [e0]; exact Ar2.1) (State.isArrayOf_alike hZ.alike Ar2.2.1) Ar2.2.2 in2 (Ha2.at in2 rfl) (g := (mkF m 55 #[rv a, rv aJ, rv aO, iv cl, iv (0 : Int32), .unset] [(.int (0 : Int32)), (.ref aO), (.ref aJ)])) rfl rfl (hb hby dp106_1_55) tg kg) ?_
  show Gs p e below _ T0 m 56 #[rv a, rv aJ, rv aO, iv cl, iv (0 : Int32), .unset] [(.int o0), (.ref aJ)]
  obtain ⟨cq3, kq3, qa3, qb3, qc3⟩ := isOf hZ e0 q5_
  obtain ⟨_, _, ⟨T3, L3, k3, n3⟩, -, X3, ⟨Lc3, hQ3, l3, y3, z3⟩, st3⟩ := X0.interfaceBack hx (xi := mN28) (y := mN24) hown (mvT hZ (hwk hw 162 rfl)) (mvT hZ (hwk hw 163 rfl)) (mvT hZ (hwk hw 164 rfl)) (mvT hZ (hwk hw 165 rfl)) (mvT hZ (hwk hw 166 rfl)) (mvT hZ (hwk hw 167 rfl)) (mvT hZ (hwk hw 168 rfl)) (mvT hZ (hwk hw 169 rfl)) (by decide) (backOf (W := 0) (rmGt l Z a0 hw [] aJ eD kE j0 j1 j2 o0 hh n0 Z0 q5_ q6_ q7_ q8_ (own_p0 hp)) hZ (hwk hw 170 rfl) (hwk hw 11 rfl) (by decide) (by decide)) qa3 qb3 qc3 (g := (mkF m 56 #[rv a, rv aJ, rv aO, iv cl, iv (0 : Int32), .unset] [(.int o0), (.ref aJ)])) rfl (by rw [hml]; rfl) (Steps.refl _) (argsL := [(.int o0)]) (rest := []) (lenOf pd__I_Ljava_lang_Object__7cbf rfl) rfl (by show 2 * 0 + _ ≤ _; exact Nat.le_of_eq rfl) (hb hby dp106_1_56) (fun _ _ => ⟨rfl, e0, (by decide : 4 + 0 ≤ 5), (by decide : 25 + 0 ≤ 41)⟩)
  dsimp only [Pt.U, Pt.locs, Pt.cells, Pt.slots] at X3 l3 y3 z3 st3 hQ3
  subst l3 y3 z3
  obtain ⟨rfl, N3q, eh3⟩ := hQ3
  have sE3 := own_selE (own_p0 hp) q9_ q12_ q15_
  have N3 := Fr.app N0 N3q
  refine Goes.sts st3 ?_
  show Gs p e below _ T3 m 61 #[rv a, rv aJ, rv aO, iv cl, iv (0 : Int32), .unset] [(.ref (sel o0 j0 j1 j2))]
  obtain ⟨T4, X4, e4, st4⟩ := castY X3 hx hZ hown (hwk hw 180 rfl) eh3 (Ins.self sE3) (g := (mkF m 61 #[rv a, rv aJ, rv aO, iv cl, iv (0 : Int32), .unset] [(.ref (sel o0 j0 j1 j2))])) rfl rfl (hb hby dp106_1_61)
  refine Goes.st st4 ?_
  show Gs p e below _ T4 m 64 #[rv a, rv aJ, rv aO, iv cl, iv (0 : Int32), .unset] [(.ref (sel o0 j0 j1 j2))]
  refine gastore X4 hx (hb hby dp106_1_64) trivial rfl (l' := #[rv a, rv aJ, rv aO, iv cl, iv (0 : Int32), rv (sel o0 j0 j1 j2)]) rfl ?_
  refine galoadN X4 hx (hb hby dp106_1_66) rfl rfl ?_
  obtain ⟨T5, X5, e5, st5⟩ := getF X4 hx hZ hown (host := "") (Or.inl (hwk hw 155 rfl)) Via.refl e4 q21_ (g := (mkF m 67 #[rv a, rv aJ, rv aO, iv cl, iv (0 : Int32), rv (sel o0 j0 j1 j2)] [(.ref a)])) rfl rfl (hb hby dp106_1_67)
  refine Goes.st st5 ?_
  refine galoadN X5 hx (hb hby dp106_1_70) rfl rfl ?_
  refine giload X5 hx (hb hby dp106_1_71) rfl ?_
  obtain ⟨cl6, Ar6, qk6, Sz6, qz6, Ha6, Gf6⟩ := id q18_
  have in6 := inb_of (j := (0 : Int32)) Sz6 ⟨by decide, by decide⟩
  refine Goes.st (fun tg kg => X5.iaload hx (j := (0 : Int32)) (v := (.int o0)) (by rw [e5]; exact Ar6.1) (State.isArrayOf_alike hZ.alike Ar6.2.1) Ar6.2.2 in6 (Ha6.at in6 rfl) (g := (mkF m 73 #[rv a, rv aJ, rv aO, iv cl, iv (0 : Int32), rv (sel o0 j0 j1 j2)] [(.int (0 : Int32)), (.ref aO), (.ref b14)])) rfl rfl (hb hby dp106_1_73) tg kg) ?_
  refine giload X5 hx (hb hby dp106_1_74) rfl ?_
  show Gs p e below _ T5 m 76 #[rv a, rv aJ, rv aO, iv cl, iv (0 : Int32), rv (sel o0 j0 j1 j2)] [(.int (0 : Int32)), (.int o0), (.ref b14)]
  obtain ⟨cl7, Ar7, qk7, Sz7, qz7, Ha7, Gf7⟩ := id q20_
  obtain ⟨T7, h7, X7, e7, W7, st7⟩ := stI X5 hx hZ e5 Ar7 (inb_of Sz7 ⟨own_jlo (own_p0 hp), own_jhi (own_p0 hp)⟩) (g := (mkF m 76 #[rv a, rv aJ, rv aO, iv cl, iv (0 : Int32), rv (sel o0 j0 j1 j2)] [(.int (0 : Int32)), (.int o0), (.ref b14)])) rfl rfl (hb hby dp106_1_76)
  have N7 := Fr.snoc X7 N3 w1_
  have V7 : Arv Z h7 b14 cA14 .int (3 : Int32) [(.int (put1 o0 0 (0 : Int32) (0 : Int32))), (.int (put1 o0 1 (0 : Int32) (0 : Int32))), (.int (put1 o0 2 (0 : Int32) (0 : Int32)))] (.int (0 : Int32)) := own_set3 (own_p0 hp) (Arv.set Ar7 qk7 Sz7 qz7 Ha7 Gf7 rfl W7 o0.toNatClampNeg rfl (own_len3 (own_p0 hp) _ _ _))
  refine Goes.st st7 ?_
  have KK8 := K0.wr W7 (Or.inr sz_b14)
  have Z7 : n0 ≤ h7.size := by have := W7.size; have := Z0; omega
  show Gs p e below _ T7 m 77 #[rv a, rv aJ, rv aO, iv cl, iv (0 : Int32), rv (sel o0 j0 j1 j2)] []
  refine galoadN X7 hx (hb hby dp106_1_77) rfl rfl ?_
  have f10 := (q23_.other W7 (Or.inl n6_))
  obtain ⟨T9, X9, e9, st9⟩ := getF X7 hx hZ hown (host := "") (Or.inl (hwk hw 157 rfl)) Via.refl e7 f10 (g := (mkF m 78 #[rv a, rv aJ, rv aO, iv cl, iv (0 : Int32), rv (sel o0 j0 j1 j2)] [(.ref a)])) rfl rfl (hb hby dp106_1_78)
  refine Goes.st st9 ?_
  refine giload X9 hx (hb hby dp106_1_81) rfl ?_
  refine gaload X9 hx (hb hby dp106_1_83) rfl rfl ?_
  have f11 := (q10_.other W7 (Or.inl n9_))
  have f12 := (q13_.other W7 (Or.inl n10_))
  have f13 := (q16_.other W7 (Or.inl n11_))
  have sG14 := own_selF (own_p0 hp) f11 f12 f13
  have f16 := (sE3.wr W7)
  obtain ⟨cq15, kq15, qa15, qb15, qc15⟩ := isOf hZ e9 f16
  obtain ⟨_, _, ⟨T15, L15, k15, n15⟩, -, X15, ⟨Lc15, hQ15, l15, y15, z15⟩, st15⟩ := X9.virtualBack hx (y := mN25) (z := mN25) hown (mvT hZ (hwk hw 182 rfl)) (mvT hZ (hwk hw 183 rfl)) (notFace_of_selects (args := #[]) (mvT hZ (hwk hw 185 rfl))) (mvT hZ (hwk hw 185 rfl)) (mvT hZ (hwk hw 184 rfl)) (by decide) (backOf (W := 2) (rmJp l Z a0 hw [] (sel o0 j0 j1 j2) (sel o0 p0 p1 p2) h7 n0 Z7 sG14) hZ (hwk hw 186 rfl) (hwk hw 37 rfl) (by decide) (by decide)) qa15 qc15 (g := (mkF m 85 #[rv a, rv aJ, rv aO, iv cl, iv (0 : Int32), rv (sel o0 j0 j1 j2)] [(.ref (sel o0 j0 j1 j2)), (.int (0 : Int32)), (.ref b29)])) rfl (by rw [hml]; rfl) (Steps.refl _) (argsL := []) (rest := [(.int (0 : Int32)), (.ref b29)]) (lenOf pd___I_4f1 rfl) rfl (by show 2 * 0 + _ ≤ _; exact Nat.le_of_eq rfl) (hb hby dp106_1_85) (fun _ _ => ⟨rfl, e9, (by decide : 4 + 0 ≤ 5), (by decide : 25 + 0 ≤ 41)⟩)
  dsimp only [Pt.U, Pt.locs, Pt.cells, Pt.slots] at X15 l15 y15 z15 st15 hQ15
  subst l15 y15 z15
  obtain ⟨rfl, N15q, eh15⟩ := hQ15
  have N15 := Fr.app N7 N15q
  refine Goes.sts st15 ?_
  show Gs p e below _ T15 m 88 #[rv a, rv aJ, rv aO, iv cl, iv (0 : Int32), rv (sel o0 j0 j1 j2)] [(.int (sel o0 p0 p1 p2)), (.int (0 : Int32)), (.ref b29)]
  have f17 := (q22_.other W7 (Ne.symm n20_))
  obtain ⟨cl18, Ar18, qk18, Sz18, qz18, Ha18, Gf18⟩ := id f17
  obtain ⟨T18, h18, X18, e18, W18, st18⟩ := stI X15 hx hZ eh15 Ar18 (inb_of Sz18 ⟨by decide, by decide⟩) (g := (mkF m 88 #[rv a, rv aJ, rv aO, iv cl, iv (0 : Int32), rv (sel o0 j0 j1 j2)] [(.int (sel o0 p0 p1 p2)), (.int (0 : Int32)), (.ref b29)])) rfl rfl (hb hby dp106_1_88)
  have N18 := Fr.snoc X18 N15 w2_
  have V18 : Arv Z h18 b29 cA29 .int (3 : Int32) [(.int (sel o0 p0 p1 p2)), (.int (0 : Int32)), (.int (0 : Int32))] (.int (0 : Int32)) := (Arv.set Ar18 qk18 Sz18 qz18 Ha18 Gf18 rfl W18 0 (by decide) (by simp))
  refine Goes.st st18 ?_
  have KK19 := KK8.wr W18 (Or.inr sz_b29)
  have Z18 : n0 ≤ h18.size := by have := W18.size; have := Z7; omega
  show Gs p e below _ T18 m 89 #[rv a, rv aJ, rv aO, iv cl, iv (0 : Int32), rv (sel o0 j0 j1 j2)] []
  refine galoadN X18 hx (hb hby dp106_1_89) rfl rfl ?_
  have f21 := ((q25_.other W7 (Or.inl n6_)).other W18 (Or.inl n13_))
  obtain ⟨T20, X20, e20, st20⟩ := getF X18 hx hZ hown (host := "") (Or.inl (hwk hw 160 rfl)) Via.refl e18 f21 (g := (mkF m 90 #[rv a, rv aJ, rv aO, iv cl, iv (0 : Int32), rv (sel o0 j0 j1 j2)] [(.ref a)])) rfl rfl (hb hby dp106_1_90)
  refine Goes.st st20 ?_
  refine giload X20 hx (hb hby dp106_1_93) rfl ?_
  refine gaload X20 hx (hb hby dp106_1_95) rfl rfl ?_
  have f22 := ((q11_.other W7 (Or.inl n9_)).other W18 (Or.inl n16_))
  have f23 := ((q14_.other W7 (Or.inl n10_)).other W18 (Or.inl n17_))
  have f24 := ((q17_.other W7 (Or.inl n11_)).other W18 (Or.inl n18_))
  have sG25 := own_selT (own_p0 hp) f22 f23 f24
  have f27 := (f16.wr W18)
  obtain ⟨cq26, kq26, qa26, qb26, qc26⟩ := isOf hZ e20 f27
  obtain ⟨_, _, ⟨T26, L26, k26, n26⟩, -, X26, ⟨Lc26, hQ26, l26, y26, z26⟩, st26⟩ := X20.virtualBack hx (y := mN26) (z := mN26) hown (mvT hZ (hwk hw 187 rfl)) (mvT hZ (hwk hw 188 rfl)) (notFace_of_selects (args := #[]) (mvT hZ (hwk hw 190 rfl))) (mvT hZ (hwk hw 190 rfl)) (mvT hZ (hwk hw 189 rfl)) (by decide) (backOf (W := 2) (rmJt l Z a0 hw [] (sel o0 j0 j1 j2) h18 n0 Z18 sG25) hZ (hwk hw 191 rfl) (hwk hw 37 rfl) (by decide) (by decide)) qa26 qc26 (g := (mkF m 97 #[rv a, rv aJ, rv aO, iv cl, iv (0 : Int32), rv (sel o0 j0 j1 j2)] [(.ref (sel o0 j0 j1 j2)), (.int (0 : Int32)), (.ref b45)])) rfl (by rw [hml]; rfl) (Steps.refl _) (argsL := []) (rest := [(.int (0 : Int32)), (.ref b45)]) (lenOf pd___D_4c4 rfl) rfl (by show 2 * 0 + _ ≤ _; exact Nat.le_of_eq rfl) (hb hby dp106_1_97) (fun _ _ => ⟨rfl, e20, (by decide : 4 + 0 ≤ 5), (by decide : 25 + 0 ≤ 41)⟩)
  dsimp only [Pt.U, Pt.locs, Pt.cells, Pt.slots] at X26 l26 y26 z26 st26 hQ26
  subst l26 y26 z26
  obtain ⟨rfl, N26q, eh26⟩ := hQ26
  have N26 := Fr.app N18 N26q
  refine Goes.sts st26 ?_
  show Gs p e below _ T26 m 100 #[rv a, rv aJ, rv aO, iv cl, iv (0 : Int32), rv (sel o0 j0 j1 j2)] [(.double FP.dconst1), (.int (0 : Int32)), (.ref b45)]
  have f28 := ((q24_.other W7 (Ne.symm n28_)).other W18 (Ne.symm n29_))
  obtain ⟨cl29, Ar29, qk29, Sz29, qz29, Ha29, Gf29⟩ := id f28
  obtain ⟨T29, h29, X29, e29, W29, st29⟩ := stD X26 hx hZ eh26 Ar29 (inb_of Sz29 ⟨by decide, by decide⟩) (g := (mkF m 100 #[rv a, rv aJ, rv aO, iv cl, iv (0 : Int32), rv (sel o0 j0 j1 j2)] [(.double FP.dconst1), (.int (0 : Int32)), (.ref b45)])) rfl rfl (hb hby dp106_1_100)
  have N29 := Fr.snoc X29 N26 w3_
  have V29 : Arv Z h29 b45 cA45 .double (3 : Int32) [(.double FP.dconst1), (.double (0 : UInt64)), (.double (0 : UInt64))] (.double (0 : UInt64)) := (Arv.set Ar29 qk29 Sz29 qz29 Ha29 Gf29 rfl W29 0 (by decide) (by simp))
  refine Goes.st st29 ?_
  have KK30 := KK19.wr W29 (Or.inr sz_b45)
  have Z29 : n0 ≤ h29.size := by have := W29.size; have := Z18; omega
  show Gs p e below _ T29 m 101 #[rv a, rv aJ, rv aO, iv cl, iv (0 : Int32), rv (sel o0 j0 j1 j2)] []
  refine Goes.st (fun tg kg => XS.iinc X29.here hx rfl (hb hby dp106_1_101) rfl (l' := #[rv a, rv aJ, rv aO, iv cl, iv (1 : Int32), rv (sel o0 j0 j1 j2)]) rfl kg) ?_
  refine ggoto X29 hx (pc := 104) (pc' := 44) (hb hby dp106_1_104) (by decide) (by decide) ?_
  show Gs p e below _ T29 m 44 #[rv a, rv aJ, rv aO, iv cl, iv (1 : Int32), rv (sel o0 j0 j1 j2)] []
  have f31 := (((q0_.wr W7).wr W18).wr W29)
  have f32 := (((q1_.other W7 (Or.inl n6_)).other W18 (Or.inl n13_)).other W29 (Or.inl n21_))
  have f33 := (((q2_.other W7 (Or.inl n6_)).other W18 (Or.inl n13_)).other W29 (Or.inl n21_))
  have f34 := (((q3_.other W7 (Or.inl n6_)).other W18 (Or.inl n13_)).other W29 (Or.inl n21_))
  have f35 := (((q4_.other W7 (Or.inl n6_)).other W18 (Or.inl n13_)).other W29 (Or.inl n21_))
  have f36 := (((q5_.wr W7).wr W18).wr W29)
  have f37 := (((q6_.other W7 (Or.inl n7_)).other W18 (Or.inl n14_)).other W29 (Or.inl n22_))
  have f38 := (((q7_.other W7 (Or.inl n7_)).other W18 (Or.inl n14_)).other W29 (Or.inl n22_))
  have f39 := (((q8_.other W7 n8_).other W18 n15_).other W29 n23_)
  have f40 := (((q9_.wr W7).wr W18).wr W29)
  have f41 := ((f11.other W18 (Or.inl n16_)).other W29 (Or.inl n24_))
  have f42 := (f22.other W29 (Or.inl n24_))
  have f43 := (((q12_.wr W7).wr W18).wr W29)
  have f44 := ((f12.other W18 (Or.inl n17_)).other W29 (Or.inl n25_))
  have f45 := (f23.other W29 (Or.inl n25_))
  have f46 := (((q15_.wr W7).wr W18).wr W29)
  have f47 := ((f13.other W18 (Or.inl n18_)).other W29 (Or.inl n26_))
  have f48 := (f24.other W29 (Or.inl n26_))
  have f49 := (((q18_.other W7 n12_).other W18 n19_).other W29 n27_)
  have f50 := (((q19_.other W7 (Or.inl n6_)).other W18 (Or.inl n13_)).other W29 (Or.inl n21_))
  have f51 := (((q21_.other W7 (Or.inl n6_)).other W18 (Or.inl n13_)).other W29 (Or.inl n21_))
  have f52 := ((f10.other W18 (Or.inl n13_)).other W29 (Or.inl n21_))
  have f53 := (f21.other W29 (Or.inl n21_))
  have f54 := ((V7.other W18 n20_).other W29 n28_)
  have f55 := (V18.other W29 n29_)
  exact in44_1 Z a0 hw hx hby hlk hret hml hnm hown hZ a aJ eD j0 j1 j2 aO kE kO cl o0 o1 o2 p0 p1 p2 b14 b29 b45 cA14 cA29 cA45 h0 h29 n0 T29 _ X29 e29 N29 Z29 f31 f32 f33 f34 f35 f36 f37 f38 f39 f40 f41 f42 f43 f44 f45 f46 f47 f48 f49 f50 f51 f52 f53 f54 f55 V29 n0_ n1_ n2_ n3_ n4_ n5_ n6_ n7_ n8_ n9_ n10_ n11_ n12_ n13_ n14_ n15_ n16_ n17_ n18_ n19_ n20_ n21_ n22_ n23_ n24_ n25_ n26_ n27_ n28_ n29_ w0_ w1_ w2_ w3_ KK30 sz_b14 sz_b29 sz_b45 hp hcl
theorem ef_In (m : MethodId) (x0 : Addr) (x1 : Addr) (x2 : Addr) (x3 : Int32) : entryFrame m #[(.ref x0), (.ref x1), (.ref x2), (.int x3)] 6 = mkF m 0 #[rv x0, rv x1, rv x2, iv x3, .unset, .unset] [] := by first | (simp [entryFrame, mkF, argsToLocals, Value.category]; done) | rfl
set_option maxRecDepth 65536 in
set_option maxHeartbeats 40000000 in
theorem rmIn (l : Launch) (Z : State) (a0 : Array Value) (hw : ∀ d ∈ tables_1, d.before a0 Z = true) (ws : List Jvm.Cond) (a aJ eD j0 j1 j2 aO : Addr) (kE kO : ClassId) (cl o0 o1 o2 p0 p1 p2 : Int32) (h0 : Heap) (n0 : Nat) (Z0 : n0 ≤ h0.size) (Ea : Exa Z h0 a "com/example/redoubt/redoubt/policies/FirstFitQueue") (ga : n0 ≤ a) (Fstale : Fld Z h0 a "com/example/redoubt/redoubt/policies/FirstFitQueue" "stale" "[I" .null) (Forder : Fld Z h0 a "com/example/redoubt/redoubt/policies/FirstFitQueue" "order" "[I" .null) (FrankOf : Fld Z h0 a "com/example/redoubt/redoubt/policies/FirstFitQueue" "rankOf" "[I" .null) (Fprocs : Fld Z h0 a "com/example/redoubt/redoubt/policies/FirstFitQueue" "procs" "[I" .null) (Ftimes : Fld Z h0 a "com/example/redoubt/redoubt/policies/FirstFitQueue" "times" "[D" .null) (Fplaces : Fld Z h0 a "com/example/redoubt/redoubt/policies/FirstFitQueue" "places" "I" (.int (0 : Int32))) (Fleaves : Fld Z h0 a "com/example/redoubt/redoubt/policies/FirstFitQueue" "leaves" "I" (.int (0 : Int32))) (Ffewest : Fld Z h0 a "com/example/redoubt/redoubt/policies/FirstFitQueue" "fewest" "[I" .null) (Fshortest : Fld Z h0 a "com/example/redoubt/redoubt/policies/FirstFitQueue" "shortest" "[D" .null) (Ej : Exa Z h0 aJ "java/util/ArrayList") (Js : Fld Z h0 aJ "java/util/ArrayList" "size" "I" (.int (3 : Int32))) (Je : Fld Z h0 aJ "java/util/ArrayList" "elementData" "[Ljava/lang/Object;" (.ref eD)) (Aed : Arv Z h0 eD kE (.object "java/lang/Object") (10 : Int32) [(.ref j0), (.ref j1), (.ref j2), .null, .null, .null, .null, .null, .null, .null] .null) (Ej0 : Exa Z h0 j0 "com/example/redoubt/redoubt/engine/Job") (Ej1 : Exa Z h0 j1 "com/example/redoubt/redoubt/engine/Job") (Ej2 : Exa Z h0 j2 "com/example/redoubt/redoubt/engine/Job") (Pj0 : Fld Z h0 j0 "com/example/redoubt/redoubt/engine/Job" "procs" "I" (.int p0)) (Pj1 : Fld Z h0 j1 "com/example/redoubt/redoubt/engine/Job" "procs" "I" (.int p1)) (Pj2 : Fld Z h0 j2 "com/example/redoubt/redoubt/engine/Job" "procs" "I" (.int p2)) (Tj0 : Fld Z h0 j0 "com/example/redoubt/redoubt/engine/Job" "time" "D" (.double FP.dconst1)) (Tj1 : Fld Z h0 j1 "com/example/redoubt/redoubt/engine/Job" "time" "D" (.double FP.dconst1)) (Tj2 : Fld Z h0 j2 "com/example/redoubt/redoubt/engine/Job" "time" "D" (.double FP.dconst1)) (Ao : Arv Z h0 aO kO .int (3 : Int32) [(.int o0), (.int o1), (.int o2)] (.int (0 : Int32))) (hp : Perm3 o0 o1 o2) (naaJ : a ≠ aJ) (naeD : a ≠ eD) (naj0 : a ≠ j0) (naj1 : a ≠ j1) (naj2 : a ≠ j2) (naaO : a ≠ aO) (hcl : cl = 1 ∨ cl = 2) :
    MetFree l mN29 (head1 (Jvm.Cond.code mN29 prog_106_method_1_code 6 none :: ws) ({ frames := 3, cells := 5, slots := 41, locals := 40 } : Room)) (fun aa U => aa = #[(.ref a), (.ref aJ), (.ref aO), (.int cl)] ∧ Z.Warmed39 U.vm ∧ U.heap = h0) (fun _ _ _ _ _ => True) (fun _ u1_ o_ u2_ => ∃ v_ l_, o_ = .returned v_ ∧ QIn Z a aJ eD j0 j1 j2 aO kE kO cl o0 o1 o2 p0 p1 p2 h0 n0 v_ u2_.heap l_ ∧ FrameEnd u1_ o_ u2_ l_ ({ frames := 3, cells := 5, slots := 41, locals := 40 } : Room).cells ({ frames := 3, cells := 5, slots := 41, locals := 40 } : Room).slots) := by
  refine MetFree.of_bodySF (plainFor_of_name pn_com_example_redoubt_redoubt_policies_FirstFitQueue) hisR ?_
  intro p e s m args below meth c s₁ Bd hml0 hP hK
  obtain ⟨rfl, hZ, hh⟩ := hP
  have hx := Bd.exec
  have hby := Bd.bytes
  have hlk := BodyLoose.notSynchronized Bd
  have hret := Bd.returns
  have hml : c.maxLocals = 6 := hml0
  have hown : s.vm.findClass "com/example/redoubt/redoubt/policies/FirstFitQueue" = some m.cls := findClass_of_methodNamed Bd.named
  have hnm := (name_of_methodNamed Bd.named Bd.method).1
  have X0 : Stand p l e ({ frames := 3, cells := 5, slots := 41, locals := 40 } : Room) s m #[(.ref a), (.ref aJ), (.ref aO), (.int cl)] below meth c s₁ [] 0 0 := Stand.of_body Bd
  have e0 : s₁.heap = h0 := by rw [← hh, Bd.state]; rfl
  have N0 := Fr.nil n0
  refine Goes.st (E := (EN s (QIn Z a aJ eD j0 j1 j2 aO kE kO cl o0 o1 o2 p0 p1 p2 h0 n0) ({ frames := 3, cells := 5, slots := 41, locals := 40 } : Room).cells ({ frames := 3, cells := 5, slots := 41, locals := 40 } : Room).slots)) (fun tg kg => castTop (ef_In m a aJ aO cl) kg) ?_
  have K0 : Keep h0 h0 [a] := Keep.refl _ _
  show Gs p e below _ s₁ m 0 #[rv a, rv aJ, rv aO, iv cl, .unset, .unset] []
  refine galoadN X0 hx (hb hby dp106_1_0) rfl rfl ?_
  obtain ⟨T1, X1, e1, st1⟩ := initO X0 hx hZ hown (hwk hw 150 rfl) (hwk hw 28 rfl) (hwk hw 29 rfl) e0 (g := (mkF m 1 #[rv a, rv aJ, rv aO, iv cl, .unset, .unset] [(.ref a)])) rfl (by rw [hml]; rfl) rfl (hb hby dp106_1_1) (by decide) (W := 0) (by show 2 * 0 + _ ≤ _; exact Nat.le_of_eq rfl) (by decide)
  refine Goes.st st1 ?_
  show Gs p e below _ T1 m 4 #[rv a, rv aJ, rv aO, iv cl, .unset, .unset] []
  refine galoadN X1 hx (hb hby dp106_1_4) rfl rfl ?_
  refine Goes.st (fun tg kg => XS.bipush X1.here hx rfl (hb hby dp106_1_5) kg) ?_
  obtain ⟨T2, h2, cA2, X2, e2, E2, A2, st2⟩ := newP X1 hx hZ (hwk hw 2 rfl) e1 (g := (mkF m 7 #[rv a, rv aJ, rv aO, iv cl, .unset, .unset] [(.int (16 : Int32)), (.ref a)])) rfl (hb hby dp106_1_7) rfl (by decide) (cap := 16) (by decide) (by decide) (by decide) (by decide)
  obtain ⟨b2, g2⟩ : ∃ z, z = h0.size := ⟨_, rfl⟩
  rw [← g2] at A2 st2
  have ne_a_b2 : a ≠ b2 := Nat.ne_of_lt (Nat.lt_of_lt_of_le Ea.lt (Nat.le_of_eq g2.symm))
  have ne_aJ_b2 : aJ ≠ b2 := Nat.ne_of_lt (Nat.lt_of_lt_of_le Ej.lt (Nat.le_of_eq g2.symm))
  have ne_eD_b2 : eD ≠ b2 := Nat.ne_of_lt (Nat.lt_of_lt_of_le Aed.lt (Nat.le_of_eq g2.symm))
  have ne_j0_b2 : j0 ≠ b2 := Nat.ne_of_lt (Nat.lt_of_lt_of_le Ej0.lt (Nat.le_of_eq g2.symm))
  have ne_j1_b2 : j1 ≠ b2 := Nat.ne_of_lt (Nat.lt_of_lt_of_le Ej1.lt (Nat.le_of_eq g2.symm))
  have ne_j2_b2 : j2 ≠ b2 := Nat.ne_of_lt (Nat.lt_of_lt_of_le Ej2.lt (Nat.le_of_eq g2.symm))
  have ne_aO_b2 : aO ≠ b2 := Nat.ne_of_lt (Nat.lt_of_lt_of_le Ao.lt (Nat.le_of_eq g2.symm))
  have lo_b2 : n0 ≤ b2 := by have := Z0; omega
  have sz_b2 : h0.size ≤ b2 := by have := K0.1; omega
  have KK3 := K0.ext E2
  have V2 : Arv Z h2 b2 cA2 .int (16 : Int32) [(.int (0 : Int32)), (.int (0 : Int32)), (.int (0 : Int32)), (.int (0 : Int32)), (.int (0 : Int32)), (.int (0 : Int32)), (.int (0 : Int32)), (.int (0 : Int32)), (.int (0 : Int32)), (.int (0 : Int32)), (.int (0 : Int32)), (.int (0 : Int32)), (.int (0 : Int32)), (.int (0 : Int32)), (.int (0 : Int32)), (.int (0 : Int32))] (.int (0 : Int32)) := (Arv.new A2 (by decide)).pad (pad_rep [] _ 16)
  refine Goes.st st2 ?_
  have Z2 : n0 ≤ h2.size := Nat.le_trans Z0 E2.1
  show Gs p e below _ T2 m 9 #[rv a, rv aJ, rv aO, iv cl, .unset, .unset] [(.ref b2), (.ref a)]
  have f5 := (Fstale.ext E2)
  have f6 := (Ea.ext E2)
  obtain ⟨T4, h4, X4, e4, W4, st4⟩ := putF X2 hx hZ hown (host := "") (Or.inl (hwk hw 151 rfl)) Via.refl e2 f5 f6 (Or.inl (hwk hw 152 rfl)) (hwk hw 145 rfl) (ty := (.array .int)) (by decide) rfl rfl (g := (mkF m 9 #[rv a, rv aJ, rv aO, iv cl, .unset, .unset] [(.ref b2), (.ref a)])) rfl rfl (hb hby dp106_1_9)
  have N4 := Fr.snoc X4 N0 ga
  have G4 := f5.same W4
  refine Goes.st st4 ?_
  have KK7 := KK3.wr W4 (Or.inl (List.mem_of_getElem? (i := 0) rfl))
  have Z4 : n0 ≤ h4.size := by have := W4.size; have := Z2; omega
  show Gs p e below _ T4 m 12 #[rv a, rv aJ, rv aO, iv cl, .unset, .unset] []
  refine galoadN X4 hx (hb hby dp106_1_12) rfl rfl ?_
  refine galoadN X4 hx (hb hby dp106_1_13) rfl rfl ?_
  have f9 := ((Forder.ext E2).other W4 (Or.inr (slot_ne (Or.inr (hwk hw 154 rfl)) (Or.inl (hwk hw 152 rfl)) (by decide) (t := (.array .int)) (t' := (.array .int)) (by decide) (by decide))))
  have f10 := (f6.wr W4)
  obtain ⟨T8, h8, X8, e8, W8, st8⟩ := putF X4 hx hZ hown (host := "") (Or.inl (hwk hw 153 rfl)) Via.refl e4 f9 f10 (Or.inr ⟨(hwk hw 154 rfl), rfl, hnm⟩) (hwk hw 145 rfl) (ty := (.array .int)) (by decide) rfl rfl (g := (mkF m 14 #[rv a, rv aJ, rv aO, iv cl, .unset, .unset] [(.ref aO), (.ref a)])) rfl rfl (hb hby dp106_1_14)
  have N8 := Fr.snoc X8 N4 ga
  have G8 := f9.same W8
  refine Goes.st st8 ?_
  have KK11 := KK7.wr W8 (Or.inl (List.mem_of_getElem? (i := 0) rfl))
  have Z8 : n0 ≤ h8.size := by have := W8.size; have := Z4; omega
  show Gs p e below _ T8 m 17 #[rv a, rv aJ, rv aO, iv cl, .unset, .unset] []
  refine galoadN X8 hx (hb hby dp106_1_17) rfl rfl ?_
  refine galoadN X8 hx (hb hby dp106_1_18) rfl rfl ?_
  have f12 := (((Ao.ext E2).other W4 (Ne.symm naaO)).other W8 (Ne.symm naaO))
  obtain ⟨cl13, Ar13, qk13, Sz13, qz13, Ha13, Gf13⟩ := id f12
  refine Goes.st (fun tg kg => X8.arraylength hx (cell := cl13) (by rw [e8]; exact Ar13.1) (State.isArrayOf_alike hZ.alike Ar13.2.1) (g := (mkF m 19 #[rv a, rv aJ, rv aO, iv cl, .unset, .unset] [(.ref aO), (.ref a)])) rfl (rest := [(.ref a)]) rfl (hb hby dp106_1_19) tg kg) ?_
  rw [len_of Sz13 qz13]
  show Gs p e below _ T8 m 20 #[rv a, rv aJ, rv aO, iv cl, .unset, .unset] [(.int (3 : Int32)), (.ref a)]
  obtain ⟨T14, h14, cA14, X14, e14, E14, A14, st14⟩ := newP X8 hx hZ (hwk hw 2 rfl) e8 (g := (mkF m 20 #[rv a, rv aJ, rv aO, iv cl, .unset, .unset] [(.int (3 : Int32)), (.ref a)])) rfl (hb hby dp106_1_20) rfl (by decide) (cap := 3) (by decide) (by decide) (by decide) (by decide)
  obtain ⟨b14, g14⟩ : ∃ z, z = h8.size := ⟨_, rfl⟩
  rw [← g14] at A14 st14
  have f15 := (f10.wr W8)
  have ne_a_b14 : a ≠ b14 := Nat.ne_of_lt (Nat.lt_of_lt_of_le f15.lt (Nat.le_of_eq g14.symm))
  have f16 := (((Ej.ext E2).wr W4).wr W8)
  have ne_aJ_b14 : aJ ≠ b14 := Nat.ne_of_lt (Nat.lt_of_lt_of_le f16.lt (Nat.le_of_eq g14.symm))
  have f17 := (((Aed.ext E2).other W4 (Ne.symm naeD)).other W8 (Ne.symm naeD))
  have ne_eD_b14 : eD ≠ b14 := Nat.ne_of_lt (Nat.lt_of_lt_of_le f17.lt (Nat.le_of_eq g14.symm))
  have f18 := (((Ej0.ext E2).wr W4).wr W8)
  have ne_j0_b14 : j0 ≠ b14 := Nat.ne_of_lt (Nat.lt_of_lt_of_le f18.lt (Nat.le_of_eq g14.symm))
  have f19 := (((Ej1.ext E2).wr W4).wr W8)
  have ne_j1_b14 : j1 ≠ b14 := Nat.ne_of_lt (Nat.lt_of_lt_of_le f19.lt (Nat.le_of_eq g14.symm))
  have f20 := (((Ej2.ext E2).wr W4).wr W8)
  have ne_j2_b14 : j2 ≠ b14 := Nat.ne_of_lt (Nat.lt_of_lt_of_le f20.lt (Nat.le_of_eq g14.symm))
  have ne_aO_b14 : aO ≠ b14 := Nat.ne_of_lt (Nat.lt_of_lt_of_le f12.lt (Nat.le_of_eq g14.symm))
  have f21 := ((V2.other W4 (Ne.symm ne_a_b2)).other W8 (Ne.symm ne_a_b2))
  have ne_b2_b14 : b2 ≠ b14 := Nat.ne_of_lt (Nat.lt_of_lt_of_le f21.lt (Nat.le_of_eq g14.symm))
  have lo_b14 : n0 ≤ b14 := by have := Z8; omega
  have sz_b14 : h0.size ≤ b14 := by have := KK11.1; omega
  have KK22 := KK11.ext E14
  have V14 : Arv Z h14 b14 cA14 .int (3 : Int32) [(.int (0 : Int32)), (.int (0 : Int32)), (.int (0 : Int32))] (.int (0 : Int32)) := (Arv.new A14 (by decide)).pad (pad_rep [] _ 3)
  refine Goes.st st14 ?_
  have Z14 : n0 ≤ h14.size := Nat.le_trans Z8 E14.1
  show Gs p e below _ T14 m 22 #[rv a, rv aJ, rv aO, iv cl, .unset, .unset] [(.ref b14), (.ref a)]
  have f24 := ((((FrankOf.ext E2).other W4 (Or.inr (slot_ne (Or.inr (hwk hw 156 rfl)) (Or.inl (hwk hw 152 rfl)) (by decide) (t := (.array .int)) (t' := (.array .int)) (by decide) (by decide)))).other W8 (Or.inr (slot_ne (Or.inr (hwk hw 156 rfl)) (Or.inr (hwk hw 154 rfl)) (by decide) (t := (.array .int)) (t' := (.array .int)) (by decide) (by decide)))).ext E14)
  have f25 := (f15.ext E14)
  obtain ⟨T23, h23, X23, e23, W23, st23⟩ := putF X14 hx hZ hown (host := "") (Or.inl (hwk hw 155 rfl)) Via.refl e14 f24 f25 (Or.inr ⟨(hwk hw 156 rfl), rfl, hnm⟩) (hwk hw 145 rfl) (ty := (.array .int)) (by decide) rfl rfl (g := (mkF m 22 #[rv a, rv aJ, rv aO, iv cl, .unset, .unset] [(.ref b14), (.ref a)])) rfl rfl (hb hby dp106_1_22)
  have N23 := Fr.snoc X23 N8 ga
  have G23 := f24.same W23
  refine Goes.st st23 ?_
  have KK26 := KK22.wr W23 (Or.inl (List.mem_of_getElem? (i := 0) rfl))
  have Z23 : n0 ≤ h23.size := by have := W23.size; have := Z14; omega
  show Gs p e below _ T23 m 25 #[rv a, rv aJ, rv aO, iv cl, .unset, .unset] []
  refine galoadN X23 hx (hb hby dp106_1_25) rfl rfl ?_
  refine galoadN X23 hx (hb hby dp106_1_26) rfl rfl ?_
  have f27 := ((f12.ext E14).other W23 (Ne.symm naaO))
  obtain ⟨cl28, Ar28, qk28, Sz28, qz28, Ha28, Gf28⟩ := id f27
  refine Goes.st (fun tg kg => X23.arraylength hx (cell := cl28) (by rw [e23]; exact Ar28.1) (State.isArrayOf_alike hZ.alike Ar28.2.1) (g := (mkF m 27 #[rv a, rv aJ, rv aO, iv cl, .unset, .unset] [(.ref aO), (.ref a)])) rfl (rest := [(.ref a)]) rfl (hb hby dp106_1_27) tg kg) ?_
  rw [len_of Sz28 qz28]
  show Gs p e below _ T23 m 28 #[rv a, rv aJ, rv aO, iv cl, .unset, .unset] [(.int (3 : Int32)), (.ref a)]
  obtain ⟨T29, h29, cA29, X29, e29, E29, A29, st29⟩ := newP X23 hx hZ (hwk hw 2 rfl) e23 (g := (mkF m 28 #[rv a, rv aJ, rv aO, iv cl, .unset, .unset] [(.int (3 : Int32)), (.ref a)])) rfl (hb hby dp106_1_28) rfl (by decide) (cap := 3) (by decide) (by decide) (by decide) (by decide)
  obtain ⟨b29, g29⟩ : ∃ z, z = h23.size := ⟨_, rfl⟩
  rw [← g29] at A29 st29
  have f30 := (f25.wr W23)
  have ne_a_b29 : a ≠ b29 := Nat.ne_of_lt (Nat.lt_of_lt_of_le f30.lt (Nat.le_of_eq g29.symm))
  have f31 := ((f16.ext E14).wr W23)
  have ne_aJ_b29 : aJ ≠ b29 := Nat.ne_of_lt (Nat.lt_of_lt_of_le f31.lt (Nat.le_of_eq g29.symm))
  have f32 := ((f17.ext E14).other W23 (Ne.symm naeD))
  have ne_eD_b29 : eD ≠ b29 := Nat.ne_of_lt (Nat.lt_of_lt_of_le f32.lt (Nat.le_of_eq g29.symm))
  have f33 := ((f18.ext E14).wr W23)
  have ne_j0_b29 : j0 ≠ b29 := Nat.ne_of_lt (Nat.lt_of_lt_of_le f33.lt (Nat.le_of_eq g29.symm))
  have f34 := ((f19.ext E14).wr W23)
  have ne_j1_b29 : j1 ≠ b29 := Nat.ne_of_lt (Nat.lt_of_lt_of_le f34.lt (Nat.le_of_eq g29.symm))
  have f35 := ((f20.ext E14).wr W23)
  have ne_j2_b29 : j2 ≠ b29 := Nat.ne_of_lt (Nat.lt_of_lt_of_le f35.lt (Nat.le_of_eq g29.symm))
  have ne_aO_b29 : aO ≠ b29 := Nat.ne_of_lt (Nat.lt_of_lt_of_le f27.lt (Nat.le_of_eq g29.symm))
  have f36 := ((f21.ext E14).other W23 (Ne.symm ne_a_b2))
  have ne_b2_b29 : b2 ≠ b29 := Nat.ne_of_lt (Nat.lt_of_lt_of_le f36.lt (Nat.le_of_eq g29.symm))
  have f37 := (V14.other W23 (Ne.symm ne_a_b14))
  have ne_b14_b29 : b14 ≠ b29 := Nat.ne_of_lt (Nat.lt_of_lt_of_le f37.lt (Nat.le_of_eq g29.symm))
  have lo_b29 : n0 ≤ b29 := by have := Z23; omega
  have sz_b29 : h0.size ≤ b29 := by have := KK26.1; omega
  have KK38 := KK26.ext E29
  have V29 : Arv Z h29 b29 cA29 .int (3 : Int32) [(.int (0 : Int32)), (.int (0 : Int32)), (.int (0 : Int32))] (.int (0 : Int32)) := (Arv.new A29 (by decide)).pad (pad_rep [] _ 3)
  refine Goes.st st29 ?_
  have Z29 : n0 ≤ h29.size := Nat.le_trans Z23 E29.1
  show Gs p e below _ T29 m 30 #[rv a, rv aJ, rv aO, iv cl, .unset, .unset] [(.ref b29), (.ref a)]
  have f40 := ((((((Fprocs.ext E2).other W4 (Or.inr (slot_ne (Or.inr (hwk hw 158 rfl)) (Or.inl (hwk hw 152 rfl)) (by decide) (t := (.array .int)) (t' := (.array .int)) (by decide) (by decide)))).other W8 (Or.inr (slot_ne (Or.inr (hwk hw 158 rfl)) (Or.inr (hwk hw 154 rfl)) (by decide) (t := (.array .int)) (t' := (.array .int)) (by decide) (by decide)))).ext E14).other W23 (Or.inr (slot_ne (Or.inr (hwk hw 158 rfl)) (Or.inr (hwk hw 156 rfl)) (by decide) (t := (.array .int)) (t' := (.array .int)) (by decide) (by decide)))).ext E29)
  have f41 := (f30.ext E29)
  obtain ⟨T39, h39, X39, e39, W39, st39⟩ := putF X29 hx hZ hown (host := "") (Or.inl (hwk hw 157 rfl)) Via.refl e29 f40 f41 (Or.inr ⟨(hwk hw 158 rfl), rfl, hnm⟩) (hwk hw 145 rfl) (ty := (.array .int)) (by decide) rfl rfl (g := (mkF m 30 #[rv a, rv aJ, rv aO, iv cl, .unset, .unset] [(.ref b29), (.ref a)])) rfl rfl (hb hby dp106_1_30)
  have N39 := Fr.snoc X39 N23 ga
  have G39 := f40.same W39
  refine Goes.st st39 ?_
  have KK42 := KK38.wr W39 (Or.inl (List.mem_of_getElem? (i := 0) rfl))
  have Z39 : n0 ≤ h39.size := by have := W39.size; have := Z29; omega
  show Gs p e below _ T39 m 33 #[rv a, rv aJ, rv aO, iv cl, .unset, .unset] []
  refine galoadN X39 hx (hb hby dp106_1_33) rfl rfl ?_
  refine galoadN X39 hx (hb hby dp106_1_34) rfl rfl ?_
  have f43 := ((f27.ext E29).other W39 (Ne.symm naaO))
  obtain ⟨cl44, Ar44, qk44, Sz44, qz44, Ha44, Gf44⟩ := id f43
  refine Goes.st (fun tg kg => X39.arraylength hx (cell := cl44) (by rw [e39]; exact Ar44.1) (State.isArrayOf_alike hZ.alike Ar44.2.1) (g := (mkF m 35 #[rv a, rv aJ, rv aO, iv cl, .unset, .unset] [(.ref aO), (.ref a)])) rfl (rest := [(.ref a)]) rfl (hb hby dp106_1_35) tg kg) ?_
  rw [len_of Sz44 qz44]
  show Gs p e below _ T39 m 36 #[rv a, rv aJ, rv aO, iv cl, .unset, .unset] [(.int (3 : Int32)), (.ref a)]
  obtain ⟨T45, h45, cA45, X45, e45, E45, A45, st45⟩ := newP X39 hx hZ (hwk hw 159 rfl) e39 (g := (mkF m 36 #[rv a, rv aJ, rv aO, iv cl, .unset, .unset] [(.int (3 : Int32)), (.ref a)])) rfl (hb hby dp106_1_36) rfl (by decide) (cap := 3) (by decide) (by decide) (by decide) (by decide)
  obtain ⟨b45, g45⟩ : ∃ z, z = h39.size := ⟨_, rfl⟩
  rw [← g45] at A45 st45
  have f46 := (f41.wr W39)
  have ne_a_b45 : a ≠ b45 := Nat.ne_of_lt (Nat.lt_of_lt_of_le f46.lt (Nat.le_of_eq g45.symm))
  have f47 := ((f31.ext E29).wr W39)
  have ne_aJ_b45 : aJ ≠ b45 := Nat.ne_of_lt (Nat.lt_of_lt_of_le f47.lt (Nat.le_of_eq g45.symm))
  have f48 := ((f32.ext E29).other W39 (Ne.symm naeD))
  have ne_eD_b45 : eD ≠ b45 := Nat.ne_of_lt (Nat.lt_of_lt_of_le f48.lt (Nat.le_of_eq g45.symm))
  have f49 := ((f33.ext E29).wr W39)
  have ne_j0_b45 : j0 ≠ b45 := Nat.ne_of_lt (Nat.lt_of_lt_of_le f49.lt (Nat.le_of_eq g45.symm))
  have f50 := ((f34.ext E29).wr W39)
  have ne_j1_b45 : j1 ≠ b45 := Nat.ne_of_lt (Nat.lt_of_lt_of_le f50.lt (Nat.le_of_eq g45.symm))
  have f51 := ((f35.ext E29).wr W39)
  have ne_j2_b45 : j2 ≠ b45 := Nat.ne_of_lt (Nat.lt_of_lt_of_le f51.lt (Nat.le_of_eq g45.symm))
  have ne_aO_b45 : aO ≠ b45 := Nat.ne_of_lt (Nat.lt_of_lt_of_le f43.lt (Nat.le_of_eq g45.symm))
  have f52 := ((f36.ext E29).other W39 (Ne.symm ne_a_b2))
  have ne_b2_b45 : b2 ≠ b45 := Nat.ne_of_lt (Nat.lt_of_lt_of_le f52.lt (Nat.le_of_eq g45.symm))
  have f53 := ((f37.ext E29).other W39 (Ne.symm ne_a_b14))
  have ne_b14_b45 : b14 ≠ b45 := Nat.ne_of_lt (Nat.lt_of_lt_of_le f53.lt (Nat.le_of_eq g45.symm))
  have f54 := (V29.other W39 (Ne.symm ne_a_b29))
  have ne_b29_b45 : b29 ≠ b45 := Nat.ne_of_lt (Nat.lt_of_lt_of_le f54.lt (Nat.le_of_eq g45.symm))
  have lo_b45 : n0 ≤ b45 := by have := Z39; omega
  have sz_b45 : h0.size ≤ b45 := by have := KK42.1; omega
  have KK55 := KK42.ext E45
  have V45 : Arv Z h45 b45 cA45 .double (3 : Int32) [(.double (0 : UInt64)), (.double (0 : UInt64)), (.double (0 : UInt64))] (.double (0 : UInt64)) := (Arv.new A45 (by decide)).pad (pad_rep [] _ 3)
  refine Goes.st st45 ?_
  have Z45 : n0 ≤ h45.size := Nat.le_trans Z39 E45.1
  show Gs p e below _ T45 m 38 #[rv a, rv aJ, rv aO, iv cl, .unset, .unset] [(.ref b45), (.ref a)]
  have f57 := ((((((((Ftimes.ext E2).other W4 (Or.inr (slot_ne (Or.inr (hwk hw 161 rfl)) (Or.inl (hwk hw 152 rfl)) (by decide) (t := (.array .double)) (t' := (.array .int)) (by decide) (by decide)))).other W8 (Or.inr (slot_ne (Or.inr (hwk hw 161 rfl)) (Or.inr (hwk hw 154 rfl)) (by decide) (t := (.array .double)) (t' := (.array .int)) (by decide) (by decide)))).ext E14).other W23 (Or.inr (slot_ne (Or.inr (hwk hw 161 rfl)) (Or.inr (hwk hw 156 rfl)) (by decide) (t := (.array .double)) (t' := (.array .int)) (by decide) (by decide)))).ext E29).other W39 (Or.inr (slot_ne (Or.inr (hwk hw 161 rfl)) (Or.inr (hwk hw 158 rfl)) (by decide) (t := (.array .double)) (t' := (.array .int)) (by decide) (by decide)))).ext E45)
  have f58 := (f46.ext E45)
  obtain ⟨T56, h56, X56, e56, W56, st56⟩ := putF X45 hx hZ hown (host := "") (Or.inl (hwk hw 160 rfl)) Via.refl e45 f57 f58 (Or.inr ⟨(hwk hw 161 rfl), rfl, hnm⟩) (hwk hw 145 rfl) (ty := (.array .double)) (by decide) rfl rfl (g := (mkF m 38 #[rv a, rv aJ, rv aO, iv cl, .unset, .unset] [(.ref b45), (.ref a)])) rfl rfl (hb hby dp106_1_38)
  have N56 := Fr.snoc X56 N39 ga
  have G56 := f57.same W56
  refine Goes.st st56 ?_
  have KK59 := KK55.wr W56 (Or.inl (List.mem_of_getElem? (i := 0) rfl))
  have Z56 : n0 ≤ h56.size := by have := W56.size; have := Z45; omega
  show Gs p e below _ T56 m 41 #[rv a, rv aJ, rv aO, iv cl, .unset, .unset] []
  refine giconst X56 hx (hb hby dp106_1_41) ?_
  refine gistore X56 hx (hb hby dp106_1_42) trivial (l' := #[rv a, rv aJ, rv aO, iv cl, iv (0 : Int32), .unset]) rfl ?_
  show Gs p e below _ T56 m 44 #[rv a, rv aJ, rv aO, iv cl, iv (0 : Int32), .unset] []
  have f60 := (f58.wr W56)
  have f61 := (((((((((Fplaces.ext E2).other W4 (Or.inr (slot_ne (Or.inr (hwk hw 193 rfl)) (Or.inl (hwk hw 152 rfl)) (by decide) (t := .int) (t' := (.array .int)) (by decide) (by decide)))).other W8 (Or.inr (slot_ne (Or.inr (hwk hw 193 rfl)) (Or.inr (hwk hw 154 rfl)) (by decide) (t := .int) (t' := (.array .int)) (by decide) (by decide)))).ext E14).other W23 (Or.inr (slot_ne (Or.inr (hwk hw 193 rfl)) (Or.inr (hwk hw 156 rfl)) (by decide) (t := .int) (t' := (.array .int)) (by decide) (by decide)))).ext E29).other W39 (Or.inr (slot_ne (Or.inr (hwk hw 193 rfl)) (Or.inr (hwk hw 158 rfl)) (by decide) (t := .int) (t' := (.array .int)) (by decide) (by decide)))).ext E45).other W56 (Or.inr (slot_ne (Or.inr (hwk hw 193 rfl)) (Or.inr (hwk hw 161 rfl)) (by decide) (t := .int) (t' := (.array .double)) (by decide) (by decide))))
  have f62 := (((((((((Fleaves.ext E2).other W4 (Or.inr (slot_ne (Or.inr (hwk hw 195 rfl)) (Or.inl (hwk hw 152 rfl)) (by decide) (t := .int) (t' := (.array .int)) (by decide) (by decide)))).other W8 (Or.inr (slot_ne (Or.inr (hwk hw 195 rfl)) (Or.inr (hwk hw 154 rfl)) (by decide) (t := .int) (t' := (.array .int)) (by decide) (by decide)))).ext E14).other W23 (Or.inr (slot_ne (Or.inr (hwk hw 195 rfl)) (Or.inr (hwk hw 156 rfl)) (by decide) (t := .int) (t' := (.array .int)) (by decide) (by decide)))).ext E29).other W39 (Or.inr (slot_ne (Or.inr (hwk hw 195 rfl)) (Or.inr (hwk hw 158 rfl)) (by decide) (t := .int) (t' := (.array .int)) (by decide) (by decide)))).ext E45).other W56 (Or.inr (slot_ne (Or.inr (hwk hw 195 rfl)) (Or.inr (hwk hw 161 rfl)) (by decide) (t := .int) (t' := (.array .double)) (by decide) (by decide))))
  have f63 := (((((((((Ffewest.ext E2).other W4 (Or.inr (slot_ne (Or.inr (hwk hw 197 rfl)) (Or.inl (hwk hw 152 rfl)) (by decide) (t := (.array .int)) (t' := (.array .int)) (by decide) (by decide)))).other W8 (Or.inr (slot_ne (Or.inr (hwk hw 197 rfl)) (Or.inr (hwk hw 154 rfl)) (by decide) (t := (.array .int)) (t' := (.array .int)) (by decide) (by decide)))).ext E14).other W23 (Or.inr (slot_ne (Or.inr (hwk hw 197 rfl)) (Or.inr (hwk hw 156 rfl)) (by decide) (t := (.array .int)) (t' := (.array .int)) (by decide) (by decide)))).ext E29).other W39 (Or.inr (slot_ne (Or.inr (hwk hw 197 rfl)) (Or.inr (hwk hw 158 rfl)) (by decide) (t := (.array .int)) (t' := (.array .int)) (by decide) (by decide)))).ext E45).other W56 (Or.inr (slot_ne (Or.inr (hwk hw 197 rfl)) (Or.inr (hwk hw 161 rfl)) (by decide) (t := (.array .int)) (t' := (.array .double)) (by decide) (by decide))))
  have f64 := (((((((((Fshortest.ext E2).other W4 (Or.inr (slot_ne (Or.inl (hwk hw 222 rfl)) (Or.inl (hwk hw 152 rfl)) (by decide) (t := (.array .double)) (t' := (.array .int)) (by decide) (by decide)))).other W8 (Or.inr (slot_ne (Or.inl (hwk hw 222 rfl)) (Or.inr (hwk hw 154 rfl)) (by decide) (t := (.array .double)) (t' := (.array .int)) (by decide) (by decide)))).ext E14).other W23 (Or.inr (slot_ne (Or.inl (hwk hw 222 rfl)) (Or.inr (hwk hw 156 rfl)) (by decide) (t := (.array .double)) (t' := (.array .int)) (by decide) (by decide)))).ext E29).other W39 (Or.inr (slot_ne (Or.inl (hwk hw 222 rfl)) (Or.inr (hwk hw 158 rfl)) (by decide) (t := (.array .double)) (t' := (.array .int)) (by decide) (by decide)))).ext E45).other W56 (Or.inr (slot_ne (Or.inl (hwk hw 222 rfl)) (Or.inr (hwk hw 161 rfl)) (by decide) (t := (.array .double)) (t' := (.array .double)) (by decide) (by decide))))
  have f65 := ((f47.ext E45).wr W56)
  have f66 := (((((((((Js.ext E2).other W4 (Or.inl (Ne.symm naaJ))).other W8 (Or.inl (Ne.symm naaJ))).ext E14).other W23 (Or.inl (Ne.symm naaJ))).ext E29).other W39 (Or.inl (Ne.symm naaJ))).ext E45).other W56 (Or.inl (Ne.symm naaJ)))
  have f67 := (((((((((Je.ext E2).other W4 (Or.inl (Ne.symm naaJ))).other W8 (Or.inl (Ne.symm naaJ))).ext E14).other W23 (Or.inl (Ne.symm naaJ))).ext E29).other W39 (Or.inl (Ne.symm naaJ))).ext E45).other W56 (Or.inl (Ne.symm naaJ)))
  have f68 := ((f48.ext E45).other W56 (Ne.symm naeD))
  have f69 := ((f49.ext E45).wr W56)
  have f70 := (((((((((Pj0.ext E2).other W4 (Or.inl (Ne.symm naj0))).other W8 (Or.inl (Ne.symm naj0))).ext E14).other W23 (Or.inl (Ne.symm naj0))).ext E29).other W39 (Or.inl (Ne.symm naj0))).ext E45).other W56 (Or.inl (Ne.symm naj0)))
  have f71 := (((((((((Tj0.ext E2).other W4 (Or.inl (Ne.symm naj0))).other W8 (Or.inl (Ne.symm naj0))).ext E14).other W23 (Or.inl (Ne.symm naj0))).ext E29).other W39 (Or.inl (Ne.symm naj0))).ext E45).other W56 (Or.inl (Ne.symm naj0)))
  have f72 := ((f50.ext E45).wr W56)
  have f73 := (((((((((Pj1.ext E2).other W4 (Or.inl (Ne.symm naj1))).other W8 (Or.inl (Ne.symm naj1))).ext E14).other W23 (Or.inl (Ne.symm naj1))).ext E29).other W39 (Or.inl (Ne.symm naj1))).ext E45).other W56 (Or.inl (Ne.symm naj1)))
  have f74 := (((((((((Tj1.ext E2).other W4 (Or.inl (Ne.symm naj1))).other W8 (Or.inl (Ne.symm naj1))).ext E14).other W23 (Or.inl (Ne.symm naj1))).ext E29).other W39 (Or.inl (Ne.symm naj1))).ext E45).other W56 (Or.inl (Ne.symm naj1)))
  have f75 := ((f51.ext E45).wr W56)
  have f76 := (((((((((Pj2.ext E2).other W4 (Or.inl (Ne.symm naj2))).other W8 (Or.inl (Ne.symm naj2))).ext E14).other W23 (Or.inl (Ne.symm naj2))).ext E29).other W39 (Or.inl (Ne.symm naj2))).ext E45).other W56 (Or.inl (Ne.symm naj2)))
  have f77 := (((((((((Tj2.ext E2).other W4 (Or.inl (Ne.symm naj2))).other W8 (Or.inl (Ne.symm naj2))).ext E14).other W23 (Or.inl (Ne.symm naj2))).ext E29).other W39 (Or.inl (Ne.symm naj2))).ext E45).other W56 (Or.inl (Ne.symm naj2)))
  have f78 := ((f43.ext E45).other W56 (Ne.symm naaO))
  have f79 := ((((((G8.ext E14).other W23 (Or.inr (slot_ne (Or.inr (hwk hw 154 rfl)) (Or.inr (hwk hw 156 rfl)) (by decide) (t := (.array .int)) (t' := (.array .int)) (by decide) (by decide)))).ext E29).other W39 (Or.inr (slot_ne (Or.inr (hwk hw 154 rfl)) (Or.inr (hwk hw 158 rfl)) (by decide) (t := (.array .int)) (t' := (.array .int)) (by decide) (by decide)))).ext E45).other W56 (Or.inr (slot_ne (Or.inr (hwk hw 154 rfl)) (Or.inr (hwk hw 161 rfl)) (by decide) (t := (.array .int)) (t' := (.array .double)) (by decide) (by decide))))
  have f80 := ((f53.ext E45).other W56 (Ne.symm ne_a_b14))
  have f81 := ((((G23.ext E29).other W39 (Or.inr (slot_ne (Or.inr (hwk hw 156 rfl)) (Or.inr (hwk hw 158 rfl)) (by decide) (t := (.array .int)) (t' := (.array .int)) (by decide) (by decide)))).ext E45).other W56 (Or.inr (slot_ne (Or.inr (hwk hw 156 rfl)) (Or.inr (hwk hw 161 rfl)) (by decide) (t := (.array .int)) (t' := (.array .double)) (by decide) (by decide))))
  have f82 := ((f54.ext E45).other W56 (Ne.symm ne_a_b29))
  have f83 := ((G39.ext E45).other W56 (Or.inr (slot_ne (Or.inr (hwk hw 158 rfl)) (Or.inr (hwk hw 161 rfl)) (by decide) (t := (.array .int)) (t' := (.array .double)) (by decide) (by decide))))
  have f84 := (V45.other W56 (Ne.symm ne_a_b45))
  exact in44_0 Z a0 hw hx hby hlk hret hml hnm hown hZ a aJ eD j0 j1 j2 aO kE kO cl o0 o1 o2 p0 p1 p2 b14 cA14 b29 cA29 b45 cA45 h0 h56 n0 T56 _ X56 e56 N56 Z56 f60 f61 f62 f63 f64 f65 f66 f67 f68 f69 f70 f71 f72 f73 f74 f75 f76 f77 f78 f79 f80 f81 f82 f83 f84 G56 naaJ naeD naj0 naj1 naj2 naaO ne_a_b14 ne_aJ_b14 ne_eD_b14 ne_j0_b14 ne_j1_b14 ne_j2_b14 ne_aO_b14 ne_a_b29 ne_aJ_b29 ne_eD_b29 ne_j0_b29 ne_j1_b29 ne_j2_b29 ne_aO_b29 ne_b14_b29 ne_a_b45 ne_aJ_b45 ne_eD_b45 ne_j0_b45 ne_j1_b45 ne_j2_b45 ne_aO_b45 ne_b14_b45 ne_b29_b45 ga lo_b14 lo_b29 lo_b45 KK59 sz_b14 sz_b29 sz_b45 hp hcl
theorem dp106_18_0 : decode prog_106_method_18_code 0 = .ok (.aload_n 0, 1) := by decide +kernel
theorem dp106_18_1 : decode prog_106_method_18_code 1 = .ok (.getfield 50, 3) := by decide +kernel
theorem dp106_18_4 : decode prog_106_method_18_code 4 = .ok (.iconst 2, 1) := by decide +kernel
theorem dp106_18_5 : decode prog_106_method_18_code 5 = .ok (.iload_n 1, 1) := by decide +kernel
theorem dp106_18_6 : decode prog_106_method_18_code 6 = .ok (.imul, 1) := by decide +kernel
theorem dp106_18_7 : decode prog_106_method_18_code 7 = .ok (.iaload, 1) := by decide +kernel
theorem dp106_18_8 : decode prog_106_method_18_code 8 = .ok (.aload_n 0, 1) := by decide +kernel
theorem dp106_18_9 : decode prog_106_method_18_code 9 = .ok (.getfield 50, 3) := by decide +kernel
theorem dp106_18_12 : decode prog_106_method_18_code 12 = .ok (.iconst 2, 1) := by decide +kernel
theorem dp106_18_13 : decode prog_106_method_18_code 13 = .ok (.iload_n 1, 1) := by decide +kernel
theorem dp106_18_14 : decode prog_106_method_18_code 14 = .ok (.imul, 1) := by decide +kernel
theorem dp106_18_15 : decode prog_106_method_18_code 15 = .ok (.iconst 1, 1) := by decide +kernel
theorem dp106_18_16 : decode prog_106_method_18_code 16 = .ok (.iadd, 1) := by decide +kernel
theorem dp106_18_17 : decode prog_106_method_18_code 17 = .ok (.iaload, 1) := by decide +kernel
theorem dp106_18_18 : decode prog_106_method_18_code 18 = .ok (.invokestatic 119, 3) := by decide +kernel
theorem dp106_18_21 : decode prog_106_method_18_code 21 = .ok (.istore_n 2, 1) := by decide +kernel
theorem dp106_18_22 : decode prog_106_method_18_code 22 = .ok (.iload_n 2, 1) := by decide +kernel
theorem dp106_18_23 : decode prog_106_method_18_code 23 = .ok (.aload_n 0, 1) := by decide +kernel
theorem dp106_18_24 : decode prog_106_method_18_code 24 = .ok (.getfield 50, 3) := by decide +kernel
theorem dp106_18_27 : decode prog_106_method_18_code 27 = .ok (.iload_n 1, 1) := by decide +kernel
theorem dp106_18_28 : decode prog_106_method_18_code 28 = .ok (.iaload, 1) := by decide +kernel
theorem dp106_18_29 : decode prog_106_method_18_code 29 = .ok (.if_icmp .eq 7, 3) := by decide +kernel
theorem dp106_18_32 : decode prog_106_method_18_code 32 = .ok (.iconst 1, 1) := by decide +kernel
theorem dp106_18_33 : decode prog_106_method_18_code 33 = .ok (.goto 4, 3) := by decide +kernel
theorem dp106_18_36 : decode prog_106_method_18_code 36 = .ok (.iconst 0, 1) := by decide +kernel
theorem dp106_18_37 : decode prog_106_method_18_code 37 = .ok (.istore_n 3, 1) := by decide +kernel
theorem dp106_18_38 : decode prog_106_method_18_code 38 = .ok (.aload_n 0, 1) := by decide +kernel
theorem dp106_18_39 : decode prog_106_method_18_code 39 = .ok (.getfield 50, 3) := by decide +kernel
theorem dp106_18_42 : decode prog_106_method_18_code 42 = .ok (.iload_n 1, 1) := by decide +kernel
theorem dp106_18_43 : decode prog_106_method_18_code 43 = .ok (.iload_n 2, 1) := by decide +kernel
theorem dp106_18_44 : decode prog_106_method_18_code 44 = .ok (.iastore, 1) := by decide +kernel
theorem dp106_18_45 : decode prog_106_method_18_code 45 = .ok (.iload_n 3, 1) := by decide +kernel
theorem dp106_18_46 : decode prog_106_method_18_code 46 = .ok (.ireturn, 1) := by decide +kernel
theorem ef_Lf (m : MethodId) (x0 : Addr) (x1 : Int32) : entryFrame m #[(.ref x0), (.int x1)] 4 = mkF m 0 #[rv x0, iv x1, .unset, .unset] [] := by first | (simp [entryFrame, mkF, argsToLocals, Value.category]; done) | rfl
def QLf (Z : State) (a aF : Addr) (kF : ClassId) (z : Int32) (xs : List Value) (nd u0 u1 un : Int32) (j0 j1 ix : Nat) (h0 : Heap) (n0 : Nat) (v : Option Value) (h : Heap) (L : List Loc) : Prop := ∃ r : Int32, v = some (.int r) ∧ Fr n0 L ∧ Keep h0 h [aF] ∧ ((imin u0 u1 = un ∧ r = 0) ∨ (¬ imin u0 u1 = un ∧ r = 1)) ∧ Arv Z h aF kF .int z (xs.set ix (.int (imin u0 u1))) (.int (0 : Int32))
set_option maxRecDepth 65536 in
set_option maxHeartbeats 40000000 in
theorem rmLf (l : Launch) (Z : State) (a0 : Array Value) (hw : ∀ d ∈ tables_1, d.before a0 Z = true) (ws : List Jvm.Cond) (a aF : Addr) (kF : ClassId) (z : Int32) (xs : List Value) (nd u0 u1 un : Int32) (j0 j1 ix : Nat) (h0 : Heap) (n0 : Nat) (Z0 : n0 ≤ h0.size) (Ff : Fld Z h0 a "com/example/redoubt/redoubt/policies/FirstFitQueue" "fewest" "[I" (.ref aF)) (VF : Arv Z h0 aF kF .int z xs (.int (0 : Int32))) (lF : n0 ≤ aF) (naF : a ≠ aF) (hb0 : ¬ ((2 : Int32) * nd) < (0 : Int32) ∧ ((2 : Int32) * nd) < z) (hb1 : ¬ (((2 : Int32) * nd) + (1 : Int32)) < (0 : Int32) ∧ (((2 : Int32) * nd) + (1 : Int32)) < z) (hbn : ¬ nd < (0 : Int32) ∧ nd < z) (hi0 : ((2 : Int32) * nd).toNatClampNeg = j0) (hi1 : (((2 : Int32) * nd) + (1 : Int32)).toNatClampNeg = j1) (hin : nd.toNatClampNeg = ix) (gq0 : xs.getD j0 (.int (0 : Int32)) = .int u0) (gq1 : xs.getD j1 (.int (0 : Int32)) = .int u1) (gqn : xs.getD ix (.int (0 : Int32)) = .int un) (hlx : ix < xs.length) :
    MetFree l mN30 (head1 (Jvm.Cond.code mN30 prog_106_method_18_code 4 (some .boolean) :: ws) ({ frames := 1, cells := 0, slots := 0, locals := 13 } : Room)) (fun aa U => aa = #[(.ref a), (.int nd)] ∧ Z.Warmed39 U.vm ∧ U.heap = h0) (fun _ _ _ _ _ => True) (fun _ u1_ o_ u2_ => ∃ v_ l_, o_ = .returned v_ ∧ QLf Z a aF kF z xs nd u0 u1 un j0 j1 ix h0 n0 v_ u2_.heap l_ ∧ FrameEnd u1_ o_ u2_ l_ ({ frames := 1, cells := 0, slots := 0, locals := 13 } : Room).cells ({ frames := 1, cells := 0, slots := 0, locals := 13 } : Room).slots) := by
  refine MetFree.of_bodySF (plainFor_of_name pn_com_example_redoubt_redoubt_policies_FirstFitQueue) hisR ?_
  intro p e s m args below meth c s₁ Bd hml0 hP hK
  obtain ⟨rfl, hZ, hh⟩ := hP
  have hx := Bd.exec
  have hby := Bd.bytes
  have hlk := BodyLoose.notSynchronized Bd
  have hret := Bd.returns
  have hml : c.maxLocals = 4 := hml0
  have hown : s.vm.findClass "com/example/redoubt/redoubt/policies/FirstFitQueue" = some m.cls := findClass_of_methodNamed Bd.named
  have hnm := (name_of_methodNamed Bd.named Bd.method).1
  have X0 : Stand p l e ({ frames := 1, cells := 0, slots := 0, locals := 13 } : Room) s m #[(.ref a), (.int nd)] below meth c s₁ [] 0 0 := Stand.of_body Bd
  have e0 : s₁.heap = h0 := by rw [← hh, Bd.state]; rfl
  have N0 := Fr.nil n0
  refine Goes.st (E := (EN s (QLf Z a aF kF z xs nd u0 u1 un j0 j1 ix h0 n0) ({ frames := 1, cells := 0, slots := 0, locals := 13 } : Room).cells ({ frames := 1, cells := 0, slots := 0, locals := 13 } : Room).slots)) (fun tg kg => castTop (ef_Lf m a nd) kg) ?_
  have K0 : Keep h0 h0 [aF] := Keep.refl _ _
  show Gs p e below _ s₁ m 0 #[rv a, iv nd, .unset, .unset] []
  refine galoadN X0 hx (hb hby dp106_18_0) rfl rfl ?_
  obtain ⟨T1, X1, e1, st1⟩ := getF X0 hx hZ hown (host := "") (Or.inl (hwk hw 196 rfl)) Via.refl e0 Ff (g := (mkF m 1 #[rv a, iv nd, .unset, .unset] [(.ref a)])) rfl rfl (hb hby dp106_18_1)
  refine Goes.st st1 ?_
  refine giconst X1 hx (hb hby dp106_18_4) ?_
  refine giloadN X1 hx (hb hby dp106_18_5) rfl ?_
  refine gimul X1 hx (hb hby dp106_18_6) trivial ?_
  show Gs p e below _ T1 m 7 #[rv a, iv nd, .unset, .unset] [(.int ((2 : Int32) * nd)), (.ref aF)]
  obtain ⟨cl2, Ar2, qk2, Sz2, qz2, Ha2, Gf2⟩ := id VF
  have in2 := inb_of (j := ((2 : Int32) * nd)) Sz2 hb0
  refine Goes.st (fun tg kg => X1.iaload hx (j := ((2 : Int32) * nd)) (v := (.int u0)) (by rw [e1]; exact Ar2.1) (State.isArrayOf_alike hZ.alike Ar2.2.1) Ar2.2.2 in2 (Ha2.at in2 (by rw [hi0]; exact gq0)) (g := (mkF m 7 #[rv a, iv nd, .unset, .unset] [(.int ((2 : Int32) * nd)), (.ref aF)])) rfl rfl (hb hby dp106_18_7) tg kg) ?_
  refine galoadN X1 hx (hb hby dp106_18_8) rfl rfl ?_
  obtain ⟨T3, X3, e3, st3⟩ := getF X1 hx hZ hown (host := "") (Or.inl (hwk hw 196 rfl)) Via.refl e1 Ff (g := (mkF m 9 #[rv a, iv nd, .unset, .unset] [(.ref a), (.int u0)])) rfl rfl (hb hby dp106_18_9)
  refine Goes.st st3 ?_
  refine giconst X3 hx (hb hby dp106_18_12) ?_
  refine giloadN X3 hx (hb hby dp106_18_13) rfl ?_
  refine gimul X3 hx (hb hby dp106_18_14) trivial ?_
  show Gs p e below _ T3 m 15 #[rv a, iv nd, .unset, .unset] [(.int ((2 : Int32) * nd)), (.ref aF), (.int u0)]
  refine giconst X3 hx (hb hby dp106_18_15) ?_
  refine giadd X3 hx (hb hby dp106_18_16) trivial ?_
  obtain ⟨cl4, Ar4, qk4, Sz4, qz4, Ha4, Gf4⟩ := id VF
  have in4 := inb_of (j := (((2 : Int32) * nd) + (1 : Int32))) Sz4 hb1
  refine Goes.st (fun tg kg => X3.iaload hx (j := (((2 : Int32) * nd) + (1 : Int32))) (v := (.int u1)) (by rw [e3]; exact Ar4.1) (State.isArrayOf_alike hZ.alike Ar4.2.1) Ar4.2.2 in4 (Ha4.at in4 (by rw [hi1]; exact gq1)) (g := (mkF m 17 #[rv a, iv nd, .unset, .unset] [(.int (((2 : Int32) * nd) + (1 : Int32))), (.ref aF), (.int u0)])) rfl rfl (hb hby dp106_18_17) tg kg) ?_
  obtain ⟨_, _, ⟨T5, L5, k5, n5⟩, -, X5, ⟨Lc5, hQ5, l5, y5, z5⟩, st5⟩ := Jvm.LawKit.callS X3 hx (y := mN1) hown (mvT hZ (hwk hw 227 rfl)) (mvT hZ (hwk hw 228 rfl)) (mvT hZ (hwk hw 7 rfl)) (mvT hZ (hwk hw 229 rfl)) (by decide) (backOf (W := 0) (rmMn l Z a0 hw [] u0 u1 h0 n0 Z0 ) hZ (hwk hw 229 rfl) (hwk hw 7 rfl) (by decide) (by decide)) (g := (mkF m 18 #[rv a, iv nd, .unset, .unset] [(.int u1), (.int u0)])) rfl (by rw [hml]; rfl) (argsL := [(.int u0), (.int u1)]) (rest := []) (lenOf pd__II_I_aae rfl) rfl (by show 2 * 0 + _ ≤ _; exact Nat.le_of_eq rfl) (hb hby dp106_18_18) (fun _ _ => ⟨rfl, e3, (by decide : 0 + 0 ≤ 0), (by decide : 0 + 0 ≤ 0)⟩)
  dsimp only [Pt.U, Pt.locs, Pt.cells, Pt.slots] at X5 l5 y5 z5 st5 hQ5
  subst l5 y5 z5
  obtain ⟨rfl, N5q, eh5⟩ := hQ5
  have N5 := Fr.app N0 N5q
  refine Goes.st st5 ?_
  show Gs p e below _ T5 m 21 #[rv a, iv nd, .unset, .unset] [(.int (imin u0 u1))]
  refine gistoreN X5 hx (hb hby dp106_18_21) trivial (l' := #[rv a, iv nd, iv (imin u0 u1), .unset]) rfl ?_
  refine giloadN X5 hx (hb hby dp106_18_22) rfl ?_
  refine galoadN X5 hx (hb hby dp106_18_23) rfl rfl ?_
  obtain ⟨T6, X6, e6, st6⟩ := getF X5 hx hZ hown (host := "") (Or.inl (hwk hw 196 rfl)) Via.refl eh5 Ff (g := (mkF m 24 #[rv a, iv nd, iv (imin u0 u1), .unset] [(.ref a), (.int (imin u0 u1))])) rfl rfl (hb hby dp106_18_24)
  refine Goes.st st6 ?_
  refine giloadN X6 hx (hb hby dp106_18_27) rfl ?_
  obtain ⟨cl7, Ar7, qk7, Sz7, qz7, Ha7, Gf7⟩ := id VF
  have in7 := inb_of (j := nd) Sz7 hbn
  refine Goes.st (fun tg kg => X6.iaload hx (j := nd) (v := (.int un)) (by rw [e6]; exact Ar7.1) (State.isArrayOf_alike hZ.alike Ar7.2.1) Ar7.2.2 in7 (Ha7.at in7 (by rw [hin]; exact gqn)) (g := (mkF m 28 #[rv a, iv nd, iv (imin u0 u1), .unset] [(.int nd), (.ref aF), (.int (imin u0 u1))])) rfl rfl (hb hby dp106_18_28) tg kg) ?_
  by_cases c8 : (imin u0 u1) = un
  · refine gicmpYes X6 hx (pc := 29) (pc' := 36) (hb hby dp106_18_29) (teq c8).1 (by decide) (by decide) ?_
    refine giconst X6 hx (hb hby dp106_18_36) ?_
    refine gistoreN X6 hx (hb hby dp106_18_37) trivial (l' := #[rv a, iv nd, iv (imin u0 u1), iv (0 : Int32)]) rfl ?_
    show Gs p e below _ T6 m 38 #[rv a, iv nd, iv (imin u0 u1), iv (0 : Int32)] []
    refine galoadN X6 hx (hb hby dp106_18_38) rfl rfl ?_
    obtain ⟨T9, X9, e9, st9⟩ := getF X6 hx hZ hown (host := "") (Or.inl (hwk hw 196 rfl)) Via.refl e6 Ff (g := (mkF m 39 #[rv a, iv nd, iv (imin u0 u1), iv (0 : Int32)] [(.ref a)])) rfl rfl (hb hby dp106_18_39)
    refine Goes.st st9 ?_
    refine giloadN X9 hx (hb hby dp106_18_42) rfl ?_
    refine giloadN X9 hx (hb hby dp106_18_43) rfl ?_
    show Gs p e below _ T9 m 44 #[rv a, iv nd, iv (imin u0 u1), iv (0 : Int32)] [(.int (imin u0 u1)), (.int nd), (.ref aF)]
    obtain ⟨cl10, Ar10, qk10, Sz10, qz10, Ha10, Gf10⟩ := id VF
    obtain ⟨T10, h10, X10, e10, W10, st10⟩ := stI X9 hx hZ e9 Ar10 (inb_of Sz10 hbn) (g := (mkF m 44 #[rv a, iv nd, iv (imin u0 u1), iv (0 : Int32)] [(.int (imin u0 u1)), (.int nd), (.ref aF)])) rfl rfl (hb hby dp106_18_44)
    have N10 := Fr.snoc X10 N5 lF
    have V10 : Arv Z h10 aF kF .int z (xs.set ix (.int (imin u0 u1))) (.int (0 : Int32)) := (Arv.set Ar10 qk10 Sz10 qz10 Ha10 Gf10 rfl W10 ix hin hlx)
    refine Goes.st st10 ?_
    have KK11 := K0.wr W10 (Or.inl (List.mem_of_getElem? (i := 0) rfl))
    have Z10 : n0 ≤ h10.size := by have := W10.size; have := Z0; omega
    show Gs p e below _ T10 m 45 #[rv a, iv nd, iv (imin u0 u1), iv (0 : Int32)] []
    refine giloadN X10 hx (hb hby dp106_18_45) rfl ?_
    refine Goes.retN X10 hx hret (by simp) (hb hby dp106_18_46) (by decide) (lvN X10 hlk (vsome hret) ?_ (by decide) (by decide))
    rw [e10]
    exact ⟨_, rfl, N10, KK11, Or.inl ⟨c8, rfl⟩, V10⟩
  · refine gicmpNo X6 hx (hb hby dp106_18_29) (feq c8).1 ?_
    refine giconst X6 hx (hb hby dp106_18_32) ?_
    refine ggoto X6 hx (pc := 33) (pc' := 37) (hb hby dp106_18_33) (by decide) (by decide) ?_
    refine gistoreN X6 hx (hb hby dp106_18_37) trivial (l' := #[rv a, iv nd, iv (imin u0 u1), iv (1 : Int32)]) rfl ?_
    refine galoadN X6 hx (hb hby dp106_18_38) rfl rfl ?_
    obtain ⟨T12, X12, e12, st12⟩ := getF X6 hx hZ hown (host := "") (Or.inl (hwk hw 196 rfl)) Via.refl e6 Ff (g := (mkF m 39 #[rv a, iv nd, iv (imin u0 u1), iv (1 : Int32)] [(.ref a)])) rfl rfl (hb hby dp106_18_39)
    refine Goes.st st12 ?_
    refine giloadN X12 hx (hb hby dp106_18_42) rfl ?_
    refine giloadN X12 hx (hb hby dp106_18_43) rfl ?_
    show Gs p e below _ T12 m 44 #[rv a, iv nd, iv (imin u0 u1), iv (1 : Int32)] [(.int (imin u0 u1)), (.int nd), (.ref aF)]
    obtain ⟨cl13, Ar13, qk13, Sz13, qz13, Ha13, Gf13⟩ := id VF
    obtain ⟨T13, h13, X13, e13, W13, st13⟩ := stI X12 hx hZ e12 Ar13 (inb_of Sz13 hbn) (g := (mkF m 44 #[rv a, iv nd, iv (imin u0 u1), iv (1 : Int32)] [(.int (imin u0 u1)), (.int nd), (.ref aF)])) rfl rfl (hb hby dp106_18_44)
    have N13 := Fr.snoc X13 N5 lF
    have V13 : Arv Z h13 aF kF .int z (xs.set ix (.int (imin u0 u1))) (.int (0 : Int32)) := (Arv.set Ar13 qk13 Sz13 qz13 Ha13 Gf13 rfl W13 ix hin hlx)
    refine Goes.st st13 ?_
    have KK14 := K0.wr W13 (Or.inl (List.mem_of_getElem? (i := 0) rfl))
    have Z13 : n0 ≤ h13.size := by have := W13.size; have := Z0; omega
    show Gs p e below _ T13 m 45 #[rv a, iv nd, iv (imin u0 u1), iv (1 : Int32)] []
    refine giloadN X13 hx (hb hby dp106_18_45) rfl ?_
    refine Goes.retN X13 hx hret (by simp) (hb hby dp106_18_46) (by decide) (lvN X13 hlk (vsome hret) ?_ (by decide) (by decide))
    rw [e13]
    exact ⟨_, rfl, N13, KK14, Or.inr ⟨c8, rfl⟩, V13⟩
def tl4 (n1_ n2_ n3_ y0 y1 y2 : Int32) : List Value := [.int (2147483647 : Int32), .int n1_, .int n2_, .int n3_, .int y0, .int y1, .int y2, .int (2147483647 : Int32)]
def QSe4 (Z : State) (aF : Addr) (kF : ClassId) (y0 y1 y2 : Int32) (h0 : Heap) (n0 : Nat) (v : Option Value) (h : Heap) (L : List Loc) : Prop := v = none ∧ Fr n0 L ∧ Keep h0 h [aF] ∧ Arv Z h aF kF .int (8 : Int32) (tr4 y0 y1 y2) (.int (0 : Int32))
def tl8 (n1_ n2_ n3_ n4_ n5_ n6_ y0 y1 y2 y3 y4 y5 : Int32) : List Value := [.int (2147483647 : Int32), .int n1_, .int n2_, .int n3_, .int n4_, .int n5_, .int n6_, .int (2147483647 : Int32), .int y0, .int y1, .int y2, .int y3, .int y4, .int y5, .int (2147483647 : Int32), .int (2147483647 : Int32)]
def QSe8 (Z : State) (aF : Addr) (kF : ClassId) (y0 y1 y2 y3 y4 y5 : Int32) (h0 : Heap) (n0 : Nat) (v : Option Value) (h : Heap) (L : List Loc) : Prop := v = none ∧ Fr n0 L ∧ Keep h0 h [aF] ∧ Arv Z h aF kF .int (16 : Int32) (tr8 y0 y1 y2 y3 y4 y5) (.int (0 : Int32))
def r3 (pl : Int32) : Int32 := if pl < (3 : Int32) then pl else pl - (3 : Int32)
theorem own_r36 {pl : Int32} (h6 : pl = 0 ∨ pl = 1 ∨ pl = 2 ∨ pl = 3 ∨ pl = 4 ∨ pl = 5) : ¬ pl < (3 : Int32) → (pl - (3 : Int32)) < (3 : Int32) := by rcases h6 with rfl | rfl | rfl | rfl | rfl | rfl <;> decide
theorem own_r3b {pl : Int32} (h6 : pl = 0 ∨ pl = 1 ∨ pl = 2 ∨ pl = 3 ∨ pl = 4 ∨ pl = 5) : ¬ r3 pl < (0 : Int32) ∧ r3 pl < (3 : Int32) := by rcases h6 with rfl | rfl | rfl | rfl | rfl | rfl <;> decide
theorem own_r3g {pl : Int32} (h6 : pl = 0 ∨ pl = 1 ∨ pl = 2 ∨ pl = 3 ∨ pl = 4 ∨ pl = 5) (q0 q1 q2 : Int32) (d : Value) : [(.int q0 : Value), .int q1, .int q2].getD (r3 pl).toNatClampNeg d = .int (qq pl q0 q1 q2) := by rcases h6 with rfl | rfl | rfl | rfl | rfl | rfl <;> rfl
theorem own_36 {pl : Int32} (h : pl = 0 ∨ pl = 1 ∨ pl = 2) : pl = 0 ∨ pl = 1 ∨ pl = 2 ∨ pl = 3 ∨ pl = 4 ∨ pl = 5 := by rcases h with rfl | rfl | rfl <;> decide
theorem dp106_7_0 : decode prog_106_method_7_code 0 = .ok (.iload_n 1, 1) := by decide +kernel
theorem dp106_7_1 : decode prog_106_method_7_code 1 = .ok (.istore_n 2, 1) := by decide +kernel
theorem dp106_7_2 : decode prog_106_method_7_code 2 = .ok (.iload_n 2, 1) := by decide +kernel
theorem dp106_7_3 : decode prog_106_method_7_code 3 = .ok (.aload_n 0, 1) := by decide +kernel
theorem dp106_7_4 : decode prog_106_method_7_code 4 = .ok (.getfield 15, 3) := by decide +kernel
theorem dp106_7_7 : decode prog_106_method_7_code 7 = .ok (.arraylength, 1) := by decide +kernel
theorem dp106_7_8 : decode prog_106_method_7_code 8 = .ok (.if_icmp .lt 14, 3) := by decide +kernel
theorem dp106_7_11 : decode prog_106_method_7_code 11 = .ok (.iload_n 2, 1) := by decide +kernel
theorem dp106_7_12 : decode prog_106_method_7_code 12 = .ok (.aload_n 0, 1) := by decide +kernel
theorem dp106_7_13 : decode prog_106_method_7_code 13 = .ok (.getfield 15, 3) := by decide +kernel
theorem dp106_7_16 : decode prog_106_method_7_code 16 = .ok (.arraylength, 1) := by decide +kernel
theorem dp106_7_17 : decode prog_106_method_7_code 17 = .ok (.isub, 1) := by decide +kernel
theorem dp106_7_18 : decode prog_106_method_7_code 18 = .ok (.istore_n 2, 1) := by decide +kernel
theorem dp106_7_19 : decode prog_106_method_7_code 19 = .ok (.goto (-17), 3) := by decide +kernel
theorem dp106_7_22 : decode prog_106_method_7_code 22 = .ok (.iload_n 2, 1) := by decide +kernel
theorem dp106_7_23 : decode prog_106_method_7_code 23 = .ok (.ireturn, 1) := by decide +kernel
theorem ef_Ra (m : MethodId) (x0 : Addr) (x1 : Int32) : entryFrame m #[(.ref x0), (.int x1)] 3 = mkF m 0 #[rv x0, iv x1, .unset] [] := by first | (simp [entryFrame, mkF, argsToLocals, Value.category]; done) | rfl
def QRa (Z : State) (a aO : Addr) (kO : ClassId) (o0 o1 o2 : Int32) (pl : Int32) (h0 : Heap) (n0 : Nat) (v : Option Value) (h : Heap) (L : List Loc) : Prop := v = some (.int (r3 pl)) ∧ Fr n0 L ∧ h = h0
set_option maxRecDepth 65536 in
set_option maxHeartbeats 40000000 in
theorem rmRa (l : Launch) (Z : State) (a0 : Array Value) (hw : ∀ d ∈ tables_1, d.before a0 Z = true) (ws : List Jvm.Cond) (a aO : Addr) (kO : ClassId) (o0 o1 o2 : Int32) (pl : Int32) (h0 : Heap) (n0 : Nat) (Z0 : n0 ≤ h0.size) (Fo : Fld Z h0 a "com/example/redoubt/redoubt/policies/FirstFitQueue" "order" "[I" (.ref aO)) (Ao : Arv Z h0 aO kO .int (3 : Int32) [(.int o0), (.int o1), (.int o2)] (.int (0 : Int32))) (h6 : pl = 0 ∨ pl = 1 ∨ pl = 2 ∨ pl = 3 ∨ pl = 4 ∨ pl = 5) :
    MetFree l mN31 (head1 (Jvm.Cond.code mN31 prog_106_method_7_code 3 (some .int) :: ws) ({ frames := 0, cells := 0, slots := 0, locals := 0 } : Room)) (fun aa U => aa = #[(.ref a), (.int pl)] ∧ Z.Warmed39 U.vm ∧ U.heap = h0) (fun _ _ _ _ _ => True) (fun _ u1_ o_ u2_ => ∃ v_ l_, o_ = .returned v_ ∧ QRa Z a aO kO o0 o1 o2 pl h0 n0 v_ u2_.heap l_ ∧ FrameEnd u1_ o_ u2_ l_ ({ frames := 0, cells := 0, slots := 0, locals := 0 } : Room).cells ({ frames := 0, cells := 0, slots := 0, locals := 0 } : Room).slots) := by
  refine MetFree.of_bodySF (plainFor_of_name pn_com_example_redoubt_redoubt_policies_FirstFitQueue) hisR ?_
  intro p e s m args below meth c s₁ Bd hml0 hP hK
  obtain ⟨rfl, hZ, hh⟩ := hP
  have hx := Bd.exec
  have hby := Bd.bytes
  have hlk := BodyLoose.notSynchronized Bd
  have hret := Bd.returns
  have hml : c.maxLocals = 3 := hml0
  have hown : s.vm.findClass "com/example/redoubt/redoubt/policies/FirstFitQueue" = some m.cls := findClass_of_methodNamed Bd.named
  have hnm := (name_of_methodNamed Bd.named Bd.method).1
  have X0 : Stand p l e ({ frames := 0, cells := 0, slots := 0, locals := 0 } : Room) s m #[(.ref a), (.int pl)] below meth c s₁ [] 0 0 := Stand.of_body Bd
  have e0 : s₁.heap = h0 := by rw [← hh, Bd.state]; rfl
  have N0 := Fr.nil n0
  refine Goes.st (E := (EN s (QRa Z a aO kO o0 o1 o2 pl h0 n0) ({ frames := 0, cells := 0, slots := 0, locals := 0 } : Room).cells ({ frames := 0, cells := 0, slots := 0, locals := 0 } : Room).slots)) (fun tg kg => castTop (ef_Ra m a pl) kg) ?_
  show Gs p e below _ s₁ m 0 #[rv a, iv pl, .unset] []
  refine giloadN X0 hx (hb hby dp106_7_0) rfl ?_
  refine gistoreN X0 hx (hb hby dp106_7_1) trivial (l' := #[rv a, iv pl, iv pl]) rfl ?_
  refine giloadN X0 hx (hb hby dp106_7_2) rfl ?_
  refine galoadN X0 hx (hb hby dp106_7_3) rfl rfl ?_
  obtain ⟨T1, X1, e1, st1⟩ := getF X0 hx hZ hown (host := "") (Or.inl (hwk hw 153 rfl)) Via.refl e0 Fo (g := (mkF m 4 #[rv a, iv pl, iv pl] [(.ref a), (.int pl)])) rfl rfl (hb hby dp106_7_4)
  refine Goes.st st1 ?_
  obtain ⟨cl2, Ar2, qk2, Sz2, qz2, Ha2, Gf2⟩ := id Ao
  refine Goes.st (fun tg kg => X1.arraylength hx (cell := cl2) (by rw [e1]; exact Ar2.1) (State.isArrayOf_alike hZ.alike Ar2.2.1) (g := (mkF m 7 #[rv a, iv pl, iv pl] [(.ref aO), (.int pl)])) rfl (rest := [(.int pl)]) rfl (hb hby dp106_7_7) tg kg) ?_
  rw [len_of Sz2 qz2]
  show Gs p e below _ T1 m 8 #[rv a, iv pl, iv pl] [(.int (3 : Int32)), (.int pl)]
  by_cases c3 : pl < (3 : Int32)
  · refine gicmpYes X1 hx (pc := 8) (pc' := 22) (hb hby dp106_7_8) (tlt c3).1 (by decide) (by decide) ?_
    refine giloadN X1 hx (hb hby dp106_7_22) rfl ?_
    refine Goes.retI X1 hx hret (hb hby dp106_7_23) (lvN X1 hlk (vsome hret) ?_ (by decide) (by decide))
    rw [e1]
    exact ⟨by rw [r3, if_pos c3], N0, rfl⟩
  · refine gicmpNo X1 hx (hb hby dp106_7_8) (flt c3).1 ?_
    show Gs p e below _ T1 m 11 #[rv a, iv pl, iv pl] []
    refine giloadN X1 hx (hb hby dp106_7_11) rfl ?_
    refine galoadN X1 hx (hb hby dp106_7_12) rfl rfl ?_
    obtain ⟨T4, X4, e4, st4⟩ := getF X1 hx hZ hown (host := "") (Or.inl (hwk hw 153 rfl)) Via.refl e1 Fo (g := (mkF m 13 #[rv a, iv pl, iv pl] [(.ref a), (.int pl)])) rfl rfl (hb hby dp106_7_13)
    refine Goes.st st4 ?_
    obtain ⟨cl5, Ar5, qk5, Sz5, qz5, Ha5, Gf5⟩ := id Ao
    refine Goes.st (fun tg kg => X4.arraylength hx (cell := cl5) (by rw [e4]; exact Ar5.1) (State.isArrayOf_alike hZ.alike Ar5.2.1) (g := (mkF m 16 #[rv a, iv pl, iv pl] [(.ref aO), (.int pl)])) rfl (rest := [(.int pl)]) rfl (hb hby dp106_7_16) tg kg) ?_
    rw [len_of Sz5 qz5]
    show Gs p e below _ T4 m 17 #[rv a, iv pl, iv pl] [(.int (3 : Int32)), (.int pl)]
    refine gisub X4 hx (hb hby dp106_7_17) trivial ?_
    refine gistoreN X4 hx (hb hby dp106_7_18) trivial (l' := #[rv a, iv pl, iv (pl - (3 : Int32))]) rfl ?_
    refine ggoto X4 hx (pc := 19) (pc' := 2) (hb hby dp106_7_19) (by decide) (by decide) ?_
    refine giloadN X4 hx (hb hby dp106_7_2) rfl ?_
    refine galoadN X4 hx (hb hby dp106_7_3) rfl rfl ?_
    obtain ⟨T6, X6, e6, st6⟩ := getF X4 hx hZ hown (host := "") (Or.inl (hwk hw 153 rfl)) Via.refl e4 Fo (g := (mkF m 4 #[rv a, iv pl, iv (pl - (3 : Int32))] [(.ref a), (.int (pl - (3 : Int32)))])) rfl rfl (hb hby dp106_7_4)
    refine Goes.st st6 ?_
    obtain ⟨cl7, Ar7, qk7, Sz7, qz7, Ha7, Gf7⟩ := id Ao
    refine Goes.st (fun tg kg => X6.arraylength hx (cell := cl7) (by rw [e6]; exact Ar7.1) (State.isArrayOf_alike hZ.alike Ar7.2.1) (g := (mkF m 7 #[rv a, iv pl, iv (pl - (3 : Int32))] [(.ref aO), (.int (pl - (3 : Int32)))])) rfl (rest := [(.int (pl - (3 : Int32)))]) rfl (hb hby dp106_7_7) tg kg) ?_
    rw [len_of Sz7 qz7]
    show Gs p e below _ T6 m 8 #[rv a, iv pl, iv (pl - (3 : Int32))] [(.int (3 : Int32)), (.int (pl - (3 : Int32)))]
    refine gicmpYes X6 hx (pc := 8) (pc' := 22) (hb hby dp106_7_8) (tlt (own_r36 h6 c3)).1 (by decide) (by decide) ?_
    refine giloadN X6 hx (hb hby dp106_7_22) rfl ?_
    refine Goes.retI X6 hx hret (hb hby dp106_7_23) (lvN X6 hlk (vsome hret) ?_ (by decide) (by decide))
    rw [e6]
    exact ⟨by rw [r3, if_neg c3], N0, rfl⟩
theorem own_getI {jb : Int32} (hj : jb = 0 ∨ jb = 1 ∨ jb = 2) (r0 r1 r2 : Int32) (d : Value) : [(.int r0 : Value), .int r1, .int r2].getD jb.toNatClampNeg d = .int (sel jb r0 r1 r2) := by rcases hj with rfl | rfl | rfl <;> rfl
theorem own_selrk {jb o0 o1 : Int32} (hj : jb = 0 ∨ jb = 1 ∨ jb = 2) : sel jb (rk o0 o1 0) (rk o0 o1 1) (rk o0 o1 2) = rk o0 o1 jb := by rcases hj with rfl | rfl | rfl <;> rfl
theorem dp106_3_0 : decode prog_106_method_3_code 0 = .ok (.iload_n 2, 1) := by decide +kernel
theorem dp106_3_1 : decode prog_106_method_3_code 1 = .ok (.aload_n 0, 1) := by decide +kernel
theorem dp106_3_2 : decode prog_106_method_3_code 2 = .ok (.getfield 15, 3) := by decide +kernel
theorem dp106_3_5 : decode prog_106_method_3_code 5 = .ok (.arraylength, 1) := by decide +kernel
theorem dp106_3_6 : decode prog_106_method_3_code 6 = .ok (.imul, 1) := by decide +kernel
theorem dp106_3_7 : decode prog_106_method_3_code 7 = .ok (.aload_n 0, 1) := by decide +kernel
theorem dp106_3_8 : decode prog_106_method_3_code 8 = .ok (.getfield 18, 3) := by decide +kernel
theorem dp106_3_11 : decode prog_106_method_3_code 11 = .ok (.iload_n 1, 1) := by decide +kernel
theorem dp106_3_12 : decode prog_106_method_3_code 12 = .ok (.iaload, 1) := by decide +kernel
theorem dp106_3_13 : decode prog_106_method_3_code 13 = .ok (.iadd, 1) := by decide +kernel
theorem dp106_3_14 : decode prog_106_method_3_code 14 = .ok (.ireturn, 1) := by decide +kernel
theorem ef_Pl (m : MethodId) (x0 : Addr) (x1 : Int32) (x2 : Int32) : entryFrame m #[(.ref x0), (.int x1), (.int x2)] 3 = mkF m 0 #[rv x0, iv x1, iv x2] [] := by first | (simp [entryFrame, mkF, argsToLocals, Value.category]; done) | rfl
def QPl (Z : State) (a aO : Addr) (kO : ClassId) (o0 o1 o2 : Int32) (aR : Addr) (kR : ClassId) (r0 r1 r2 jb kk : Int32) (h0 : Heap) (n0 : Nat) (v : Option Value) (h : Heap) (L : List Loc) : Prop := v = some (.int ((kk * (3 : Int32)) + sel jb r0 r1 r2)) ∧ Fr n0 L ∧ h = h0
set_option maxRecDepth 65536 in
set_option maxHeartbeats 40000000 in
theorem rmPl (l : Launch) (Z : State) (a0 : Array Value) (hw : ∀ d ∈ tables_1, d.before a0 Z = true) (ws : List Jvm.Cond) (a aO : Addr) (kO : ClassId) (o0 o1 o2 : Int32) (aR : Addr) (kR : ClassId) (r0 r1 r2 jb kk : Int32) (h0 : Heap) (n0 : Nat) (Z0 : n0 ≤ h0.size) (Fo : Fld Z h0 a "com/example/redoubt/redoubt/policies/FirstFitQueue" "order" "[I" (.ref aO)) (Ao : Arv Z h0 aO kO .int (3 : Int32) [(.int o0), (.int o1), (.int o2)] (.int (0 : Int32))) (Fr_ : Fld Z h0 a "com/example/redoubt/redoubt/policies/FirstFitQueue" "rankOf" "[I" (.ref aR)) (Ar_ : Arv Z h0 aR kR .int (3 : Int32) [(.int r0), (.int r1), (.int r2)] (.int (0 : Int32))) (hjb : jb = 0 ∨ jb = 1 ∨ jb = 2) :
    MetFree l mN32 (head1 (Jvm.Cond.code mN32 prog_106_method_3_code 3 (some .int) :: ws) ({ frames := 0, cells := 0, slots := 0, locals := 0 } : Room)) (fun aa U => aa = #[(.ref a), (.int jb), (.int kk)] ∧ Z.Warmed39 U.vm ∧ U.heap = h0) (fun _ _ _ _ _ => True) (fun _ u1_ o_ u2_ => ∃ v_ l_, o_ = .returned v_ ∧ QPl Z a aO kO o0 o1 o2 aR kR r0 r1 r2 jb kk h0 n0 v_ u2_.heap l_ ∧ FrameEnd u1_ o_ u2_ l_ ({ frames := 0, cells := 0, slots := 0, locals := 0 } : Room).cells ({ frames := 0, cells := 0, slots := 0, locals := 0 } : Room).slots) := by
  refine MetFree.of_bodySF (plainFor_of_name pn_com_example_redoubt_redoubt_policies_FirstFitQueue) hisR ?_
  intro p e s m args below meth c s₁ Bd hml0 hP hK
  obtain ⟨rfl, hZ, hh⟩ := hP
  have hx := Bd.exec
  have hby := Bd.bytes
  have hlk := BodyLoose.notSynchronized Bd
  have hret := Bd.returns
  have hml : c.maxLocals = 3 := hml0
  have hown : s.vm.findClass "com/example/redoubt/redoubt/policies/FirstFitQueue" = some m.cls := findClass_of_methodNamed Bd.named
  have hnm := (name_of_methodNamed Bd.named Bd.method).1
  have X0 : Stand p l e ({ frames := 0, cells := 0, slots := 0, locals := 0 } : Room) s m #[(.ref a), (.int jb), (.int kk)] below meth c s₁ [] 0 0 := Stand.of_body Bd
  have e0 : s₁.heap = h0 := by rw [← hh, Bd.state]; rfl
  have N0 := Fr.nil n0
  refine Goes.st (E := (EN s (QPl Z a aO kO o0 o1 o2 aR kR r0 r1 r2 jb kk h0 n0) ({ frames := 0, cells := 0, slots := 0, locals := 0 } : Room).cells ({ frames := 0, cells := 0, slots := 0, locals := 0 } : Room).slots)) (fun tg kg => castTop (ef_Pl m a jb kk) kg) ?_
  show Gs p e below _ s₁ m 0 #[rv a, iv jb, iv kk] []
  refine giloadN X0 hx (hb hby dp106_3_0) rfl ?_
  refine galoadN X0 hx (hb hby dp106_3_1) rfl rfl ?_
  obtain ⟨T1, X1, e1, st1⟩ := getF X0 hx hZ hown (host := "") (Or.inl (hwk hw 153 rfl)) Via.refl e0 Fo (g := (mkF m 2 #[rv a, iv jb, iv kk] [(.ref a), (.int kk)])) rfl rfl (hb hby dp106_3_2)
  refine Goes.st st1 ?_
  obtain ⟨cl2, Ar2, qk2, Sz2, qz2, Ha2, Gf2⟩ := id Ao
  refine Goes.st (fun tg kg => X1.arraylength hx (cell := cl2) (by rw [e1]; exact Ar2.1) (State.isArrayOf_alike hZ.alike Ar2.2.1) (g := (mkF m 5 #[rv a, iv jb, iv kk] [(.ref aO), (.int kk)])) rfl (rest := [(.int kk)]) rfl (hb hby dp106_3_5) tg kg) ?_
  rw [len_of Sz2 qz2]
  show Gs p e below _ T1 m 6 #[rv a, iv jb, iv kk] [(.int (3 : Int32)), (.int kk)]
  refine gimul X1 hx (hb hby dp106_3_6) trivial ?_
  show Gs p e below _ T1 m 7 #[rv a, iv jb, iv kk] [(.int (kk * (3 : Int32)))]
  refine galoadN X1 hx (hb hby dp106_3_7) rfl rfl ?_
  obtain ⟨T3, X3, e3, st3⟩ := getF X1 hx hZ hown (host := "") (Or.inl (hwk hw 155 rfl)) Via.refl e1 Fr_ (g := (mkF m 8 #[rv a, iv jb, iv kk] [(.ref a), (.int (kk * (3 : Int32)))])) rfl rfl (hb hby dp106_3_8)
  refine Goes.st st3 ?_
  refine giloadN X3 hx (hb hby dp106_3_11) rfl ?_
  obtain ⟨cl4, Ar4, qk4, Sz4, qz4, Ha4, Gf4⟩ := id Ar_
  have in4 := inb_of (j := jb) Sz4 ⟨own_jlo hjb, own_jhi hjb⟩
  refine Goes.st (fun tg kg => X3.iaload hx (j := jb) (v := (.int (sel jb r0 r1 r2))) (by rw [e3]; exact Ar4.1) (State.isArrayOf_alike hZ.alike Ar4.2.1) Ar4.2.2 in4 (Ha4.at in4 (own_getI hjb _ _ _ _)) (g := (mkF m 12 #[rv a, iv jb, iv kk] [(.int jb), (.ref aR), (.int (kk * (3 : Int32)))])) rfl rfl (hb hby dp106_3_12) tg kg) ?_
  refine giadd X3 hx (hb hby dp106_3_13) trivial ?_
  refine Goes.retI X3 hx hret (hb hby dp106_3_14) (lvN X3 hlk (vsome hret) ?_ (by decide) (by decide))
  rw [e3]
  exact ⟨rfl, N0, rfl⟩
theorem own_plr3 {o0 o1 o2 jb : Int32} (hp : Perm3 o0 o1 o2) (hj : jb = 0 ∨ jb = 1 ∨ jb = 2) : (((0 : Int32) * (3 : Int32)) + rk o0 o1 jb) = 0 ∨ (((0 : Int32) * (3 : Int32)) + rk o0 o1 jb) = 1 ∨ (((0 : Int32) * (3 : Int32)) + rk o0 o1 jb) = 2 := by
  rcases hp with ⟨rfl, rfl, rfl⟩ | ⟨rfl, rfl, rfl⟩ | ⟨rfl, rfl, rfl⟩ | ⟨rfl, rfl, rfl⟩ | ⟨rfl, rfl, rfl⟩ | ⟨rfl, rfl, rfl⟩ <;> rcases hj with rfl | rfl | rfl <;> decide
theorem own_plr6 {o0 o1 o2 jb kk : Int32} (hp : Perm3 o0 o1 o2) (hj : jb = 0 ∨ jb = 1 ∨ jb = 2) (hk : kk = 0 ∨ kk = 1) : ((kk * (3 : Int32)) + rk o0 o1 jb) = 0 ∨ ((kk * (3 : Int32)) + rk o0 o1 jb) = 1 ∨ ((kk * (3 : Int32)) + rk o0 o1 jb) = 2 ∨ ((kk * (3 : Int32)) + rk o0 o1 jb) = 3 ∨ ((kk * (3 : Int32)) + rk o0 o1 jb) = 4 ∨ ((kk * (3 : Int32)) + rk o0 o1 jb) = 5 := by
  rcases hp with ⟨rfl, rfl, rfl⟩ | ⟨rfl, rfl, rfl⟩ | ⟨rfl, rfl, rfl⟩ | ⟨rfl, rfl, rfl⟩ | ⟨rfl, rfl, rfl⟩ | ⟨rfl, rfl, rfl⟩ <;> rcases hj with rfl | rfl | rfl <;> rcases hk with rfl | rfl <;> decide
theorem own_qq {o0 o1 o2 jb kk : Int32} (hp : Perm3 o0 o1 o2) (hj : jb = 0 ∨ jb = 1 ∨ jb = 2) (hk : kk = 0 ∨ kk = 1) (p0 p1 p2 : Int32) : qq ((kk * (3 : Int32)) + rk o0 o1 jb) (sel o0 p0 p1 p2) (sel o1 p0 p1 p2) (sel o2 p0 p1 p2) = sel jb p0 p1 p2 := by
  rcases hp with ⟨rfl, rfl, rfl⟩ | ⟨rfl, rfl, rfl⟩ | ⟨rfl, rfl, rfl⟩ | ⟨rfl, rfl, rfl⟩ | ⟨rfl, rfl, rfl⟩ | ⟨rfl, rfl, rfl⟩ <;> rcases hj with rfl | rfl | rfl <;> rcases hk with rfl | rfl <;> rfl
theorem own_put4 {Z : State} {h : Heap} {a : Addr} {k : ClassId} {z pl q n1_ n2_ n3_ y0 y1 y2 : Int32} {dv : Value} (hpl : pl = 0 ∨ pl = 1 ∨ pl = 2) (F : Arv Z h a k .int z ((tl4 n1_ n2_ n3_ y0 y1 y2).set ((4 : Int32) + pl).toNatClampNeg (.int q)) dv) : Arv Z h a k .int z (tl4 n1_ n2_ n3_ (uu pl (0 : Int32) q y0) (uu pl (1 : Int32) q y1) (uu pl (2 : Int32) q y2)) dv := by
  rcases hpl with rfl | rfl | rfl <;> exact F
theorem own_pb4 {pl : Int32} (hpl : pl = 0 ∨ pl = 1 ∨ pl = 2) : ¬ ((4 : Int32) + pl) < (0 : Int32) ∧ ((4 : Int32) + pl) < (8 : Int32) := by rcases hpl with rfl | rfl | rfl <;> decide
theorem own_pn4 {pl : Int32} (hpl : pl = 0 ∨ pl = 1 ∨ pl = 2) : ((4 : Int32) + pl).toNatClampNeg < 8 := by rcases hpl with rfl | rfl | rfl <;> decide
theorem dp106_13_0 : decode prog_106_method_13_code 0 = .ok (.aload_n 0, 1) := by decide +kernel
theorem dp106_13_1 : decode prog_106_method_13_code 1 = .ok (.getfield 47, 3) := by decide +kernel
theorem dp106_13_4 : decode prog_106_method_13_code 4 = .ok (.iload_n 1, 1) := by decide +kernel
theorem dp106_13_5 : decode prog_106_method_13_code 5 = .ok (.iadd, 1) := by decide +kernel
theorem dp106_13_6 : decode prog_106_method_13_code 6 = .ok (.istore_n 3, 1) := by decide +kernel
theorem dp106_13_7 : decode prog_106_method_13_code 7 = .ok (.aload_n 0, 1) := by decide +kernel
theorem dp106_13_8 : decode prog_106_method_13_code 8 = .ok (.getfield 50, 3) := by decide +kernel
theorem dp106_13_11 : decode prog_106_method_13_code 11 = .ok (.iload_n 3, 1) := by decide +kernel
theorem dp106_13_12 : decode prog_106_method_13_code 12 = .ok (.iload_n 2, 1) := by decide +kernel
theorem dp106_13_13 : decode prog_106_method_13_code 13 = .ok (.ifCond .eq 16, 3) := by decide +kernel
theorem dp106_13_16 : decode prog_106_method_13_code 16 = .ok (.aload_n 0, 1) := by decide +kernel
theorem dp106_13_17 : decode prog_106_method_13_code 17 = .ok (.getfield 21, 3) := by decide +kernel
theorem dp106_13_20 : decode prog_106_method_13_code 20 = .ok (.aload_n 0, 1) := by decide +kernel
theorem dp106_13_21 : decode prog_106_method_13_code 21 = .ok (.iload_n 1, 1) := by decide +kernel
theorem dp106_13_22 : decode prog_106_method_13_code 22 = .ok (.invokevirtual 68, 3) := by decide +kernel
theorem dp106_13_25 : decode prog_106_method_13_code 25 = .ok (.iaload, 1) := by decide +kernel
theorem dp106_13_26 : decode prog_106_method_13_code 26 = .ok (.goto 5, 3) := by decide +kernel
theorem dp106_13_31 : decode prog_106_method_13_code 31 = .ok (.iastore, 1) := by decide +kernel
theorem dp106_13_32 : decode prog_106_method_13_code 32 = .ok (.aload_n 0, 1) := by decide +kernel
theorem dp106_13_33 : decode prog_106_method_13_code 33 = .ok (.getfield 76, 3) := by decide +kernel
theorem dp106_13_36 : decode prog_106_method_13_code 36 = .ok (.ifnull 15, 3) := by decide +kernel
theorem dp106_13_51 : decode prog_106_method_13_code 51 = .ok (.iload_n 3, 1) := by decide +kernel
theorem dp106_13_52 : decode prog_106_method_13_code 52 = .ok (.iconst 2, 1) := by decide +kernel
theorem dp106_13_53 : decode prog_106_method_13_code 53 = .ok (.idiv, 1) := by decide +kernel
theorem dp106_13_54 : decode prog_106_method_13_code 54 = .ok (.istore 4, 2) := by decide +kernel
theorem dp106_13_56 : decode prog_106_method_13_code 56 = .ok (.iload 4, 2) := by decide +kernel
theorem dp106_13_58 : decode prog_106_method_13_code 58 = .ok (.iconst 1, 1) := by decide +kernel
theorem dp106_13_59 : decode prog_106_method_13_code 59 = .ok (.if_icmp .lt 21, 3) := by decide +kernel
theorem dp106_13_62 : decode prog_106_method_13_code 62 = .ok (.aload_n 0, 1) := by decide +kernel
theorem dp106_13_63 : decode prog_106_method_13_code 63 = .ok (.iload 4, 2) := by decide +kernel
theorem dp106_13_65 : decode prog_106_method_13_code 65 = .ok (.invokevirtual 98, 3) := by decide +kernel
theorem dp106_13_68 : decode prog_106_method_13_code 68 = .ok (.ifCond .eq 12, 3) := by decide +kernel
theorem dp106_13_71 : decode prog_106_method_13_code 71 = .ok (.iload 4, 2) := by decide +kernel
theorem dp106_13_73 : decode prog_106_method_13_code 73 = .ok (.iconst 2, 1) := by decide +kernel
theorem dp106_13_74 : decode prog_106_method_13_code 74 = .ok (.idiv, 1) := by decide +kernel
theorem dp106_13_75 : decode prog_106_method_13_code 75 = .ok (.istore 4, 2) := by decide +kernel
theorem dp106_13_77 : decode prog_106_method_13_code 77 = .ok (.goto (-21), 3) := by decide +kernel
theorem dp106_13_80 : decode prog_106_method_13_code 80 = .ok (.return_, 1) := by decide +kernel
theorem pd__I_Z_855 : parseMethodDescriptor "(I)Z" = some ⟨[.int], some .boolean⟩ := by decide +kernel
set_option maxRecDepth 65536 in
set_option maxHeartbeats 40000000 in
theorem lift4_1 {p : Program} {l : Launch} {e : Env} {s : State} {m : MethodId} {args : Array Value} {below : List Frame} {meth : Method} {c : Code}  (Z : State) (a0 : Array Value) (hw : ∀ d ∈ tables_1, d.before a0 Z = true) (hx : p.tables.exec = Jvm.exec) (hby : c.code = prog_106_method_13_code) (hlk : meth.locks = false) (hret : meth.sig.returnType = none) (hml : c.maxLocals = 5) (hnm : meth.name = "set") (hown : s.vm.findClass "com/example/redoubt/redoubt/policies/FirstFitQueue" = some m.cls) (hZ : Z.Warmed39 s.vm) (a aF : Addr) (kF : ClassId) (v1 v3 n1_ n2_ n3_ y0 y1 y2 : Int32) (h0 hh : Heap) (n0 : Nat) (T0 : State) (locs0 : List Loc) (X0 : Stand p l e ({ frames := 2, cells := 0, slots := 0, locals := 28 } : Room) s m args below meth c T0 locs0 0 0) (e0 : T0.heap = hh) (N0 : Fr n0 locs0) (Z0 : n0 ≤ hh.size) (Ea : Exa Z hh a "com/example/redoubt/redoubt/policies/FirstFitQueue") (Ff : Fld Z hh a "com/example/redoubt/redoubt/policies/FirstFitQueue" "fewest" "[I" (.ref aF)) (VF : Arv Z hh aF kF .int (8 : Int32) (tl4 n1_ n2_ n3_ y0 y1 y2) (.int (0 : Int32))) (lF : n0 ≤ aF) (naF : a ≠ aF) (K0 : Keep h0 hh [aF]) (hn2 : n2_ = (imin y0 y1)) (hn3 : n3_ = (imin y2 (2147483647 : Int32))) :
    Goes p e below (EN s (QSe4 Z aF kF y0 y1 y2 h0 n0) ({ frames := 2, cells := 0, slots := 0, locals := 28 } : Room).cells ({ frames := 2, cells := 0, slots := 0, locals := 28 } : Room).slots) (T0.setTop (mkF m 56 #[rv a, iv v1, iv (1 : Int32), iv v3, iv (1 : Int32)] [])) := by
  show Gs p e below _ T0 m 56 #[rv a, iv v1, iv (1 : Int32), iv v3, iv (1 : Int32)] []
  refine giload X0 hx (hb hby dp106_13_56) rfl ?_
  refine giconst X0 hx (hb hby dp106_13_58) ?_
  refine gicmpNo X0 hx (hb hby dp106_13_59) (by decide) ?_
  refine galoadN X0 hx (hb hby dp106_13_62) rfl rfl ?_
  refine giload X0 hx (hb hby dp106_13_63) rfl ?_
  obtain ⟨cc1, qa1, qb1⟩ := Exa.cell Ea
  obtain ⟨_, _, ⟨T1, L1, k1, n1⟩, -, X1, ⟨Lc1, hQ1, l1, y1, z1⟩, st1⟩ := X0.privateBack hx (y := mN30) hown (mvT hZ (hwk hw 223 rfl)) (mvT hZ (hwk hw 224 rfl)) (selP (y := mN30) (as := #[]) (mvT hZ (hwk hw 145 rfl)) (mvP hZ (hwk hw 225 rfl)) (mvT hZ (hwk hw 224 rfl)) (by decide)) (Cond.privateMethod_at (mvP hZ (hwk hw 225 rfl) (args := #[]))) (mvT hZ (hwk hw 226 rfl)) (by decide) (backOf (W := 0) (rmLf l Z a0 hw [] a aF kF (8 : Int32) (tl4 n1_ n2_ n3_ y0 y1 y2) (1 : Int32) n2_ n3_ n1_ 2 3 1 hh n0 Z0 Ff VF lF naF (by decide) (by decide) (by decide) (by decide) (by decide) (by decide) rfl rfl rfl (by show _ < 8; decide)) hZ (hwk hw 226 rfl) (hwk hw 146 rfl) (by decide) (by decide)) (g := (mkF m 65 #[rv a, iv v1, iv (1 : Int32), iv v3, iv (1 : Int32)] [(.int (1 : Int32)), (.ref a)])) rfl (by rw [hml]; rfl) (Steps.refl _) (a := a) (by rw [e0]; exact qa1) qb1 (argsL := [(.int (1 : Int32))]) (rest := []) (lenOf pd__I_Z_855 rfl) rfl (by show 2 * 0 + _ ≤ _; exact Nat.le_of_eq rfl) (hb hby dp106_13_65) (fun _ _ => ⟨rfl, e0, (by decide : 0 + 0 ≤ 0), (by decide : 0 + 0 ≤ 0)⟩)
  dsimp only [Pt.U, Pt.locs, Pt.cells, Pt.slots] at X1 l1 y1 z1 st1 hQ1
  subst l1 y1 z1
  obtain ⟨r1, rfl, N1q, K1, hr1, VF1⟩ := hQ1
  have KK2 := K0.trans K1 (allS (Or.inl (List.mem_of_getElem? (i := 0) rfl)) all0)
  have Z1 : n0 ≤ T1.heap.size := Nat.le_trans Z0 K1.1
  have VG1 : Arv Z T1.heap aF kF .int (8 : Int32) (tl4 (imin n2_ n3_) n2_ n3_ y0 y1 y2) (.int (0 : Int32)) := VF1
  have N1 := Fr.app N0 N1q
  refine Goes.sts st1 ?_
  show Gs p e below _ T1 m 68 #[rv a, iv v1, iv (1 : Int32), iv v3, iv (1 : Int32)] [(.int r1)]
  rcases hr1 with ⟨cL1, rfl⟩ | ⟨cL1, rfl⟩
  · show Gs p e below _ T1 m 68 #[rv a, iv v1, iv (1 : Int32), iv v3, iv (1 : Int32)] [(.int (0 : Int32))]
    refine gifYes X1 hx (pc := 68) (pc' := 80) (hb hby dp106_13_68) (by decide) (by decide) (by decide) ?_
    subst hn3 hn2 cL1
    refine Goes.retV X1 hx hret (hb hby dp106_13_80) (lvN X1 hlk (fun _ => rfl) ?_ (by decide) (by decide))
    exact ⟨rfl, N1, KK2, VG1⟩
  · show Gs p e below _ T1 m 68 #[rv a, iv v1, iv (1 : Int32), iv v3, iv (1 : Int32)] [(.int (1 : Int32))]
    refine gifNo X1 hx (hb hby dp106_13_68) (by decide) ?_
    refine giload X1 hx (hb hby dp106_13_71) rfl ?_
    refine giconst X1 hx (hb hby dp106_13_73) ?_
    refine Goes.st (fun tg kg => XS.idiv X1.here hx rfl (hb hby dp106_13_74) rfl (by decide) kg) ?_
    show Gs p e below _ T1 m 75 #[rv a, iv v1, iv (1 : Int32), iv v3, iv (1 : Int32)] [(.int ((1 : Int32) / (2 : Int32)))]
    rw [show ((1 : Int32) / (2 : Int32)) = (0 : Int32) from by decide]
    show Gs p e below _ T1 m 75 #[rv a, iv v1, iv (1 : Int32), iv v3, iv (1 : Int32)] [(.int (0 : Int32))]
    refine gistore X1 hx (hb hby dp106_13_75) trivial (l' := #[rv a, iv v1, iv (1 : Int32), iv v3, iv (0 : Int32)]) rfl ?_
    refine ggoto X1 hx (pc := 77) (pc' := 56) (hb hby dp106_13_77) (by decide) (by decide) ?_
    show Gs p e below _ T1 m 56 #[rv a, iv v1, iv (1 : Int32), iv v3, iv (0 : Int32)] []
    refine giload X1 hx (hb hby dp106_13_56) rfl ?_
    refine giconst X1 hx (hb hby dp106_13_58) ?_
    refine gicmpYes X1 hx (pc := 59) (pc' := 80) (hb hby dp106_13_59) (by decide) (by decide) (by decide) ?_
    subst hn3 hn2
    refine Goes.retV X1 hx hret (hb hby dp106_13_80) (lvN X1 hlk (fun _ => rfl) ?_ (by decide) (by decide))
    exact ⟨rfl, N1, KK2, VG1⟩
set_option maxRecDepth 65536 in
set_option maxHeartbeats 40000000 in
theorem lift4_2 {p : Program} {l : Launch} {e : Env} {s : State} {m : MethodId} {args : Array Value} {below : List Frame} {meth : Method} {c : Code}  (Z : State) (a0 : Array Value) (hw : ∀ d ∈ tables_1, d.before a0 Z = true) (hx : p.tables.exec = Jvm.exec) (hby : c.code = prog_106_method_13_code) (hlk : meth.locks = false) (hret : meth.sig.returnType = none) (hml : c.maxLocals = 5) (hnm : meth.name = "set") (hown : s.vm.findClass "com/example/redoubt/redoubt/policies/FirstFitQueue" = some m.cls) (hZ : Z.Warmed39 s.vm) (a aF : Addr) (kF : ClassId) (v1 v3 n1_ n2_ n3_ y0 y1 y2 : Int32) (h0 hh : Heap) (n0 : Nat) (T0 : State) (locs0 : List Loc) (X0 : Stand p l e ({ frames := 2, cells := 0, slots := 0, locals := 28 } : Room) s m args below meth c T0 locs0 0 0) (e0 : T0.heap = hh) (N0 : Fr n0 locs0) (Z0 : n0 ≤ hh.size) (Ea : Exa Z hh a "com/example/redoubt/redoubt/policies/FirstFitQueue") (Ff : Fld Z hh a "com/example/redoubt/redoubt/policies/FirstFitQueue" "fewest" "[I" (.ref aF)) (VF : Arv Z hh aF kF .int (8 : Int32) (tl4 n1_ n2_ n3_ y0 y1 y2) (.int (0 : Int32))) (lF : n0 ≤ aF) (naF : a ≠ aF) (K0 : Keep h0 hh [aF]) (hn1 : n1_ = (imin n2_ n3_)) (hn3 : n3_ = (imin y2 (2147483647 : Int32))) :
    Goes p e below (EN s (QSe4 Z aF kF y0 y1 y2 h0 n0) ({ frames := 2, cells := 0, slots := 0, locals := 28 } : Room).cells ({ frames := 2, cells := 0, slots := 0, locals := 28 } : Room).slots) (T0.setTop (mkF m 56 #[rv a, iv v1, iv (1 : Int32), iv v3, iv (2 : Int32)] [])) := by
  show Gs p e below _ T0 m 56 #[rv a, iv v1, iv (1 : Int32), iv v3, iv (2 : Int32)] []
  refine giload X0 hx (hb hby dp106_13_56) rfl ?_
  refine giconst X0 hx (hb hby dp106_13_58) ?_
  refine gicmpNo X0 hx (hb hby dp106_13_59) (by decide) ?_
  refine galoadN X0 hx (hb hby dp106_13_62) rfl rfl ?_
  refine giload X0 hx (hb hby dp106_13_63) rfl ?_
  obtain ⟨cc1, qa1, qb1⟩ := Exa.cell Ea
  obtain ⟨_, _, ⟨T1, L1, k1, n1⟩, -, X1, ⟨Lc1, hQ1, l1, y1, z1⟩, st1⟩ := X0.privateBack hx (y := mN30) hown (mvT hZ (hwk hw 223 rfl)) (mvT hZ (hwk hw 224 rfl)) (selP (y := mN30) (as := #[]) (mvT hZ (hwk hw 145 rfl)) (mvP hZ (hwk hw 225 rfl)) (mvT hZ (hwk hw 224 rfl)) (by decide)) (Cond.privateMethod_at (mvP hZ (hwk hw 225 rfl) (args := #[]))) (mvT hZ (hwk hw 226 rfl)) (by decide) (backOf (W := 0) (rmLf l Z a0 hw [] a aF kF (8 : Int32) (tl4 n1_ n2_ n3_ y0 y1 y2) (2 : Int32) y0 y1 n2_ 4 5 2 hh n0 Z0 Ff VF lF naF (by decide) (by decide) (by decide) (by decide) (by decide) (by decide) rfl rfl rfl (by show _ < 8; decide)) hZ (hwk hw 226 rfl) (hwk hw 146 rfl) (by decide) (by decide)) (g := (mkF m 65 #[rv a, iv v1, iv (1 : Int32), iv v3, iv (2 : Int32)] [(.int (2 : Int32)), (.ref a)])) rfl (by rw [hml]; rfl) (Steps.refl _) (a := a) (by rw [e0]; exact qa1) qb1 (argsL := [(.int (2 : Int32))]) (rest := []) (lenOf pd__I_Z_855 rfl) rfl (by show 2 * 0 + _ ≤ _; exact Nat.le_of_eq rfl) (hb hby dp106_13_65) (fun _ _ => ⟨rfl, e0, (by decide : 0 + 0 ≤ 0), (by decide : 0 + 0 ≤ 0)⟩)
  dsimp only [Pt.U, Pt.locs, Pt.cells, Pt.slots] at X1 l1 y1 z1 st1 hQ1
  subst l1 y1 z1
  obtain ⟨r1, rfl, N1q, K1, hr1, VF1⟩ := hQ1
  have KK2 := K0.trans K1 (allS (Or.inl (List.mem_of_getElem? (i := 0) rfl)) all0)
  have Z1 : n0 ≤ T1.heap.size := Nat.le_trans Z0 K1.1
  have VG1 : Arv Z T1.heap aF kF .int (8 : Int32) (tl4 n1_ (imin y0 y1) n3_ y0 y1 y2) (.int (0 : Int32)) := VF1
  have N1 := Fr.app N0 N1q
  refine Goes.sts st1 ?_
  show Gs p e below _ T1 m 68 #[rv a, iv v1, iv (1 : Int32), iv v3, iv (2 : Int32)] [(.int r1)]
  rcases hr1 with ⟨cL1, rfl⟩ | ⟨cL1, rfl⟩
  · show Gs p e below _ T1 m 68 #[rv a, iv v1, iv (1 : Int32), iv v3, iv (2 : Int32)] [(.int (0 : Int32))]
    refine gifYes X1 hx (pc := 68) (pc' := 80) (hb hby dp106_13_68) (by decide) (by decide) (by decide) ?_
    subst hn3 cL1 hn1
    refine Goes.retV X1 hx hret (hb hby dp106_13_80) (lvN X1 hlk (fun _ => rfl) ?_ (by decide) (by decide))
    exact ⟨rfl, N1, KK2, VG1⟩
  · show Gs p e below _ T1 m 68 #[rv a, iv v1, iv (1 : Int32), iv v3, iv (2 : Int32)] [(.int (1 : Int32))]
    refine gifNo X1 hx (hb hby dp106_13_68) (by decide) ?_
    refine giload X1 hx (hb hby dp106_13_71) rfl ?_
    refine giconst X1 hx (hb hby dp106_13_73) ?_
    refine Goes.st (fun tg kg => XS.idiv X1.here hx rfl (hb hby dp106_13_74) rfl (by decide) kg) ?_
    show Gs p e below _ T1 m 75 #[rv a, iv v1, iv (1 : Int32), iv v3, iv (2 : Int32)] [(.int ((2 : Int32) / (2 : Int32)))]
    rw [show ((2 : Int32) / (2 : Int32)) = (1 : Int32) from by decide]
    show Gs p e below _ T1 m 75 #[rv a, iv v1, iv (1 : Int32), iv v3, iv (2 : Int32)] [(.int (1 : Int32))]
    refine gistore X1 hx (hb hby dp106_13_75) trivial (l' := #[rv a, iv v1, iv (1 : Int32), iv v3, iv (1 : Int32)]) rfl ?_
    refine ggoto X1 hx (pc := 77) (pc' := 56) (hb hby dp106_13_77) (by decide) (by decide) ?_
    show Gs p e below _ T1 m 56 #[rv a, iv v1, iv (1 : Int32), iv v3, iv (1 : Int32)] []
    have f3 := (Ea.keep K1)
    have f4 := (Ff.keep K1 (ninS naF nin0))
    exact lift4_1 Z a0 hw hx hby hlk hret hml hnm hown hZ a aF kF v1 v3 n1_ (imin y0 y1) n3_ y0 y1 y2 h0 T1.heap n0 T1 _ X1 rfl N1 Z1 f3 f4 VG1 lF naF KK2 rfl hn3
set_option maxRecDepth 65536 in
set_option maxHeartbeats 40000000 in
theorem lift4_3 {p : Program} {l : Launch} {e : Env} {s : State} {m : MethodId} {args : Array Value} {below : List Frame} {meth : Method} {c : Code}  (Z : State) (a0 : Array Value) (hw : ∀ d ∈ tables_1, d.before a0 Z = true) (hx : p.tables.exec = Jvm.exec) (hby : c.code = prog_106_method_13_code) (hlk : meth.locks = false) (hret : meth.sig.returnType = none) (hml : c.maxLocals = 5) (hnm : meth.name = "set") (hown : s.vm.findClass "com/example/redoubt/redoubt/policies/FirstFitQueue" = some m.cls) (hZ : Z.Warmed39 s.vm) (a aF : Addr) (kF : ClassId) (v1 v3 n1_ n2_ n3_ y0 y1 y2 : Int32) (h0 hh : Heap) (n0 : Nat) (T0 : State) (locs0 : List Loc) (X0 : Stand p l e ({ frames := 2, cells := 0, slots := 0, locals := 28 } : Room) s m args below meth c T0 locs0 0 0) (e0 : T0.heap = hh) (N0 : Fr n0 locs0) (Z0 : n0 ≤ hh.size) (Ea : Exa Z hh a "com/example/redoubt/redoubt/policies/FirstFitQueue") (Ff : Fld Z hh a "com/example/redoubt/redoubt/policies/FirstFitQueue" "fewest" "[I" (.ref aF)) (VF : Arv Z hh aF kF .int (8 : Int32) (tl4 n1_ n2_ n3_ y0 y1 y2) (.int (0 : Int32))) (lF : n0 ≤ aF) (naF : a ≠ aF) (K0 : Keep h0 hh [aF]) (hn1 : n1_ = (imin n2_ n3_)) (hn2 : n2_ = (imin y0 y1)) :
    Goes p e below (EN s (QSe4 Z aF kF y0 y1 y2 h0 n0) ({ frames := 2, cells := 0, slots := 0, locals := 28 } : Room).cells ({ frames := 2, cells := 0, slots := 0, locals := 28 } : Room).slots) (T0.setTop (mkF m 56 #[rv a, iv v1, iv (1 : Int32), iv v3, iv (3 : Int32)] [])) := by
  show Gs p e below _ T0 m 56 #[rv a, iv v1, iv (1 : Int32), iv v3, iv (3 : Int32)] []
  refine giload X0 hx (hb hby dp106_13_56) rfl ?_
  refine giconst X0 hx (hb hby dp106_13_58) ?_
  refine gicmpNo X0 hx (hb hby dp106_13_59) (by decide) ?_
  refine galoadN X0 hx (hb hby dp106_13_62) rfl rfl ?_
  refine giload X0 hx (hb hby dp106_13_63) rfl ?_
  obtain ⟨cc1, qa1, qb1⟩ := Exa.cell Ea
  obtain ⟨_, _, ⟨T1, L1, k1, n1⟩, -, X1, ⟨Lc1, hQ1, l1, y1, z1⟩, st1⟩ := X0.privateBack hx (y := mN30) hown (mvT hZ (hwk hw 223 rfl)) (mvT hZ (hwk hw 224 rfl)) (selP (y := mN30) (as := #[]) (mvT hZ (hwk hw 145 rfl)) (mvP hZ (hwk hw 225 rfl)) (mvT hZ (hwk hw 224 rfl)) (by decide)) (Cond.privateMethod_at (mvP hZ (hwk hw 225 rfl) (args := #[]))) (mvT hZ (hwk hw 226 rfl)) (by decide) (backOf (W := 0) (rmLf l Z a0 hw [] a aF kF (8 : Int32) (tl4 n1_ n2_ n3_ y0 y1 y2) (3 : Int32) y2 (2147483647 : Int32) n3_ 6 7 3 hh n0 Z0 Ff VF lF naF (by decide) (by decide) (by decide) (by decide) (by decide) (by decide) rfl rfl rfl (by show _ < 8; decide)) hZ (hwk hw 226 rfl) (hwk hw 146 rfl) (by decide) (by decide)) (g := (mkF m 65 #[rv a, iv v1, iv (1 : Int32), iv v3, iv (3 : Int32)] [(.int (3 : Int32)), (.ref a)])) rfl (by rw [hml]; rfl) (Steps.refl _) (a := a) (by rw [e0]; exact qa1) qb1 (argsL := [(.int (3 : Int32))]) (rest := []) (lenOf pd__I_Z_855 rfl) rfl (by show 2 * 0 + _ ≤ _; exact Nat.le_of_eq rfl) (hb hby dp106_13_65) (fun _ _ => ⟨rfl, e0, (by decide : 0 + 0 ≤ 0), (by decide : 0 + 0 ≤ 0)⟩)
  dsimp only [Pt.U, Pt.locs, Pt.cells, Pt.slots] at X1 l1 y1 z1 st1 hQ1
  subst l1 y1 z1
  obtain ⟨r1, rfl, N1q, K1, hr1, VF1⟩ := hQ1
  have KK2 := K0.trans K1 (allS (Or.inl (List.mem_of_getElem? (i := 0) rfl)) all0)
  have Z1 : n0 ≤ T1.heap.size := Nat.le_trans Z0 K1.1
  have VG1 : Arv Z T1.heap aF kF .int (8 : Int32) (tl4 n1_ n2_ (imin y2 (2147483647 : Int32)) y0 y1 y2) (.int (0 : Int32)) := VF1
  have N1 := Fr.app N0 N1q
  refine Goes.sts st1 ?_
  show Gs p e below _ T1 m 68 #[rv a, iv v1, iv (1 : Int32), iv v3, iv (3 : Int32)] [(.int r1)]
  rcases hr1 with ⟨cL1, rfl⟩ | ⟨cL1, rfl⟩
  · show Gs p e below _ T1 m 68 #[rv a, iv v1, iv (1 : Int32), iv v3, iv (3 : Int32)] [(.int (0 : Int32))]
    refine gifYes X1 hx (pc := 68) (pc' := 80) (hb hby dp106_13_68) (by decide) (by decide) (by decide) ?_
    subst hn2 cL1 hn1
    refine Goes.retV X1 hx hret (hb hby dp106_13_80) (lvN X1 hlk (fun _ => rfl) ?_ (by decide) (by decide))
    exact ⟨rfl, N1, KK2, VG1⟩
  · show Gs p e below _ T1 m 68 #[rv a, iv v1, iv (1 : Int32), iv v3, iv (3 : Int32)] [(.int (1 : Int32))]
    refine gifNo X1 hx (hb hby dp106_13_68) (by decide) ?_
    refine giload X1 hx (hb hby dp106_13_71) rfl ?_
    refine giconst X1 hx (hb hby dp106_13_73) ?_
    refine Goes.st (fun tg kg => XS.idiv X1.here hx rfl (hb hby dp106_13_74) rfl (by decide) kg) ?_
    show Gs p e below _ T1 m 75 #[rv a, iv v1, iv (1 : Int32), iv v3, iv (3 : Int32)] [(.int ((3 : Int32) / (2 : Int32)))]
    rw [show ((3 : Int32) / (2 : Int32)) = (1 : Int32) from by decide]
    show Gs p e below _ T1 m 75 #[rv a, iv v1, iv (1 : Int32), iv v3, iv (3 : Int32)] [(.int (1 : Int32))]
    refine gistore X1 hx (hb hby dp106_13_75) trivial (l' := #[rv a, iv v1, iv (1 : Int32), iv v3, iv (1 : Int32)]) rfl ?_
    refine ggoto X1 hx (pc := 77) (pc' := 56) (hb hby dp106_13_77) (by decide) (by decide) ?_
    show Gs p e below _ T1 m 56 #[rv a, iv v1, iv (1 : Int32), iv v3, iv (1 : Int32)] []
    have f3 := (Ea.keep K1)
    have f4 := (Ff.keep K1 (ninS naF nin0))
    exact lift4_1 Z a0 hw hx hby hlk hret hml hnm hown hZ a aF kF v1 v3 n1_ n2_ (imin y2 (2147483647 : Int32)) y0 y1 y2 h0 T1.heap n0 T1 _ X1 rfl N1 Z1 f3 f4 VG1 lF naF KK2 hn2 rfl
theorem pd__I_I_7ab : parseMethodDescriptor "(I)I" = some ⟨[.int], some .int⟩ := by decide +kernel
theorem ef_Se1 (m : MethodId) (x0 : Addr) (x1 : Int32) (x2 : Int32) : entryFrame m #[(.ref x0), (.int x1), (.int x2)] 5 = mkF m 0 #[rv x0, iv x1, iv x2, .unset, .unset] [] := by first | (simp [entryFrame, mkF, argsToLocals, Value.category]; done) | rfl
set_option maxRecDepth 65536 in
set_option maxHeartbeats 40000000 in
theorem rmSe1 (l : Launch) (Z : State) (a0 : Array Value) (hw : ∀ d ∈ tables_1, d.before a0 Z = true) (ws : List Jvm.Cond) (a aO aR aP aF : Addr) (kO kP kF : ClassId) (o0 o1 o2 q0 q1 q2 pl y0 y1 y2 : Int32) (h0 : Heap) (n0 : Nat) (Z0 : n0 ≤ h0.size) (Ea : Exa Z h0 a "com/example/redoubt/redoubt/policies/FirstFitQueue") (Fo : Fld Z h0 a "com/example/redoubt/redoubt/policies/FirstFitQueue" "order" "[I" (.ref aO)) (Ao : Arv Z h0 aO kO .int (3 : Int32) [(.int o0), (.int o1), (.int o2)] (.int (0 : Int32))) (Fp : Fld Z h0 a "com/example/redoubt/redoubt/policies/FirstFitQueue" "procs" "[I" (.ref aP)) (Ap : Arv Z h0 aP kP .int (3 : Int32) [(.int q0), (.int q1), (.int q2)] (.int (0 : Int32))) (Fl_ : Fld Z h0 a "com/example/redoubt/redoubt/policies/FirstFitQueue" "leaves" "I" (.int (4 : Int32))) (Ff : Fld Z h0 a "com/example/redoubt/redoubt/policies/FirstFitQueue" "fewest" "[I" (.ref aF)) (Fh : Fld Z h0 a "com/example/redoubt/redoubt/policies/FirstFitQueue" "shortest" "[D" .null) (VF : Arv Z h0 aF kF .int (8 : Int32) (tr4 y0 y1 y2) (.int (0 : Int32))) (lF : n0 ≤ aF) (naF : a ≠ aF) (nPF : aP ≠ aF) (nOF : aO ≠ aF) (nRF : aR ≠ aF) (hpl : pl = 0 ∨ pl = 1 ∨ pl = 2) :
    MetFree l mN33 (head1 (Jvm.Cond.code mN33 prog_106_method_13_code 5 none :: ws) ({ frames := 2, cells := 0, slots := 0, locals := 28 } : Room)) (fun aa U => aa = #[(.ref a), (.int pl), (.int (1 : Int32))] ∧ Z.Warmed39 U.vm ∧ U.heap = h0) (fun _ _ _ _ _ => True) (fun _ u1_ o_ u2_ => ∃ v_ l_, o_ = .returned v_ ∧ QSe4 Z aF kF (uu pl (0 : Int32) (qq pl q0 q1 q2) y0) (uu pl (1 : Int32) (qq pl q0 q1 q2) y1) (uu pl (2 : Int32) (qq pl q0 q1 q2) y2) h0 n0 v_ u2_.heap l_ ∧ FrameEnd u1_ o_ u2_ l_ ({ frames := 2, cells := 0, slots := 0, locals := 28 } : Room).cells ({ frames := 2, cells := 0, slots := 0, locals := 28 } : Room).slots) := by
  refine MetFree.of_bodySF (plainFor_of_name pn_com_example_redoubt_redoubt_policies_FirstFitQueue) hisR ?_
  intro p e s m args below meth c s₁ Bd hml0 hP hK
  obtain ⟨rfl, hZ, hh⟩ := hP
  have hx := Bd.exec
  have hby := Bd.bytes
  have hlk := BodyLoose.notSynchronized Bd
  have hret := Bd.returns
  have hml : c.maxLocals = 5 := hml0
  have hown : s.vm.findClass "com/example/redoubt/redoubt/policies/FirstFitQueue" = some m.cls := findClass_of_methodNamed Bd.named
  have hnm := (name_of_methodNamed Bd.named Bd.method).1
  have X0 : Stand p l e ({ frames := 2, cells := 0, slots := 0, locals := 28 } : Room) s m #[(.ref a), (.int pl), (.int (1 : Int32))] below meth c s₁ [] 0 0 := Stand.of_body Bd
  have e0 : s₁.heap = h0 := by rw [← hh, Bd.state]; rfl
  have N0 := Fr.nil n0
  refine Goes.st (E := (EN s (QSe4 Z aF kF (uu pl (0 : Int32) (qq pl q0 q1 q2) y0) (uu pl (1 : Int32) (qq pl q0 q1 q2) y1) (uu pl (2 : Int32) (qq pl q0 q1 q2) y2) h0 n0) ({ frames := 2, cells := 0, slots := 0, locals := 28 } : Room).cells ({ frames := 2, cells := 0, slots := 0, locals := 28 } : Room).slots)) (fun tg kg => castTop (ef_Se1 m a pl (1 : Int32)) kg) ?_
  have K0 : Keep h0 h0 [aF] := Keep.refl _ _
  show Gs p e below _ s₁ m 0 #[rv a, iv pl, iv (1 : Int32), .unset, .unset] []
  refine galoadN X0 hx (hb hby dp106_13_0) rfl rfl ?_
  obtain ⟨T1, X1, e1, st1⟩ := getF X0 hx hZ hown (host := "") (Or.inl (hwk hw 194 rfl)) Via.refl e0 Fl_ (g := (mkF m 1 #[rv a, iv pl, iv (1 : Int32), .unset, .unset] [(.ref a)])) rfl rfl (hb hby dp106_13_1)
  refine Goes.st st1 ?_
  refine giloadN X1 hx (hb hby dp106_13_4) rfl ?_
  refine giadd X1 hx (hb hby dp106_13_5) trivial ?_
  refine gistoreN X1 hx (hb hby dp106_13_6) trivial (l' := #[rv a, iv pl, iv (1 : Int32), iv ((4 : Int32) + pl), .unset]) rfl ?_
  refine galoadN X1 hx (hb hby dp106_13_7) rfl rfl ?_
  obtain ⟨T2, X2, e2, st2⟩ := getF X1 hx hZ hown (host := "") (Or.inl (hwk hw 196 rfl)) Via.refl e1 Ff (g := (mkF m 8 #[rv a, iv pl, iv (1 : Int32), iv ((4 : Int32) + pl), .unset] [(.ref a)])) rfl rfl (hb hby dp106_13_8)
  refine Goes.st st2 ?_
  refine giloadN X2 hx (hb hby dp106_13_11) rfl ?_
  refine giloadN X2 hx (hb hby dp106_13_12) rfl ?_
  show Gs p e below _ T2 m 13 #[rv a, iv pl, iv (1 : Int32), iv ((4 : Int32) + pl), .unset] [(.int (1 : Int32)), (.int ((4 : Int32) + pl)), (.ref aF)]
  refine gifNo X2 hx (hb hby dp106_13_13) (by decide) ?_
  refine galoadN X2 hx (hb hby dp106_13_16) rfl rfl ?_
  obtain ⟨T3, X3, e3, st3⟩ := getF X2 hx hZ hown (host := "") (Or.inl (hwk hw 157 rfl)) Via.refl e2 Fp (g := (mkF m 17 #[rv a, iv pl, iv (1 : Int32), iv ((4 : Int32) + pl), .unset] [(.ref a), (.int ((4 : Int32) + pl)), (.ref aF)])) rfl rfl (hb hby dp106_13_17)
  refine Goes.st st3 ?_
  refine galoadN X3 hx (hb hby dp106_13_20) rfl rfl ?_
  refine giloadN X3 hx (hb hby dp106_13_21) rfl ?_
  obtain ⟨cc4, qa4, qb4⟩ := Exa.cell Ea
  obtain ⟨_, _, ⟨T4, L4, k4, n4⟩, -, X4, ⟨Lc4, hQ4, l4, y4, z4⟩, st4⟩ := X3.privateBack hx (y := mN31) hown (mvT hZ (hwk hw 217 rfl)) (mvT hZ (hwk hw 218 rfl)) (selP (y := mN31) (as := #[]) (mvT hZ (hwk hw 145 rfl)) (mvP hZ (hwk hw 219 rfl)) (mvT hZ (hwk hw 218 rfl)) (by decide)) (Cond.privateMethod_at (mvP hZ (hwk hw 219 rfl) (args := #[]))) (mvT hZ (hwk hw 220 rfl)) (by decide) (backOf (W := 3) (rmRa l Z a0 hw [] a aO kO o0 o1 o2 pl h0 n0 Z0 Fo Ao (own_36 hpl)) hZ (hwk hw 220 rfl) (hwk hw 146 rfl) (by decide) (by decide)) (g := (mkF m 22 #[rv a, iv pl, iv (1 : Int32), iv ((4 : Int32) + pl), .unset] [(.int pl), (.ref a), (.ref aP), (.int ((4 : Int32) + pl)), (.ref aF)])) rfl (by rw [hml]; rfl) (Steps.refl _) (a := a) (by rw [e3]; exact qa4) qb4 (argsL := [(.int pl)]) (rest := [(.ref aP), (.int ((4 : Int32) + pl)), (.ref aF)]) (lenOf pd__I_I_7ab rfl) rfl (by show 2 * 0 + _ ≤ _; exact Nat.le_of_eq rfl) (hb hby dp106_13_22) (fun _ _ => ⟨rfl, e3, (by decide : 0 + 0 ≤ 0), (by decide : 0 + 0 ≤ 0)⟩)
  dsimp only [Pt.U, Pt.locs, Pt.cells, Pt.slots] at X4 l4 y4 z4 st4 hQ4
  subst l4 y4 z4
  obtain ⟨rfl, N4q, eh4⟩ := hQ4
  have N4 := Fr.app N0 N4q
  refine Goes.sts st4 ?_
  show Gs p e below _ T4 m 25 #[rv a, iv pl, iv (1 : Int32), iv ((4 : Int32) + pl), .unset] [(.int (r3 pl)), (.ref aP), (.int ((4 : Int32) + pl)), (.ref aF)]
  obtain ⟨cl5, Ar5, qk5, Sz5, qz5, Ha5, Gf5⟩ := id Ap
  have in5 := inb_of (j := (r3 pl)) Sz5 (own_r3b (own_36 hpl))
  refine Goes.st (fun tg kg => X4.iaload hx (j := (r3 pl)) (v := (.int (qq pl q0 q1 q2))) (by rw [eh4]; exact Ar5.1) (State.isArrayOf_alike hZ.alike Ar5.2.1) Ar5.2.2 in5 (Ha5.at in5 (own_r3g (own_36 hpl) _ _ _ _)) (g := (mkF m 25 #[rv a, iv pl, iv (1 : Int32), iv ((4 : Int32) + pl), .unset] [(.int (r3 pl)), (.ref aP), (.int ((4 : Int32) + pl)), (.ref aF)])) rfl rfl (hb hby dp106_13_25) tg kg) ?_
  refine ggoto X4 hx (pc := 26) (pc' := 31) (hb hby dp106_13_26) (by decide) (by decide) ?_
  show Gs p e below _ T4 m 31 #[rv a, iv pl, iv (1 : Int32), iv ((4 : Int32) + pl), .unset] [(.int (qq pl q0 q1 q2)), (.int ((4 : Int32) + pl)), (.ref aF)]
  obtain ⟨cl6, Ar6, qk6, Sz6, qz6, Ha6, Gf6⟩ := id VF
  obtain ⟨T6, h6, X6, e6, W6, st6⟩ := stI X4 hx hZ eh4 Ar6 (inb_of Sz6 (own_pb4 hpl)) (g := (mkF m 31 #[rv a, iv pl, iv (1 : Int32), iv ((4 : Int32) + pl), .unset] [(.int (qq pl q0 q1 q2)), (.int ((4 : Int32) + pl)), (.ref aF)])) rfl rfl (hb hby dp106_13_31)
  have N6 := Fr.snoc X6 N4 lF
  have V6 : Arv Z h6 aF kF .int (8 : Int32) (tl4 (imin (imin y0 y1) (imin y2 (2147483647 : Int32))) (imin y0 y1) (imin y2 (2147483647 : Int32)) (uu pl (0 : Int32) (qq pl q0 q1 q2) y0) (uu pl (1 : Int32) (qq pl q0 q1 q2) y1) (uu pl (2 : Int32) (qq pl q0 q1 q2) y2)) (.int (0 : Int32)) := own_put4 hpl (Arv.set Ar6 qk6 Sz6 qz6 Ha6 Gf6 rfl W6 ((4 : Int32) + pl).toNatClampNeg rfl (own_pn4 hpl))
  refine Goes.st st6 ?_
  have KK7 := K0.wr W6 (Or.inl (List.mem_of_getElem? (i := 0) rfl))
  have Z6 : n0 ≤ h6.size := by have := W6.size; have := Z0; omega
  show Gs p e below _ T6 m 32 #[rv a, iv pl, iv (1 : Int32), iv ((4 : Int32) + pl), .unset] []
  refine galoadN X6 hx (hb hby dp106_13_32) rfl rfl ?_
  have f9 := (Fh.other W6 (Or.inl naF))
  obtain ⟨T8, X8, e8, st8⟩ := getF X6 hx hZ hown (host := "") (Or.inl (hwk hw 221 rfl)) Via.refl e6 f9 (g := (mkF m 33 #[rv a, iv pl, iv (1 : Int32), iv ((4 : Int32) + pl), .unset] [(.ref a)])) rfl rfl (hb hby dp106_13_33)
  refine Goes.st st8 ?_
  show Gs p e below _ T8 m 36 #[rv a, iv pl, iv (1 : Int32), iv ((4 : Int32) + pl), .unset] [.null]
  refine Goes.st (fun tg kg => XS.ifnullYes X8.here hx rfl (pc0 := 36) (pc' := 51) rfl (hb hby dp106_13_36) rfl (by decide) (by decide) kg) ?_
  show Gs p e below _ T8 m 51 #[rv a, iv pl, iv (1 : Int32), iv ((4 : Int32) + pl), .unset] []
  refine giloadN X8 hx (hb hby dp106_13_51) rfl ?_
  refine giconst X8 hx (hb hby dp106_13_52) ?_
  refine Goes.st (fun tg kg => XS.idiv X8.here hx rfl (hb hby dp106_13_53) rfl (by decide) kg) ?_
  show Gs p e below _ T8 m 54 #[rv a, iv pl, iv (1 : Int32), iv ((4 : Int32) + pl), .unset] [(.int (((4 : Int32) + pl) / (2 : Int32)))]
  refine gistore X8 hx (hb hby dp106_13_54) trivial (l' := #[rv a, iv pl, iv (1 : Int32), iv ((4 : Int32) + pl), iv (((4 : Int32) + pl) / (2 : Int32))]) rfl ?_
  show Gs p e below _ T8 m 56 #[rv a, iv pl, iv (1 : Int32), iv ((4 : Int32) + pl), iv (((4 : Int32) + pl) / (2 : Int32))] []
  have f10 := (Ea.wr W6)
  have f11 := (Ff.other W6 (Or.inl naF))
  rcases hpl with rfl | rfl | rfl
  · rw [show (((4 : Int32) + (0 : Int32)) / (2 : Int32)) = (2 : Int32) from by decide]
    show Gs p e below _ T8 m 56 #[rv a, iv (0 : Int32), iv (1 : Int32), iv ((4 : Int32) + (0 : Int32)), iv (2 : Int32)] []
    exact lift4_2 Z a0 hw hx hby hlk hret hml hnm hown hZ a aF kF (0 : Int32) ((4 : Int32) + (0 : Int32)) (imin (imin y0 y1) (imin y2 (2147483647 : Int32))) (imin y0 y1) (imin y2 (2147483647 : Int32)) (uu (0 : Int32) (0 : Int32) (qq (0 : Int32) q0 q1 q2) y0) (uu (0 : Int32) (1 : Int32) (qq (0 : Int32) q0 q1 q2) y1) (uu (0 : Int32) (2 : Int32) (qq (0 : Int32) q0 q1 q2) y2) h0 h6 n0 T8 _ X8 e8 N6 Z6 f10 f11 V6 lF naF KK7 rfl rfl
  · rw [show (((4 : Int32) + (1 : Int32)) / (2 : Int32)) = (2 : Int32) from by decide]
    show Gs p e below _ T8 m 56 #[rv a, iv (1 : Int32), iv (1 : Int32), iv ((4 : Int32) + (1 : Int32)), iv (2 : Int32)] []
    exact lift4_2 Z a0 hw hx hby hlk hret hml hnm hown hZ a aF kF (1 : Int32) ((4 : Int32) + (1 : Int32)) (imin (imin y0 y1) (imin y2 (2147483647 : Int32))) (imin y0 y1) (imin y2 (2147483647 : Int32)) (uu (1 : Int32) (0 : Int32) (qq (1 : Int32) q0 q1 q2) y0) (uu (1 : Int32) (1 : Int32) (qq (1 : Int32) q0 q1 q2) y1) (uu (1 : Int32) (2 : Int32) (qq (1 : Int32) q0 q1 q2) y2) h0 h6 n0 T8 _ X8 e8 N6 Z6 f10 f11 V6 lF naF KK7 rfl rfl
  · rw [show (((4 : Int32) + (2 : Int32)) / (2 : Int32)) = (3 : Int32) from by decide]
    show Gs p e below _ T8 m 56 #[rv a, iv (2 : Int32), iv (1 : Int32), iv ((4 : Int32) + (2 : Int32)), iv (3 : Int32)] []
    exact lift4_3 Z a0 hw hx hby hlk hret hml hnm hown hZ a aF kF (2 : Int32) ((4 : Int32) + (2 : Int32)) (imin (imin y0 y1) (imin y2 (2147483647 : Int32))) (imin y0 y1) (imin y2 (2147483647 : Int32)) (uu (2 : Int32) (0 : Int32) (qq (2 : Int32) q0 q1 q2) y0) (uu (2 : Int32) (1 : Int32) (qq (2 : Int32) q0 q1 q2) y1) (uu (2 : Int32) (2 : Int32) (qq (2 : Int32) q0 q1 q2) y2) h0 h6 n0 T8 _ X8 e8 N6 Z6 f10 f11 V6 lF naF KK7 rfl rfl
theorem dp106_2_0 : decode prog_106_method_2_code 0 = .ok (.aload_n 0, 1) := by decide +kernel
theorem dp106_2_1 : decode prog_106_method_2_code 1 = .ok (.iload_n 1, 1) := by decide +kernel
theorem dp106_2_2 : decode prog_106_method_2_code 2 = .ok (.iload_n 2, 1) := by decide +kernel
theorem dp106_2_3 : decode prog_106_method_2_code 3 = .ok (.invokevirtual 60, 3) := by decide +kernel
theorem dp106_2_6 : decode prog_106_method_2_code 6 = .ok (.istore_n 3, 1) := by decide +kernel
theorem dp106_2_7 : decode prog_106_method_2_code 7 = .ok (.aload_n 0, 1) := by decide +kernel
theorem dp106_2_8 : decode prog_106_method_2_code 8 = .ok (.iload_n 3, 1) := by decide +kernel
theorem dp106_2_9 : decode prog_106_method_2_code 9 = .ok (.iconst 1, 1) := by decide +kernel
theorem dp106_2_10 : decode prog_106_method_2_code 10 = .ok (.invokevirtual 64, 3) := by decide +kernel
theorem dp106_2_13 : decode prog_106_method_2_code 13 = .ok (.iload_n 3, 1) := by decide +kernel
theorem dp106_2_14 : decode prog_106_method_2_code 14 = .ok (.ireturn, 1) := by decide +kernel
theorem pd__IZ_V_bd6 : parseMethodDescriptor "(IZ)V" = some ⟨[.int, .boolean], none⟩ := by decide +kernel
theorem ef_Ad1 (m : MethodId) (x0 : Addr) (x1 : Int32) (x2 : Int32) : entryFrame m #[(.ref x0), (.int x1), (.int x2)] 4 = mkF m 0 #[rv x0, iv x1, iv x2, .unset] [] := by first | (simp [entryFrame, mkF, argsToLocals, Value.category]; done) | rfl
def QAd1 (Z : State) (a aO aR aP aF : Addr) (kO kR kP kF : ClassId) (o0 o1 o2 p0 p1 p2 jb y0 y1 y2 : Int32) (h0 : Heap) (n0 : Nat) (v : Option Value) (h : Heap) (L : List Loc) : Prop := v = some (.int (((0 : Int32) * (3 : Int32)) + rk o0 o1 jb)) ∧ Fr n0 L ∧ Keep h0 h [aF] ∧ Arv Z h aF kF .int (8 : Int32) (tr4 (uu (((0 : Int32) * (3 : Int32)) + rk o0 o1 jb) (0 : Int32) (sel jb p0 p1 p2) y0) (uu (((0 : Int32) * (3 : Int32)) + rk o0 o1 jb) (1 : Int32) (sel jb p0 p1 p2) y1) (uu (((0 : Int32) * (3 : Int32)) + rk o0 o1 jb) (2 : Int32) (sel jb p0 p1 p2) y2)) (.int (0 : Int32))
set_option maxRecDepth 65536 in
set_option maxHeartbeats 40000000 in
theorem rmAd1 (l : Launch) (Z : State) (a0 : Array Value) (hw : ∀ d ∈ tables_1, d.before a0 Z = true) (ws : List Jvm.Cond) (a aO aR aP aF : Addr) (kO kR kP kF : ClassId) (o0 o1 o2 p0 p1 p2 jb y0 y1 y2 : Int32) (h0 : Heap) (n0 : Nat) (Z0 : n0 ≤ h0.size) (Ea : Exa Z h0 a "com/example/redoubt/redoubt/policies/FirstFitQueue") (Fo : Fld Z h0 a "com/example/redoubt/redoubt/policies/FirstFitQueue" "order" "[I" (.ref aO)) (Ao : Arv Z h0 aO kO .int (3 : Int32) [(.int o0), (.int o1), (.int o2)] (.int (0 : Int32))) (Fr_ : Fld Z h0 a "com/example/redoubt/redoubt/policies/FirstFitQueue" "rankOf" "[I" (.ref aR)) (Ar_ : Arv Z h0 aR kR .int (3 : Int32) [(.int (rk o0 o1 (0 : Int32))), (.int (rk o0 o1 (1 : Int32))), (.int (rk o0 o1 (2 : Int32)))] (.int (0 : Int32))) (Fp : Fld Z h0 a "com/example/redoubt/redoubt/policies/FirstFitQueue" "procs" "[I" (.ref aP)) (Ap : Arv Z h0 aP kP .int (3 : Int32) [(.int (sel o0 p0 p1 p2)), (.int (sel o1 p0 p1 p2)), (.int (sel o2 p0 p1 p2))] (.int (0 : Int32))) (Fl_ : Fld Z h0 a "com/example/redoubt/redoubt/policies/FirstFitQueue" "leaves" "I" (.int (4 : Int32))) (Ff : Fld Z h0 a "com/example/redoubt/redoubt/policies/FirstFitQueue" "fewest" "[I" (.ref aF)) (Fh : Fld Z h0 a "com/example/redoubt/redoubt/policies/FirstFitQueue" "shortest" "[D" .null) (VF : Arv Z h0 aF kF .int (8 : Int32) (tr4 y0 y1 y2) (.int (0 : Int32))) (lF : n0 ≤ aF) (naF : a ≠ aF) (nPF : aP ≠ aF) (nOF : aO ≠ aF) (nRF : aR ≠ aF) (hp : Perm3 o0 o1 o2) (hjb : jb = 0 ∨ jb = 1 ∨ jb = 2) :
    MetFree l mN34 (head1 (Jvm.Cond.code mN34 prog_106_method_2_code 4 (some .int) :: ws) ({ frames := 3, cells := 0, slots := 0, locals := 44 } : Room)) (fun aa U => aa = #[(.ref a), (.int jb), (.int (0 : Int32))] ∧ Z.Warmed39 U.vm ∧ U.heap = h0) (fun _ _ _ _ _ => True) (fun _ u1_ o_ u2_ => ∃ v_ l_, o_ = .returned v_ ∧ QAd1 Z a aO aR aP aF kO kR kP kF o0 o1 o2 p0 p1 p2 jb y0 y1 y2 h0 n0 v_ u2_.heap l_ ∧ FrameEnd u1_ o_ u2_ l_ ({ frames := 3, cells := 0, slots := 0, locals := 44 } : Room).cells ({ frames := 3, cells := 0, slots := 0, locals := 44 } : Room).slots) := by
  refine MetFree.of_bodySF (plainFor_of_name pn_com_example_redoubt_redoubt_policies_FirstFitQueue) hisR ?_
  intro p e s m args below meth c s₁ Bd hml0 hP hK
  obtain ⟨rfl, hZ, hh⟩ := hP
  have hx := Bd.exec
  have hby := Bd.bytes
  have hlk := BodyLoose.notSynchronized Bd
  have hret := Bd.returns
  have hml : c.maxLocals = 4 := hml0
  have hown : s.vm.findClass "com/example/redoubt/redoubt/policies/FirstFitQueue" = some m.cls := findClass_of_methodNamed Bd.named
  have hnm := (name_of_methodNamed Bd.named Bd.method).1
  have X0 : Stand p l e ({ frames := 3, cells := 0, slots := 0, locals := 44 } : Room) s m #[(.ref a), (.int jb), (.int (0 : Int32))] below meth c s₁ [] 0 0 := Stand.of_body Bd
  have e0 : s₁.heap = h0 := by rw [← hh, Bd.state]; rfl
  have N0 := Fr.nil n0
  refine Goes.st (E := (EN s (QAd1 Z a aO aR aP aF kO kR kP kF o0 o1 o2 p0 p1 p2 jb y0 y1 y2 h0 n0) ({ frames := 3, cells := 0, slots := 0, locals := 44 } : Room).cells ({ frames := 3, cells := 0, slots := 0, locals := 44 } : Room).slots)) (fun tg kg => castTop (ef_Ad1 m a jb (0 : Int32)) kg) ?_
  have K0 : Keep h0 h0 [aF] := Keep.refl _ _
  show Gs p e below _ s₁ m 0 #[rv a, iv jb, iv (0 : Int32), .unset] []
  refine galoadN X0 hx (hb hby dp106_2_0) rfl rfl ?_
  refine giloadN X0 hx (hb hby dp106_2_1) rfl ?_
  refine giloadN X0 hx (hb hby dp106_2_2) rfl ?_
  obtain ⟨cq1, kq1, qa1, qb1, qc1⟩ := isOf hZ e0 Ea
  obtain ⟨_, _, ⟨T1, L1, k1, n1⟩, -, X1, ⟨Lc1, hQ1, l1, y1, z1⟩, st1⟩ := X0.virtualBack hx (y := mN32) (z := mN32) hown (mvT hZ (hwk hw 208 rfl)) (mvT hZ (hwk hw 209 rfl)) (notFace_of_selects (args := #[]) (mvT hZ (hwk hw 211 rfl))) (mvT hZ (hwk hw 211 rfl)) (mvT hZ (hwk hw 210 rfl)) (by decide) (backOf (W := 0) (rmPl l Z a0 hw [] a aO kO o0 o1 o2 aR kR (rk o0 o1 (0 : Int32)) (rk o0 o1 (1 : Int32)) (rk o0 o1 (2 : Int32)) jb (0 : Int32) h0 n0 Z0 Fo Ao Fr_ Ar_ hjb) hZ (hwk hw 212 rfl) (hwk hw 146 rfl) (by decide) (by decide)) qa1 qc1 (g := (mkF m 3 #[rv a, iv jb, iv (0 : Int32), .unset] [(.int (0 : Int32)), (.int jb), (.ref a)])) rfl (by rw [hml]; rfl) (Steps.refl _) (argsL := [(.int jb), (.int (0 : Int32))]) (rest := []) (lenOf pd__II_I_aae rfl) rfl (by show 2 * 0 + _ ≤ _; exact Nat.le_of_eq rfl) (hb hby dp106_2_3) (fun _ _ => ⟨rfl, e0, (by decide : 0 + 0 ≤ 0), (by decide : 0 + 0 ≤ 0)⟩)
  dsimp only [Pt.U, Pt.locs, Pt.cells, Pt.slots] at X1 l1 y1 z1 st1 hQ1
  subst l1 y1 z1
  obtain ⟨rfl, N1q, eh1⟩ := hQ1
  rw [own_selrk hjb] at st1
  have N1 := Fr.app N0 N1q
  refine Goes.sts st1 ?_
  show Gs p e below _ T1 m 6 #[rv a, iv jb, iv (0 : Int32), .unset] [(.int (((0 : Int32) * (3 : Int32)) + rk o0 o1 jb))]
  refine gistoreN X1 hx (hb hby dp106_2_6) trivial (l' := #[rv a, iv jb, iv (0 : Int32), iv (((0 : Int32) * (3 : Int32)) + rk o0 o1 jb)]) rfl ?_
  refine galoadN X1 hx (hb hby dp106_2_7) rfl rfl ?_
  refine giloadN X1 hx (hb hby dp106_2_8) rfl ?_
  refine giconst X1 hx (hb hby dp106_2_9) ?_
  obtain ⟨cc2, qa2, qb2⟩ := Exa.cell Ea
  obtain ⟨_, _, ⟨T2, L2, k2, n2⟩, -, X2, ⟨Lc2, hQ2, l2, y2, z2⟩, st2⟩ := X1.privateBack hx (y := mN33) hown (mvT hZ (hwk hw 213 rfl)) (mvT hZ (hwk hw 214 rfl)) (selP (y := mN33) (as := #[]) (mvT hZ (hwk hw 145 rfl)) (mvP hZ (hwk hw 215 rfl)) (mvT hZ (hwk hw 214 rfl)) (by decide)) (Cond.privateMethod_at (mvP hZ (hwk hw 215 rfl) (args := #[]))) (mvT hZ (hwk hw 216 rfl)) (by decide) (backOf (W := 0) (rmSe1 l Z a0 hw [] a aO aR aP aF kO kP kF o0 o1 o2 (sel o0 p0 p1 p2) (sel o1 p0 p1 p2) (sel o2 p0 p1 p2) (((0 : Int32) * (3 : Int32)) + rk o0 o1 jb) y0 y1 y2 h0 n0 Z0 Ea Fo Ao Fp Ap Fl_ Ff Fh VF lF naF nPF nOF nRF (own_plr3 hp hjb)) hZ (hwk hw 216 rfl) (hwk hw 146 rfl) (by decide) (by decide)) (g := (mkF m 10 #[rv a, iv jb, iv (0 : Int32), iv (((0 : Int32) * (3 : Int32)) + rk o0 o1 jb)] [(.int (1 : Int32)), (.int (((0 : Int32) * (3 : Int32)) + rk o0 o1 jb)), (.ref a)])) rfl (by rw [hml]; rfl) (Steps.refl _) (a := a) (by rw [eh1]; exact qa2) qb2 (argsL := [(.int (((0 : Int32) * (3 : Int32)) + rk o0 o1 jb)), (.int (1 : Int32))]) (rest := []) (lenOf pd__IZ_V_bd6 rfl) rfl (by show 2 * 0 + _ ≤ _; exact Nat.le_of_eq rfl) (hb hby dp106_2_10) (fun _ _ => ⟨rfl, eh1, (by decide : 0 + 0 ≤ 0), (by decide : 0 + 0 ≤ 0)⟩)
  dsimp only [Pt.U, Pt.locs, Pt.cells, Pt.slots] at X2 l2 y2 z2 st2 hQ2
  subst l2 y2 z2
  obtain ⟨rfl, N2q, K2, VF2⟩ := hQ2
  have KK3 := K0.trans K2 (allS (Or.inl (List.mem_of_getElem? (i := 0) rfl)) all0)
  have Z2 : n0 ≤ T2.heap.size := Nat.le_trans Z0 K2.1
  rw [own_qq hp hjb (Or.inl rfl)] at VF2
  have N2 := Fr.app N1 N2q
  refine Goes.sts st2 ?_
  show Gs p e below _ T2 m 13 #[rv a, iv jb, iv (0 : Int32), iv (((0 : Int32) * (3 : Int32)) + rk o0 o1 jb)] []
  refine giloadN X2 hx (hb hby dp106_2_13) rfl ?_
  refine Goes.retI X2 hx hret (hb hby dp106_2_14) (lvN X2 hlk (vsome hret) ?_ (by decide) (by decide))
  exact ⟨rfl, N2, KK3, VF2⟩
theorem own_put8 {Z : State} {h : Heap} {a : Addr} {k : ClassId} {z pl q n1_ n2_ n3_ n4_ n5_ n6_ y0 y1 y2 y3 y4 y5 : Int32} {dv : Value} (hpl : pl = 0 ∨ pl = 1 ∨ pl = 2 ∨ pl = 3 ∨ pl = 4 ∨ pl = 5) (F : Arv Z h a k .int z ((tl8 n1_ n2_ n3_ n4_ n5_ n6_ y0 y1 y2 y3 y4 y5).set ((8 : Int32) + pl).toNatClampNeg (.int q)) dv) : Arv Z h a k .int z (tl8 n1_ n2_ n3_ n4_ n5_ n6_ (uu pl (0 : Int32) q y0) (uu pl (1 : Int32) q y1) (uu pl (2 : Int32) q y2) (uu pl (3 : Int32) q y3) (uu pl (4 : Int32) q y4) (uu pl (5 : Int32) q y5)) dv := by
  rcases hpl with rfl | rfl | rfl | rfl | rfl | rfl <;> exact F
theorem own_pb8 {pl : Int32} (hpl : pl = 0 ∨ pl = 1 ∨ pl = 2 ∨ pl = 3 ∨ pl = 4 ∨ pl = 5) : ¬ ((8 : Int32) + pl) < (0 : Int32) ∧ ((8 : Int32) + pl) < (16 : Int32) := by rcases hpl with rfl | rfl | rfl | rfl | rfl | rfl <;> decide
theorem own_pn8 {pl : Int32} (hpl : pl = 0 ∨ pl = 1 ∨ pl = 2 ∨ pl = 3 ∨ pl = 4 ∨ pl = 5) : ((8 : Int32) + pl).toNatClampNeg < 16 := by rcases hpl with rfl | rfl | rfl | rfl | rfl | rfl <;> decide
set_option maxRecDepth 65536 in
set_option maxHeartbeats 40000000 in
theorem lift8_1 {p : Program} {l : Launch} {e : Env} {s : State} {m : MethodId} {args : Array Value} {below : List Frame} {meth : Method} {c : Code}  (Z : State) (a0 : Array Value) (hw : ∀ d ∈ tables_1, d.before a0 Z = true) (hx : p.tables.exec = Jvm.exec) (hby : c.code = prog_106_method_13_code) (hlk : meth.locks = false) (hret : meth.sig.returnType = none) (hml : c.maxLocals = 5) (hnm : meth.name = "set") (hown : s.vm.findClass "com/example/redoubt/redoubt/policies/FirstFitQueue" = some m.cls) (hZ : Z.Warmed39 s.vm) (a aF : Addr) (kF : ClassId) (v1 v3 n1_ n2_ n3_ n4_ n5_ n6_ y0 y1 y2 y3 y4 y5 : Int32) (h0 hh : Heap) (n0 : Nat) (T0 : State) (locs0 : List Loc) (X0 : Stand p l e ({ frames := 2, cells := 0, slots := 0, locals := 28 } : Room) s m args below meth c T0 locs0 0 0) (e0 : T0.heap = hh) (N0 : Fr n0 locs0) (Z0 : n0 ≤ hh.size) (Ea : Exa Z hh a "com/example/redoubt/redoubt/policies/FirstFitQueue") (Ff : Fld Z hh a "com/example/redoubt/redoubt/policies/FirstFitQueue" "fewest" "[I" (.ref aF)) (VF : Arv Z hh aF kF .int (16 : Int32) (tl8 n1_ n2_ n3_ n4_ n5_ n6_ y0 y1 y2 y3 y4 y5) (.int (0 : Int32))) (lF : n0 ≤ aF) (naF : a ≠ aF) (K0 : Keep h0 hh [aF]) (hn2 : n2_ = (imin n4_ n5_)) (hn3 : n3_ = (imin n6_ (2147483647 : Int32))) (hn4 : n4_ = (imin y0 y1)) (hn5 : n5_ = (imin y2 y3)) (hn6 : n6_ = (imin y4 y5)) :
    Goes p e below (EN s (QSe8 Z aF kF y0 y1 y2 y3 y4 y5 h0 n0) ({ frames := 2, cells := 0, slots := 0, locals := 28 } : Room).cells ({ frames := 2, cells := 0, slots := 0, locals := 28 } : Room).slots) (T0.setTop (mkF m 56 #[rv a, iv v1, iv (1 : Int32), iv v3, iv (1 : Int32)] [])) := by
  show Gs p e below _ T0 m 56 #[rv a, iv v1, iv (1 : Int32), iv v3, iv (1 : Int32)] []
  refine giload X0 hx (hb hby dp106_13_56) rfl ?_
  refine giconst X0 hx (hb hby dp106_13_58) ?_
  refine gicmpNo X0 hx (hb hby dp106_13_59) (by decide) ?_
  refine galoadN X0 hx (hb hby dp106_13_62) rfl rfl ?_
  refine giload X0 hx (hb hby dp106_13_63) rfl ?_
  obtain ⟨cc1, qa1, qb1⟩ := Exa.cell Ea
  obtain ⟨_, _, ⟨T1, L1, k1, n1⟩, -, X1, ⟨Lc1, hQ1, l1, y1, z1⟩, st1⟩ := X0.privateBack hx (y := mN30) hown (mvT hZ (hwk hw 223 rfl)) (mvT hZ (hwk hw 224 rfl)) (selP (y := mN30) (as := #[]) (mvT hZ (hwk hw 145 rfl)) (mvP hZ (hwk hw 225 rfl)) (mvT hZ (hwk hw 224 rfl)) (by decide)) (Cond.privateMethod_at (mvP hZ (hwk hw 225 rfl) (args := #[]))) (mvT hZ (hwk hw 226 rfl)) (by decide) (backOf (W := 0) (rmLf l Z a0 hw [] a aF kF (16 : Int32) (tl8 n1_ n2_ n3_ n4_ n5_ n6_ y0 y1 y2 y3 y4 y5) (1 : Int32) n2_ n3_ n1_ 2 3 1 hh n0 Z0 Ff VF lF naF (by decide) (by decide) (by decide) (by decide) (by decide) (by decide) rfl rfl rfl (by show _ < 16; decide)) hZ (hwk hw 226 rfl) (hwk hw 146 rfl) (by decide) (by decide)) (g := (mkF m 65 #[rv a, iv v1, iv (1 : Int32), iv v3, iv (1 : Int32)] [(.int (1 : Int32)), (.ref a)])) rfl (by rw [hml]; rfl) (Steps.refl _) (a := a) (by rw [e0]; exact qa1) qb1 (argsL := [(.int (1 : Int32))]) (rest := []) (lenOf pd__I_Z_855 rfl) rfl (by show 2 * 0 + _ ≤ _; exact Nat.le_of_eq rfl) (hb hby dp106_13_65) (fun _ _ => ⟨rfl, e0, (by decide : 0 + 0 ≤ 0), (by decide : 0 + 0 ≤ 0)⟩)
  dsimp only [Pt.U, Pt.locs, Pt.cells, Pt.slots] at X1 l1 y1 z1 st1 hQ1
  subst l1 y1 z1
  obtain ⟨r1, rfl, N1q, K1, hr1, VF1⟩ := hQ1
  have KK2 := K0.trans K1 (allS (Or.inl (List.mem_of_getElem? (i := 0) rfl)) all0)
  have Z1 : n0 ≤ T1.heap.size := Nat.le_trans Z0 K1.1
  have VG1 : Arv Z T1.heap aF kF .int (16 : Int32) (tl8 (imin n2_ n3_) n2_ n3_ n4_ n5_ n6_ y0 y1 y2 y3 y4 y5) (.int (0 : Int32)) := VF1
  have N1 := Fr.app N0 N1q
  refine Goes.sts st1 ?_
  show Gs p e below _ T1 m 68 #[rv a, iv v1, iv (1 : Int32), iv v3, iv (1 : Int32)] [(.int r1)]
  rcases hr1 with ⟨cL1, rfl⟩ | ⟨cL1, rfl⟩
  · show Gs p e below _ T1 m 68 #[rv a, iv v1, iv (1 : Int32), iv v3, iv (1 : Int32)] [(.int (0 : Int32))]
    refine gifYes X1 hx (pc := 68) (pc' := 80) (hb hby dp106_13_68) (by decide) (by decide) (by decide) ?_
    subst hn6 hn5 hn4 hn3 hn2 cL1
    refine Goes.retV X1 hx hret (hb hby dp106_13_80) (lvN X1 hlk (fun _ => rfl) ?_ (by decide) (by decide))
    exact ⟨rfl, N1, KK2, VG1⟩
  · show Gs p e below _ T1 m 68 #[rv a, iv v1, iv (1 : Int32), iv v3, iv (1 : Int32)] [(.int (1 : Int32))]
    refine gifNo X1 hx (hb hby dp106_13_68) (by decide) ?_
    refine giload X1 hx (hb hby dp106_13_71) rfl ?_
    refine giconst X1 hx (hb hby dp106_13_73) ?_
    refine Goes.st (fun tg kg => XS.idiv X1.here hx rfl (hb hby dp106_13_74) rfl (by decide) kg) ?_
    show Gs p e below _ T1 m 75 #[rv a, iv v1, iv (1 : Int32), iv v3, iv (1 : Int32)] [(.int ((1 : Int32) / (2 : Int32)))]
    rw [show ((1 : Int32) / (2 : Int32)) = (0 : Int32) from by decide]
    show Gs p e below _ T1 m 75 #[rv a, iv v1, iv (1 : Int32), iv v3, iv (1 : Int32)] [(.int (0 : Int32))]
    refine gistore X1 hx (hb hby dp106_13_75) trivial (l' := #[rv a, iv v1, iv (1 : Int32), iv v3, iv (0 : Int32)]) rfl ?_
    refine ggoto X1 hx (pc := 77) (pc' := 56) (hb hby dp106_13_77) (by decide) (by decide) ?_
    show Gs p e below _ T1 m 56 #[rv a, iv v1, iv (1 : Int32), iv v3, iv (0 : Int32)] []
    refine giload X1 hx (hb hby dp106_13_56) rfl ?_
    refine giconst X1 hx (hb hby dp106_13_58) ?_
    refine gicmpYes X1 hx (pc := 59) (pc' := 80) (hb hby dp106_13_59) (by decide) (by decide) (by decide) ?_
    subst hn6 hn5 hn4 hn3 hn2
    refine Goes.retV X1 hx hret (hb hby dp106_13_80) (lvN X1 hlk (fun _ => rfl) ?_ (by decide) (by decide))
    exact ⟨rfl, N1, KK2, VG1⟩
set_option maxRecDepth 65536 in
set_option maxHeartbeats 40000000 in
theorem lift8_2 {p : Program} {l : Launch} {e : Env} {s : State} {m : MethodId} {args : Array Value} {below : List Frame} {meth : Method} {c : Code}  (Z : State) (a0 : Array Value) (hw : ∀ d ∈ tables_1, d.before a0 Z = true) (hx : p.tables.exec = Jvm.exec) (hby : c.code = prog_106_method_13_code) (hlk : meth.locks = false) (hret : meth.sig.returnType = none) (hml : c.maxLocals = 5) (hnm : meth.name = "set") (hown : s.vm.findClass "com/example/redoubt/redoubt/policies/FirstFitQueue" = some m.cls) (hZ : Z.Warmed39 s.vm) (a aF : Addr) (kF : ClassId) (v1 v3 n1_ n2_ n3_ n4_ n5_ n6_ y0 y1 y2 y3 y4 y5 : Int32) (h0 hh : Heap) (n0 : Nat) (T0 : State) (locs0 : List Loc) (X0 : Stand p l e ({ frames := 2, cells := 0, slots := 0, locals := 28 } : Room) s m args below meth c T0 locs0 0 0) (e0 : T0.heap = hh) (N0 : Fr n0 locs0) (Z0 : n0 ≤ hh.size) (Ea : Exa Z hh a "com/example/redoubt/redoubt/policies/FirstFitQueue") (Ff : Fld Z hh a "com/example/redoubt/redoubt/policies/FirstFitQueue" "fewest" "[I" (.ref aF)) (VF : Arv Z hh aF kF .int (16 : Int32) (tl8 n1_ n2_ n3_ n4_ n5_ n6_ y0 y1 y2 y3 y4 y5) (.int (0 : Int32))) (lF : n0 ≤ aF) (naF : a ≠ aF) (K0 : Keep h0 hh [aF]) (hn1 : n1_ = (imin n2_ n3_)) (hn3 : n3_ = (imin n6_ (2147483647 : Int32))) (hn4 : n4_ = (imin y0 y1)) (hn5 : n5_ = (imin y2 y3)) (hn6 : n6_ = (imin y4 y5)) :
    Goes p e below (EN s (QSe8 Z aF kF y0 y1 y2 y3 y4 y5 h0 n0) ({ frames := 2, cells := 0, slots := 0, locals := 28 } : Room).cells ({ frames := 2, cells := 0, slots := 0, locals := 28 } : Room).slots) (T0.setTop (mkF m 56 #[rv a, iv v1, iv (1 : Int32), iv v3, iv (2 : Int32)] [])) := by
  show Gs p e below _ T0 m 56 #[rv a, iv v1, iv (1 : Int32), iv v3, iv (2 : Int32)] []
  refine giload X0 hx (hb hby dp106_13_56) rfl ?_
  refine giconst X0 hx (hb hby dp106_13_58) ?_
  refine gicmpNo X0 hx (hb hby dp106_13_59) (by decide) ?_
  refine galoadN X0 hx (hb hby dp106_13_62) rfl rfl ?_
  refine giload X0 hx (hb hby dp106_13_63) rfl ?_
  obtain ⟨cc1, qa1, qb1⟩ := Exa.cell Ea
  obtain ⟨_, _, ⟨T1, L1, k1, n1⟩, -, X1, ⟨Lc1, hQ1, l1, y1, z1⟩, st1⟩ := X0.privateBack hx (y := mN30) hown (mvT hZ (hwk hw 223 rfl)) (mvT hZ (hwk hw 224 rfl)) (selP (y := mN30) (as := #[]) (mvT hZ (hwk hw 145 rfl)) (mvP hZ (hwk hw 225 rfl)) (mvT hZ (hwk hw 224 rfl)) (by decide)) (Cond.privateMethod_at (mvP hZ (hwk hw 225 rfl) (args := #[]))) (mvT hZ (hwk hw 226 rfl)) (by decide) (backOf (W := 0) (rmLf l Z a0 hw [] a aF kF (16 : Int32) (tl8 n1_ n2_ n3_ n4_ n5_ n6_ y0 y1 y2 y3 y4 y5) (2 : Int32) n4_ n5_ n2_ 4 5 2 hh n0 Z0 Ff VF lF naF (by decide) (by decide) (by decide) (by decide) (by decide) (by decide) rfl rfl rfl (by show _ < 16; decide)) hZ (hwk hw 226 rfl) (hwk hw 146 rfl) (by decide) (by decide)) (g := (mkF m 65 #[rv a, iv v1, iv (1 : Int32), iv v3, iv (2 : Int32)] [(.int (2 : Int32)), (.ref a)])) rfl (by rw [hml]; rfl) (Steps.refl _) (a := a) (by rw [e0]; exact qa1) qb1 (argsL := [(.int (2 : Int32))]) (rest := []) (lenOf pd__I_Z_855 rfl) rfl (by show 2 * 0 + _ ≤ _; exact Nat.le_of_eq rfl) (hb hby dp106_13_65) (fun _ _ => ⟨rfl, e0, (by decide : 0 + 0 ≤ 0), (by decide : 0 + 0 ≤ 0)⟩)
  dsimp only [Pt.U, Pt.locs, Pt.cells, Pt.slots] at X1 l1 y1 z1 st1 hQ1
  subst l1 y1 z1
  obtain ⟨r1, rfl, N1q, K1, hr1, VF1⟩ := hQ1
  have KK2 := K0.trans K1 (allS (Or.inl (List.mem_of_getElem? (i := 0) rfl)) all0)
  have Z1 : n0 ≤ T1.heap.size := Nat.le_trans Z0 K1.1
  have VG1 : Arv Z T1.heap aF kF .int (16 : Int32) (tl8 n1_ (imin n4_ n5_) n3_ n4_ n5_ n6_ y0 y1 y2 y3 y4 y5) (.int (0 : Int32)) := VF1
  have N1 := Fr.app N0 N1q
  refine Goes.sts st1 ?_
  show Gs p e below _ T1 m 68 #[rv a, iv v1, iv (1 : Int32), iv v3, iv (2 : Int32)] [(.int r1)]
  rcases hr1 with ⟨cL1, rfl⟩ | ⟨cL1, rfl⟩
  · show Gs p e below _ T1 m 68 #[rv a, iv v1, iv (1 : Int32), iv v3, iv (2 : Int32)] [(.int (0 : Int32))]
    refine gifYes X1 hx (pc := 68) (pc' := 80) (hb hby dp106_13_68) (by decide) (by decide) (by decide) ?_
    subst hn6 hn5 hn4 hn3 cL1 hn1
    refine Goes.retV X1 hx hret (hb hby dp106_13_80) (lvN X1 hlk (fun _ => rfl) ?_ (by decide) (by decide))
    exact ⟨rfl, N1, KK2, VG1⟩
  · show Gs p e below _ T1 m 68 #[rv a, iv v1, iv (1 : Int32), iv v3, iv (2 : Int32)] [(.int (1 : Int32))]
    refine gifNo X1 hx (hb hby dp106_13_68) (by decide) ?_
    refine giload X1 hx (hb hby dp106_13_71) rfl ?_
    refine giconst X1 hx (hb hby dp106_13_73) ?_
    refine Goes.st (fun tg kg => XS.idiv X1.here hx rfl (hb hby dp106_13_74) rfl (by decide) kg) ?_
    show Gs p e below _ T1 m 75 #[rv a, iv v1, iv (1 : Int32), iv v3, iv (2 : Int32)] [(.int ((2 : Int32) / (2 : Int32)))]
    rw [show ((2 : Int32) / (2 : Int32)) = (1 : Int32) from by decide]
    show Gs p e below _ T1 m 75 #[rv a, iv v1, iv (1 : Int32), iv v3, iv (2 : Int32)] [(.int (1 : Int32))]
    refine gistore X1 hx (hb hby dp106_13_75) trivial (l' := #[rv a, iv v1, iv (1 : Int32), iv v3, iv (1 : Int32)]) rfl ?_
    refine ggoto X1 hx (pc := 77) (pc' := 56) (hb hby dp106_13_77) (by decide) (by decide) ?_
    show Gs p e below _ T1 m 56 #[rv a, iv v1, iv (1 : Int32), iv v3, iv (1 : Int32)] []
    have f3 := (Ea.keep K1)
    have f4 := (Ff.keep K1 (ninS naF nin0))
    exact lift8_1 Z a0 hw hx hby hlk hret hml hnm hown hZ a aF kF v1 v3 n1_ (imin n4_ n5_) n3_ n4_ n5_ n6_ y0 y1 y2 y3 y4 y5 h0 T1.heap n0 T1 _ X1 rfl N1 Z1 f3 f4 VG1 lF naF KK2 rfl hn3 hn4 hn5 hn6
set_option maxRecDepth 65536 in
set_option maxHeartbeats 40000000 in
theorem lift8_3 {p : Program} {l : Launch} {e : Env} {s : State} {m : MethodId} {args : Array Value} {below : List Frame} {meth : Method} {c : Code}  (Z : State) (a0 : Array Value) (hw : ∀ d ∈ tables_1, d.before a0 Z = true) (hx : p.tables.exec = Jvm.exec) (hby : c.code = prog_106_method_13_code) (hlk : meth.locks = false) (hret : meth.sig.returnType = none) (hml : c.maxLocals = 5) (hnm : meth.name = "set") (hown : s.vm.findClass "com/example/redoubt/redoubt/policies/FirstFitQueue" = some m.cls) (hZ : Z.Warmed39 s.vm) (a aF : Addr) (kF : ClassId) (v1 v3 n1_ n2_ n3_ n4_ n5_ n6_ y0 y1 y2 y3 y4 y5 : Int32) (h0 hh : Heap) (n0 : Nat) (T0 : State) (locs0 : List Loc) (X0 : Stand p l e ({ frames := 2, cells := 0, slots := 0, locals := 28 } : Room) s m args below meth c T0 locs0 0 0) (e0 : T0.heap = hh) (N0 : Fr n0 locs0) (Z0 : n0 ≤ hh.size) (Ea : Exa Z hh a "com/example/redoubt/redoubt/policies/FirstFitQueue") (Ff : Fld Z hh a "com/example/redoubt/redoubt/policies/FirstFitQueue" "fewest" "[I" (.ref aF)) (VF : Arv Z hh aF kF .int (16 : Int32) (tl8 n1_ n2_ n3_ n4_ n5_ n6_ y0 y1 y2 y3 y4 y5) (.int (0 : Int32))) (lF : n0 ≤ aF) (naF : a ≠ aF) (K0 : Keep h0 hh [aF]) (hn1 : n1_ = (imin n2_ n3_)) (hn2 : n2_ = (imin n4_ n5_)) (hn4 : n4_ = (imin y0 y1)) (hn5 : n5_ = (imin y2 y3)) (hn6 : n6_ = (imin y4 y5)) :
    Goes p e below (EN s (QSe8 Z aF kF y0 y1 y2 y3 y4 y5 h0 n0) ({ frames := 2, cells := 0, slots := 0, locals := 28 } : Room).cells ({ frames := 2, cells := 0, slots := 0, locals := 28 } : Room).slots) (T0.setTop (mkF m 56 #[rv a, iv v1, iv (1 : Int32), iv v3, iv (3 : Int32)] [])) := by
  show Gs p e below _ T0 m 56 #[rv a, iv v1, iv (1 : Int32), iv v3, iv (3 : Int32)] []
  refine giload X0 hx (hb hby dp106_13_56) rfl ?_
  refine giconst X0 hx (hb hby dp106_13_58) ?_
  refine gicmpNo X0 hx (hb hby dp106_13_59) (by decide) ?_
  refine galoadN X0 hx (hb hby dp106_13_62) rfl rfl ?_
  refine giload X0 hx (hb hby dp106_13_63) rfl ?_
  obtain ⟨cc1, qa1, qb1⟩ := Exa.cell Ea
  obtain ⟨_, _, ⟨T1, L1, k1, n1⟩, -, X1, ⟨Lc1, hQ1, l1, y1, z1⟩, st1⟩ := X0.privateBack hx (y := mN30) hown (mvT hZ (hwk hw 223 rfl)) (mvT hZ (hwk hw 224 rfl)) (selP (y := mN30) (as := #[]) (mvT hZ (hwk hw 145 rfl)) (mvP hZ (hwk hw 225 rfl)) (mvT hZ (hwk hw 224 rfl)) (by decide)) (Cond.privateMethod_at (mvP hZ (hwk hw 225 rfl) (args := #[]))) (mvT hZ (hwk hw 226 rfl)) (by decide) (backOf (W := 0) (rmLf l Z a0 hw [] a aF kF (16 : Int32) (tl8 n1_ n2_ n3_ n4_ n5_ n6_ y0 y1 y2 y3 y4 y5) (3 : Int32) n6_ (2147483647 : Int32) n3_ 6 7 3 hh n0 Z0 Ff VF lF naF (by decide) (by decide) (by decide) (by decide) (by decide) (by decide) rfl rfl rfl (by show _ < 16; decide)) hZ (hwk hw 226 rfl) (hwk hw 146 rfl) (by decide) (by decide)) (g := (mkF m 65 #[rv a, iv v1, iv (1 : Int32), iv v3, iv (3 : Int32)] [(.int (3 : Int32)), (.ref a)])) rfl (by rw [hml]; rfl) (Steps.refl _) (a := a) (by rw [e0]; exact qa1) qb1 (argsL := [(.int (3 : Int32))]) (rest := []) (lenOf pd__I_Z_855 rfl) rfl (by show 2 * 0 + _ ≤ _; exact Nat.le_of_eq rfl) (hb hby dp106_13_65) (fun _ _ => ⟨rfl, e0, (by decide : 0 + 0 ≤ 0), (by decide : 0 + 0 ≤ 0)⟩)
  dsimp only [Pt.U, Pt.locs, Pt.cells, Pt.slots] at X1 l1 y1 z1 st1 hQ1
  subst l1 y1 z1
  obtain ⟨r1, rfl, N1q, K1, hr1, VF1⟩ := hQ1
  have KK2 := K0.trans K1 (allS (Or.inl (List.mem_of_getElem? (i := 0) rfl)) all0)
  have Z1 : n0 ≤ T1.heap.size := Nat.le_trans Z0 K1.1
  have VG1 : Arv Z T1.heap aF kF .int (16 : Int32) (tl8 n1_ n2_ (imin n6_ (2147483647 : Int32)) n4_ n5_ n6_ y0 y1 y2 y3 y4 y5) (.int (0 : Int32)) := VF1
  have N1 := Fr.app N0 N1q
  refine Goes.sts st1 ?_
  show Gs p e below _ T1 m 68 #[rv a, iv v1, iv (1 : Int32), iv v3, iv (3 : Int32)] [(.int r1)]
  rcases hr1 with ⟨cL1, rfl⟩ | ⟨cL1, rfl⟩
  · show Gs p e below _ T1 m 68 #[rv a, iv v1, iv (1 : Int32), iv v3, iv (3 : Int32)] [(.int (0 : Int32))]
    refine gifYes X1 hx (pc := 68) (pc' := 80) (hb hby dp106_13_68) (by decide) (by decide) (by decide) ?_
    subst hn6 hn5 hn4 hn2 cL1 hn1
    refine Goes.retV X1 hx hret (hb hby dp106_13_80) (lvN X1 hlk (fun _ => rfl) ?_ (by decide) (by decide))
    exact ⟨rfl, N1, KK2, VG1⟩
  · show Gs p e below _ T1 m 68 #[rv a, iv v1, iv (1 : Int32), iv v3, iv (3 : Int32)] [(.int (1 : Int32))]
    refine gifNo X1 hx (hb hby dp106_13_68) (by decide) ?_
    refine giload X1 hx (hb hby dp106_13_71) rfl ?_
    refine giconst X1 hx (hb hby dp106_13_73) ?_
    refine Goes.st (fun tg kg => XS.idiv X1.here hx rfl (hb hby dp106_13_74) rfl (by decide) kg) ?_
    show Gs p e below _ T1 m 75 #[rv a, iv v1, iv (1 : Int32), iv v3, iv (3 : Int32)] [(.int ((3 : Int32) / (2 : Int32)))]
    rw [show ((3 : Int32) / (2 : Int32)) = (1 : Int32) from by decide]
    show Gs p e below _ T1 m 75 #[rv a, iv v1, iv (1 : Int32), iv v3, iv (3 : Int32)] [(.int (1 : Int32))]
    refine gistore X1 hx (hb hby dp106_13_75) trivial (l' := #[rv a, iv v1, iv (1 : Int32), iv v3, iv (1 : Int32)]) rfl ?_
    refine ggoto X1 hx (pc := 77) (pc' := 56) (hb hby dp106_13_77) (by decide) (by decide) ?_
    show Gs p e below _ T1 m 56 #[rv a, iv v1, iv (1 : Int32), iv v3, iv (1 : Int32)] []
    have f3 := (Ea.keep K1)
    have f4 := (Ff.keep K1 (ninS naF nin0))
    exact lift8_1 Z a0 hw hx hby hlk hret hml hnm hown hZ a aF kF v1 v3 n1_ n2_ (imin n6_ (2147483647 : Int32)) n4_ n5_ n6_ y0 y1 y2 y3 y4 y5 h0 T1.heap n0 T1 _ X1 rfl N1 Z1 f3 f4 VG1 lF naF KK2 hn2 rfl hn4 hn5 hn6
set_option maxRecDepth 65536 in
set_option maxHeartbeats 40000000 in
theorem lift8_4 {p : Program} {l : Launch} {e : Env} {s : State} {m : MethodId} {args : Array Value} {below : List Frame} {meth : Method} {c : Code}  (Z : State) (a0 : Array Value) (hw : ∀ d ∈ tables_1, d.before a0 Z = true) (hx : p.tables.exec = Jvm.exec) (hby : c.code = prog_106_method_13_code) (hlk : meth.locks = false) (hret : meth.sig.returnType = none) (hml : c.maxLocals = 5) (hnm : meth.name = "set") (hown : s.vm.findClass "com/example/redoubt/redoubt/policies/FirstFitQueue" = some m.cls) (hZ : Z.Warmed39 s.vm) (a aF : Addr) (kF : ClassId) (v1 v3 n1_ n2_ n3_ n4_ n5_ n6_ y0 y1 y2 y3 y4 y5 : Int32) (h0 hh : Heap) (n0 : Nat) (T0 : State) (locs0 : List Loc) (X0 : Stand p l e ({ frames := 2, cells := 0, slots := 0, locals := 28 } : Room) s m args below meth c T0 locs0 0 0) (e0 : T0.heap = hh) (N0 : Fr n0 locs0) (Z0 : n0 ≤ hh.size) (Ea : Exa Z hh a "com/example/redoubt/redoubt/policies/FirstFitQueue") (Ff : Fld Z hh a "com/example/redoubt/redoubt/policies/FirstFitQueue" "fewest" "[I" (.ref aF)) (VF : Arv Z hh aF kF .int (16 : Int32) (tl8 n1_ n2_ n3_ n4_ n5_ n6_ y0 y1 y2 y3 y4 y5) (.int (0 : Int32))) (lF : n0 ≤ aF) (naF : a ≠ aF) (K0 : Keep h0 hh [aF]) (hn1 : n1_ = (imin n2_ n3_)) (hn2 : n2_ = (imin n4_ n5_)) (hn3 : n3_ = (imin n6_ (2147483647 : Int32))) (hn5 : n5_ = (imin y2 y3)) (hn6 : n6_ = (imin y4 y5)) :
    Goes p e below (EN s (QSe8 Z aF kF y0 y1 y2 y3 y4 y5 h0 n0) ({ frames := 2, cells := 0, slots := 0, locals := 28 } : Room).cells ({ frames := 2, cells := 0, slots := 0, locals := 28 } : Room).slots) (T0.setTop (mkF m 56 #[rv a, iv v1, iv (1 : Int32), iv v3, iv (4 : Int32)] [])) := by
  show Gs p e below _ T0 m 56 #[rv a, iv v1, iv (1 : Int32), iv v3, iv (4 : Int32)] []
  refine giload X0 hx (hb hby dp106_13_56) rfl ?_
  refine giconst X0 hx (hb hby dp106_13_58) ?_
  refine gicmpNo X0 hx (hb hby dp106_13_59) (by decide) ?_
  refine galoadN X0 hx (hb hby dp106_13_62) rfl rfl ?_
  refine giload X0 hx (hb hby dp106_13_63) rfl ?_
  obtain ⟨cc1, qa1, qb1⟩ := Exa.cell Ea
  obtain ⟨_, _, ⟨T1, L1, k1, n1⟩, -, X1, ⟨Lc1, hQ1, l1, y1, z1⟩, st1⟩ := X0.privateBack hx (y := mN30) hown (mvT hZ (hwk hw 223 rfl)) (mvT hZ (hwk hw 224 rfl)) (selP (y := mN30) (as := #[]) (mvT hZ (hwk hw 145 rfl)) (mvP hZ (hwk hw 225 rfl)) (mvT hZ (hwk hw 224 rfl)) (by decide)) (Cond.privateMethod_at (mvP hZ (hwk hw 225 rfl) (args := #[]))) (mvT hZ (hwk hw 226 rfl)) (by decide) (backOf (W := 0) (rmLf l Z a0 hw [] a aF kF (16 : Int32) (tl8 n1_ n2_ n3_ n4_ n5_ n6_ y0 y1 y2 y3 y4 y5) (4 : Int32) y0 y1 n4_ 8 9 4 hh n0 Z0 Ff VF lF naF (by decide) (by decide) (by decide) (by decide) (by decide) (by decide) rfl rfl rfl (by show _ < 16; decide)) hZ (hwk hw 226 rfl) (hwk hw 146 rfl) (by decide) (by decide)) (g := (mkF m 65 #[rv a, iv v1, iv (1 : Int32), iv v3, iv (4 : Int32)] [(.int (4 : Int32)), (.ref a)])) rfl (by rw [hml]; rfl) (Steps.refl _) (a := a) (by rw [e0]; exact qa1) qb1 (argsL := [(.int (4 : Int32))]) (rest := []) (lenOf pd__I_Z_855 rfl) rfl (by show 2 * 0 + _ ≤ _; exact Nat.le_of_eq rfl) (hb hby dp106_13_65) (fun _ _ => ⟨rfl, e0, (by decide : 0 + 0 ≤ 0), (by decide : 0 + 0 ≤ 0)⟩)
  dsimp only [Pt.U, Pt.locs, Pt.cells, Pt.slots] at X1 l1 y1 z1 st1 hQ1
  subst l1 y1 z1
  obtain ⟨r1, rfl, N1q, K1, hr1, VF1⟩ := hQ1
  have KK2 := K0.trans K1 (allS (Or.inl (List.mem_of_getElem? (i := 0) rfl)) all0)
  have Z1 : n0 ≤ T1.heap.size := Nat.le_trans Z0 K1.1
  have VG1 : Arv Z T1.heap aF kF .int (16 : Int32) (tl8 n1_ n2_ n3_ (imin y0 y1) n5_ n6_ y0 y1 y2 y3 y4 y5) (.int (0 : Int32)) := VF1
  have N1 := Fr.app N0 N1q
  refine Goes.sts st1 ?_
  show Gs p e below _ T1 m 68 #[rv a, iv v1, iv (1 : Int32), iv v3, iv (4 : Int32)] [(.int r1)]
  rcases hr1 with ⟨cL1, rfl⟩ | ⟨cL1, rfl⟩
  · show Gs p e below _ T1 m 68 #[rv a, iv v1, iv (1 : Int32), iv v3, iv (4 : Int32)] [(.int (0 : Int32))]
    refine gifYes X1 hx (pc := 68) (pc' := 80) (hb hby dp106_13_68) (by decide) (by decide) (by decide) ?_
    subst hn6 hn5 hn3 cL1 hn2 hn1
    refine Goes.retV X1 hx hret (hb hby dp106_13_80) (lvN X1 hlk (fun _ => rfl) ?_ (by decide) (by decide))
    exact ⟨rfl, N1, KK2, VG1⟩
  · show Gs p e below _ T1 m 68 #[rv a, iv v1, iv (1 : Int32), iv v3, iv (4 : Int32)] [(.int (1 : Int32))]
    refine gifNo X1 hx (hb hby dp106_13_68) (by decide) ?_
    refine giload X1 hx (hb hby dp106_13_71) rfl ?_
    refine giconst X1 hx (hb hby dp106_13_73) ?_
    refine Goes.st (fun tg kg => XS.idiv X1.here hx rfl (hb hby dp106_13_74) rfl (by decide) kg) ?_
    show Gs p e below _ T1 m 75 #[rv a, iv v1, iv (1 : Int32), iv v3, iv (4 : Int32)] [(.int ((4 : Int32) / (2 : Int32)))]
    rw [show ((4 : Int32) / (2 : Int32)) = (2 : Int32) from by decide]
    show Gs p e below _ T1 m 75 #[rv a, iv v1, iv (1 : Int32), iv v3, iv (4 : Int32)] [(.int (2 : Int32))]
    refine gistore X1 hx (hb hby dp106_13_75) trivial (l' := #[rv a, iv v1, iv (1 : Int32), iv v3, iv (2 : Int32)]) rfl ?_
    refine ggoto X1 hx (pc := 77) (pc' := 56) (hb hby dp106_13_77) (by decide) (by decide) ?_
    show Gs p e below _ T1 m 56 #[rv a, iv v1, iv (1 : Int32), iv v3, iv (2 : Int32)] []
    have f3 := (Ea.keep K1)
    have f4 := (Ff.keep K1 (ninS naF nin0))
    exact lift8_2 Z a0 hw hx hby hlk hret hml hnm hown hZ a aF kF v1 v3 n1_ n2_ n3_ (imin y0 y1) n5_ n6_ y0 y1 y2 y3 y4 y5 h0 T1.heap n0 T1 _ X1 rfl N1 Z1 f3 f4 VG1 lF naF KK2 hn1 hn3 rfl hn5 hn6
set_option maxRecDepth 65536 in
set_option maxHeartbeats 40000000 in
theorem lift8_5 {p : Program} {l : Launch} {e : Env} {s : State} {m : MethodId} {args : Array Value} {below : List Frame} {meth : Method} {c : Code}  (Z : State) (a0 : Array Value) (hw : ∀ d ∈ tables_1, d.before a0 Z = true) (hx : p.tables.exec = Jvm.exec) (hby : c.code = prog_106_method_13_code) (hlk : meth.locks = false) (hret : meth.sig.returnType = none) (hml : c.maxLocals = 5) (hnm : meth.name = "set") (hown : s.vm.findClass "com/example/redoubt/redoubt/policies/FirstFitQueue" = some m.cls) (hZ : Z.Warmed39 s.vm) (a aF : Addr) (kF : ClassId) (v1 v3 n1_ n2_ n3_ n4_ n5_ n6_ y0 y1 y2 y3 y4 y5 : Int32) (h0 hh : Heap) (n0 : Nat) (T0 : State) (locs0 : List Loc) (X0 : Stand p l e ({ frames := 2, cells := 0, slots := 0, locals := 28 } : Room) s m args below meth c T0 locs0 0 0) (e0 : T0.heap = hh) (N0 : Fr n0 locs0) (Z0 : n0 ≤ hh.size) (Ea : Exa Z hh a "com/example/redoubt/redoubt/policies/FirstFitQueue") (Ff : Fld Z hh a "com/example/redoubt/redoubt/policies/FirstFitQueue" "fewest" "[I" (.ref aF)) (VF : Arv Z hh aF kF .int (16 : Int32) (tl8 n1_ n2_ n3_ n4_ n5_ n6_ y0 y1 y2 y3 y4 y5) (.int (0 : Int32))) (lF : n0 ≤ aF) (naF : a ≠ aF) (K0 : Keep h0 hh [aF]) (hn1 : n1_ = (imin n2_ n3_)) (hn2 : n2_ = (imin n4_ n5_)) (hn3 : n3_ = (imin n6_ (2147483647 : Int32))) (hn4 : n4_ = (imin y0 y1)) (hn6 : n6_ = (imin y4 y5)) :
    Goes p e below (EN s (QSe8 Z aF kF y0 y1 y2 y3 y4 y5 h0 n0) ({ frames := 2, cells := 0, slots := 0, locals := 28 } : Room).cells ({ frames := 2, cells := 0, slots := 0, locals := 28 } : Room).slots) (T0.setTop (mkF m 56 #[rv a, iv v1, iv (1 : Int32), iv v3, iv (5 : Int32)] [])) := by
  show Gs p e below _ T0 m 56 #[rv a, iv v1, iv (1 : Int32), iv v3, iv (5 : Int32)] []
  refine giload X0 hx (hb hby dp106_13_56) rfl ?_
  refine giconst X0 hx (hb hby dp106_13_58) ?_
  refine gicmpNo X0 hx (hb hby dp106_13_59) (by decide) ?_
  refine galoadN X0 hx (hb hby dp106_13_62) rfl rfl ?_
  refine giload X0 hx (hb hby dp106_13_63) rfl ?_
  obtain ⟨cc1, qa1, qb1⟩ := Exa.cell Ea
  obtain ⟨_, _, ⟨T1, L1, k1, n1⟩, -, X1, ⟨Lc1, hQ1, l1, y1, z1⟩, st1⟩ := X0.privateBack hx (y := mN30) hown (mvT hZ (hwk hw 223 rfl)) (mvT hZ (hwk hw 224 rfl)) (selP (y := mN30) (as := #[]) (mvT hZ (hwk hw 145 rfl)) (mvP hZ (hwk hw 225 rfl)) (mvT hZ (hwk hw 224 rfl)) (by decide)) (Cond.privateMethod_at (mvP hZ (hwk hw 225 rfl) (args := #[]))) (mvT hZ (hwk hw 226 rfl)) (by decide) (backOf (W := 0) (rmLf l Z a0 hw [] a aF kF (16 : Int32) (tl8 n1_ n2_ n3_ n4_ n5_ n6_ y0 y1 y2 y3 y4 y5) (5 : Int32) y2 y3 n5_ 10 11 5 hh n0 Z0 Ff VF lF naF (by decide) (by decide) (by decide) (by decide) (by decide) (by decide) rfl rfl rfl (by show _ < 16; decide)) hZ (hwk hw 226 rfl) (hwk hw 146 rfl) (by decide) (by decide)) (g := (mkF m 65 #[rv a, iv v1, iv (1 : Int32), iv v3, iv (5 : Int32)] [(.int (5 : Int32)), (.ref a)])) rfl (by rw [hml]; rfl) (Steps.refl _) (a := a) (by rw [e0]; exact qa1) qb1 (argsL := [(.int (5 : Int32))]) (rest := []) (lenOf pd__I_Z_855 rfl) rfl (by show 2 * 0 + _ ≤ _; exact Nat.le_of_eq rfl) (hb hby dp106_13_65) (fun _ _ => ⟨rfl, e0, (by decide : 0 + 0 ≤ 0), (by decide : 0 + 0 ≤ 0)⟩)
  dsimp only [Pt.U, Pt.locs, Pt.cells, Pt.slots] at X1 l1 y1 z1 st1 hQ1
  subst l1 y1 z1
  obtain ⟨r1, rfl, N1q, K1, hr1, VF1⟩ := hQ1
  have KK2 := K0.trans K1 (allS (Or.inl (List.mem_of_getElem? (i := 0) rfl)) all0)
  have Z1 : n0 ≤ T1.heap.size := Nat.le_trans Z0 K1.1
  have VG1 : Arv Z T1.heap aF kF .int (16 : Int32) (tl8 n1_ n2_ n3_ n4_ (imin y2 y3) n6_ y0 y1 y2 y3 y4 y5) (.int (0 : Int32)) := VF1
  have N1 := Fr.app N0 N1q
  refine Goes.sts st1 ?_
  show Gs p e below _ T1 m 68 #[rv a, iv v1, iv (1 : Int32), iv v3, iv (5 : Int32)] [(.int r1)]
  rcases hr1 with ⟨cL1, rfl⟩ | ⟨cL1, rfl⟩
  · show Gs p e below _ T1 m 68 #[rv a, iv v1, iv (1 : Int32), iv v3, iv (5 : Int32)] [(.int (0 : Int32))]
    refine gifYes X1 hx (pc := 68) (pc' := 80) (hb hby dp106_13_68) (by decide) (by decide) (by decide) ?_
    subst hn6 hn4 hn3 cL1 hn2 hn1
    refine Goes.retV X1 hx hret (hb hby dp106_13_80) (lvN X1 hlk (fun _ => rfl) ?_ (by decide) (by decide))
    exact ⟨rfl, N1, KK2, VG1⟩
  · show Gs p e below _ T1 m 68 #[rv a, iv v1, iv (1 : Int32), iv v3, iv (5 : Int32)] [(.int (1 : Int32))]
    refine gifNo X1 hx (hb hby dp106_13_68) (by decide) ?_
    refine giload X1 hx (hb hby dp106_13_71) rfl ?_
    refine giconst X1 hx (hb hby dp106_13_73) ?_
    refine Goes.st (fun tg kg => XS.idiv X1.here hx rfl (hb hby dp106_13_74) rfl (by decide) kg) ?_
    show Gs p e below _ T1 m 75 #[rv a, iv v1, iv (1 : Int32), iv v3, iv (5 : Int32)] [(.int ((5 : Int32) / (2 : Int32)))]
    rw [show ((5 : Int32) / (2 : Int32)) = (2 : Int32) from by decide]
    show Gs p e below _ T1 m 75 #[rv a, iv v1, iv (1 : Int32), iv v3, iv (5 : Int32)] [(.int (2 : Int32))]
    refine gistore X1 hx (hb hby dp106_13_75) trivial (l' := #[rv a, iv v1, iv (1 : Int32), iv v3, iv (2 : Int32)]) rfl ?_
    refine ggoto X1 hx (pc := 77) (pc' := 56) (hb hby dp106_13_77) (by decide) (by decide) ?_
    show Gs p e below _ T1 m 56 #[rv a, iv v1, iv (1 : Int32), iv v3, iv (2 : Int32)] []
    have f3 := (Ea.keep K1)
    have f4 := (Ff.keep K1 (ninS naF nin0))
    exact lift8_2 Z a0 hw hx hby hlk hret hml hnm hown hZ a aF kF v1 v3 n1_ n2_ n3_ n4_ (imin y2 y3) n6_ y0 y1 y2 y3 y4 y5 h0 T1.heap n0 T1 _ X1 rfl N1 Z1 f3 f4 VG1 lF naF KK2 hn1 hn3 hn4 rfl hn6
set_option maxRecDepth 65536 in
set_option maxHeartbeats 40000000 in
theorem lift8_6 {p : Program} {l : Launch} {e : Env} {s : State} {m : MethodId} {args : Array Value} {below : List Frame} {meth : Method} {c : Code}  (Z : State) (a0 : Array Value) (hw : ∀ d ∈ tables_1, d.before a0 Z = true) (hx : p.tables.exec = Jvm.exec) (hby : c.code = prog_106_method_13_code) (hlk : meth.locks = false) (hret : meth.sig.returnType = none) (hml : c.maxLocals = 5) (hnm : meth.name = "set") (hown : s.vm.findClass "com/example/redoubt/redoubt/policies/FirstFitQueue" = some m.cls) (hZ : Z.Warmed39 s.vm) (a aF : Addr) (kF : ClassId) (v1 v3 n1_ n2_ n3_ n4_ n5_ n6_ y0 y1 y2 y3 y4 y5 : Int32) (h0 hh : Heap) (n0 : Nat) (T0 : State) (locs0 : List Loc) (X0 : Stand p l e ({ frames := 2, cells := 0, slots := 0, locals := 28 } : Room) s m args below meth c T0 locs0 0 0) (e0 : T0.heap = hh) (N0 : Fr n0 locs0) (Z0 : n0 ≤ hh.size) (Ea : Exa Z hh a "com/example/redoubt/redoubt/policies/FirstFitQueue") (Ff : Fld Z hh a "com/example/redoubt/redoubt/policies/FirstFitQueue" "fewest" "[I" (.ref aF)) (VF : Arv Z hh aF kF .int (16 : Int32) (tl8 n1_ n2_ n3_ n4_ n5_ n6_ y0 y1 y2 y3 y4 y5) (.int (0 : Int32))) (lF : n0 ≤ aF) (naF : a ≠ aF) (K0 : Keep h0 hh [aF]) (hn1 : n1_ = (imin n2_ n3_)) (hn2 : n2_ = (imin n4_ n5_)) (hn3 : n3_ = (imin n6_ (2147483647 : Int32))) (hn4 : n4_ = (imin y0 y1)) (hn5 : n5_ = (imin y2 y3)) :
    Goes p e below (EN s (QSe8 Z aF kF y0 y1 y2 y3 y4 y5 h0 n0) ({ frames := 2, cells := 0, slots := 0, locals := 28 } : Room).cells ({ frames := 2, cells := 0, slots := 0, locals := 28 } : Room).slots) (T0.setTop (mkF m 56 #[rv a, iv v1, iv (1 : Int32), iv v3, iv (6 : Int32)] [])) := by
  show Gs p e below _ T0 m 56 #[rv a, iv v1, iv (1 : Int32), iv v3, iv (6 : Int32)] []
  refine giload X0 hx (hb hby dp106_13_56) rfl ?_
  refine giconst X0 hx (hb hby dp106_13_58) ?_
  refine gicmpNo X0 hx (hb hby dp106_13_59) (by decide) ?_
  refine galoadN X0 hx (hb hby dp106_13_62) rfl rfl ?_
  refine giload X0 hx (hb hby dp106_13_63) rfl ?_
  obtain ⟨cc1, qa1, qb1⟩ := Exa.cell Ea
  obtain ⟨_, _, ⟨T1, L1, k1, n1⟩, -, X1, ⟨Lc1, hQ1, l1, y1, z1⟩, st1⟩ := X0.privateBack hx (y := mN30) hown (mvT hZ (hwk hw 223 rfl)) (mvT hZ (hwk hw 224 rfl)) (selP (y := mN30) (as := #[]) (mvT hZ (hwk hw 145 rfl)) (mvP hZ (hwk hw 225 rfl)) (mvT hZ (hwk hw 224 rfl)) (by decide)) (Cond.privateMethod_at (mvP hZ (hwk hw 225 rfl) (args := #[]))) (mvT hZ (hwk hw 226 rfl)) (by decide) (backOf (W := 0) (rmLf l Z a0 hw [] a aF kF (16 : Int32) (tl8 n1_ n2_ n3_ n4_ n5_ n6_ y0 y1 y2 y3 y4 y5) (6 : Int32) y4 y5 n6_ 12 13 6 hh n0 Z0 Ff VF lF naF (by decide) (by decide) (by decide) (by decide) (by decide) (by decide) rfl rfl rfl (by show _ < 16; decide)) hZ (hwk hw 226 rfl) (hwk hw 146 rfl) (by decide) (by decide)) (g := (mkF m 65 #[rv a, iv v1, iv (1 : Int32), iv v3, iv (6 : Int32)] [(.int (6 : Int32)), (.ref a)])) rfl (by rw [hml]; rfl) (Steps.refl _) (a := a) (by rw [e0]; exact qa1) qb1 (argsL := [(.int (6 : Int32))]) (rest := []) (lenOf pd__I_Z_855 rfl) rfl (by show 2 * 0 + _ ≤ _; exact Nat.le_of_eq rfl) (hb hby dp106_13_65) (fun _ _ => ⟨rfl, e0, (by decide : 0 + 0 ≤ 0), (by decide : 0 + 0 ≤ 0)⟩)
  dsimp only [Pt.U, Pt.locs, Pt.cells, Pt.slots] at X1 l1 y1 z1 st1 hQ1
  subst l1 y1 z1
  obtain ⟨r1, rfl, N1q, K1, hr1, VF1⟩ := hQ1
  have KK2 := K0.trans K1 (allS (Or.inl (List.mem_of_getElem? (i := 0) rfl)) all0)
  have Z1 : n0 ≤ T1.heap.size := Nat.le_trans Z0 K1.1
  have VG1 : Arv Z T1.heap aF kF .int (16 : Int32) (tl8 n1_ n2_ n3_ n4_ n5_ (imin y4 y5) y0 y1 y2 y3 y4 y5) (.int (0 : Int32)) := VF1
  have N1 := Fr.app N0 N1q
  refine Goes.sts st1 ?_
  show Gs p e below _ T1 m 68 #[rv a, iv v1, iv (1 : Int32), iv v3, iv (6 : Int32)] [(.int r1)]
  rcases hr1 with ⟨cL1, rfl⟩ | ⟨cL1, rfl⟩
  · show Gs p e below _ T1 m 68 #[rv a, iv v1, iv (1 : Int32), iv v3, iv (6 : Int32)] [(.int (0 : Int32))]
    refine gifYes X1 hx (pc := 68) (pc' := 80) (hb hby dp106_13_68) (by decide) (by decide) (by decide) ?_
    subst hn5 hn4 hn2 cL1 hn3 hn1
    refine Goes.retV X1 hx hret (hb hby dp106_13_80) (lvN X1 hlk (fun _ => rfl) ?_ (by decide) (by decide))
    exact ⟨rfl, N1, KK2, VG1⟩
  · show Gs p e below _ T1 m 68 #[rv a, iv v1, iv (1 : Int32), iv v3, iv (6 : Int32)] [(.int (1 : Int32))]
    refine gifNo X1 hx (hb hby dp106_13_68) (by decide) ?_
    refine giload X1 hx (hb hby dp106_13_71) rfl ?_
    refine giconst X1 hx (hb hby dp106_13_73) ?_
    refine Goes.st (fun tg kg => XS.idiv X1.here hx rfl (hb hby dp106_13_74) rfl (by decide) kg) ?_
    show Gs p e below _ T1 m 75 #[rv a, iv v1, iv (1 : Int32), iv v3, iv (6 : Int32)] [(.int ((6 : Int32) / (2 : Int32)))]
    rw [show ((6 : Int32) / (2 : Int32)) = (3 : Int32) from by decide]
    show Gs p e below _ T1 m 75 #[rv a, iv v1, iv (1 : Int32), iv v3, iv (6 : Int32)] [(.int (3 : Int32))]
    refine gistore X1 hx (hb hby dp106_13_75) trivial (l' := #[rv a, iv v1, iv (1 : Int32), iv v3, iv (3 : Int32)]) rfl ?_
    refine ggoto X1 hx (pc := 77) (pc' := 56) (hb hby dp106_13_77) (by decide) (by decide) ?_
    show Gs p e below _ T1 m 56 #[rv a, iv v1, iv (1 : Int32), iv v3, iv (3 : Int32)] []
    have f3 := (Ea.keep K1)
    have f4 := (Ff.keep K1 (ninS naF nin0))
    exact lift8_3 Z a0 hw hx hby hlk hret hml hnm hown hZ a aF kF v1 v3 n1_ n2_ n3_ n4_ n5_ (imin y4 y5) y0 y1 y2 y3 y4 y5 h0 T1.heap n0 T1 _ X1 rfl N1 Z1 f3 f4 VG1 lF naF KK2 hn1 hn2 hn4 hn5 rfl
theorem ef_Se2 (m : MethodId) (x0 : Addr) (x1 : Int32) (x2 : Int32) : entryFrame m #[(.ref x0), (.int x1), (.int x2)] 5 = mkF m 0 #[rv x0, iv x1, iv x2, .unset, .unset] [] := by first | (simp [entryFrame, mkF, argsToLocals, Value.category]; done) | rfl
set_option maxRecDepth 65536 in
set_option maxHeartbeats 40000000 in
theorem rmSe2 (l : Launch) (Z : State) (a0 : Array Value) (hw : ∀ d ∈ tables_1, d.before a0 Z = true) (ws : List Jvm.Cond) (a aO aR aP aF : Addr) (kO kP kF : ClassId) (o0 o1 o2 q0 q1 q2 pl y0 y1 y2 y3 y4 y5 : Int32) (h0 : Heap) (n0 : Nat) (Z0 : n0 ≤ h0.size) (Ea : Exa Z h0 a "com/example/redoubt/redoubt/policies/FirstFitQueue") (Fo : Fld Z h0 a "com/example/redoubt/redoubt/policies/FirstFitQueue" "order" "[I" (.ref aO)) (Ao : Arv Z h0 aO kO .int (3 : Int32) [(.int o0), (.int o1), (.int o2)] (.int (0 : Int32))) (Fp : Fld Z h0 a "com/example/redoubt/redoubt/policies/FirstFitQueue" "procs" "[I" (.ref aP)) (Ap : Arv Z h0 aP kP .int (3 : Int32) [(.int q0), (.int q1), (.int q2)] (.int (0 : Int32))) (Fl_ : Fld Z h0 a "com/example/redoubt/redoubt/policies/FirstFitQueue" "leaves" "I" (.int (8 : Int32))) (Ff : Fld Z h0 a "com/example/redoubt/redoubt/policies/FirstFitQueue" "fewest" "[I" (.ref aF)) (Fh : Fld Z h0 a "com/example/redoubt/redoubt/policies/FirstFitQueue" "shortest" "[D" .null) (VF : Arv Z h0 aF kF .int (16 : Int32) (tr8 y0 y1 y2 y3 y4 y5) (.int (0 : Int32))) (lF : n0 ≤ aF) (naF : a ≠ aF) (nPF : aP ≠ aF) (nOF : aO ≠ aF) (nRF : aR ≠ aF) (hpl : pl = 0 ∨ pl = 1 ∨ pl = 2 ∨ pl = 3 ∨ pl = 4 ∨ pl = 5) :
    MetFree l mN33 (head1 (Jvm.Cond.code mN33 prog_106_method_13_code 5 none :: ws) ({ frames := 2, cells := 0, slots := 0, locals := 28 } : Room)) (fun aa U => aa = #[(.ref a), (.int pl), (.int (1 : Int32))] ∧ Z.Warmed39 U.vm ∧ U.heap = h0) (fun _ _ _ _ _ => True) (fun _ u1_ o_ u2_ => ∃ v_ l_, o_ = .returned v_ ∧ QSe8 Z aF kF (uu pl (0 : Int32) (qq pl q0 q1 q2) y0) (uu pl (1 : Int32) (qq pl q0 q1 q2) y1) (uu pl (2 : Int32) (qq pl q0 q1 q2) y2) (uu pl (3 : Int32) (qq pl q0 q1 q2) y3) (uu pl (4 : Int32) (qq pl q0 q1 q2) y4) (uu pl (5 : Int32) (qq pl q0 q1 q2) y5) h0 n0 v_ u2_.heap l_ ∧ FrameEnd u1_ o_ u2_ l_ ({ frames := 2, cells := 0, slots := 0, locals := 28 } : Room).cells ({ frames := 2, cells := 0, slots := 0, locals := 28 } : Room).slots) := by
  refine MetFree.of_bodySF (plainFor_of_name pn_com_example_redoubt_redoubt_policies_FirstFitQueue) hisR ?_
  intro p e s m args below meth c s₁ Bd hml0 hP hK
  obtain ⟨rfl, hZ, hh⟩ := hP
  have hx := Bd.exec
  have hby := Bd.bytes
  have hlk := BodyLoose.notSynchronized Bd
  have hret := Bd.returns
  have hml : c.maxLocals = 5 := hml0
  have hown : s.vm.findClass "com/example/redoubt/redoubt/policies/FirstFitQueue" = some m.cls := findClass_of_methodNamed Bd.named
  have hnm := (name_of_methodNamed Bd.named Bd.method).1
  have X0 : Stand p l e ({ frames := 2, cells := 0, slots := 0, locals := 28 } : Room) s m #[(.ref a), (.int pl), (.int (1 : Int32))] below meth c s₁ [] 0 0 := Stand.of_body Bd
  have e0 : s₁.heap = h0 := by rw [← hh, Bd.state]; rfl
  have N0 := Fr.nil n0
  refine Goes.st (E := (EN s (QSe8 Z aF kF (uu pl (0 : Int32) (qq pl q0 q1 q2) y0) (uu pl (1 : Int32) (qq pl q0 q1 q2) y1) (uu pl (2 : Int32) (qq pl q0 q1 q2) y2) (uu pl (3 : Int32) (qq pl q0 q1 q2) y3) (uu pl (4 : Int32) (qq pl q0 q1 q2) y4) (uu pl (5 : Int32) (qq pl q0 q1 q2) y5) h0 n0) ({ frames := 2, cells := 0, slots := 0, locals := 28 } : Room).cells ({ frames := 2, cells := 0, slots := 0, locals := 28 } : Room).slots)) (fun tg kg => castTop (ef_Se2 m a pl (1 : Int32)) kg) ?_
  have K0 : Keep h0 h0 [aF] := Keep.refl _ _
  show Gs p e below _ s₁ m 0 #[rv a, iv pl, iv (1 : Int32), .unset, .unset] []
  refine galoadN X0 hx (hb hby dp106_13_0) rfl rfl ?_
  obtain ⟨T1, X1, e1, st1⟩ := getF X0 hx hZ hown (host := "") (Or.inl (hwk hw 194 rfl)) Via.refl e0 Fl_ (g := (mkF m 1 #[rv a, iv pl, iv (1 : Int32), .unset, .unset] [(.ref a)])) rfl rfl (hb hby dp106_13_1)
  refine Goes.st st1 ?_
  refine giloadN X1 hx (hb hby dp106_13_4) rfl ?_
  refine giadd X1 hx (hb hby dp106_13_5) trivial ?_
  refine gistoreN X1 hx (hb hby dp106_13_6) trivial (l' := #[rv a, iv pl, iv (1 : Int32), iv ((8 : Int32) + pl), .unset]) rfl ?_
  refine galoadN X1 hx (hb hby dp106_13_7) rfl rfl ?_
  obtain ⟨T2, X2, e2, st2⟩ := getF X1 hx hZ hown (host := "") (Or.inl (hwk hw 196 rfl)) Via.refl e1 Ff (g := (mkF m 8 #[rv a, iv pl, iv (1 : Int32), iv ((8 : Int32) + pl), .unset] [(.ref a)])) rfl rfl (hb hby dp106_13_8)
  refine Goes.st st2 ?_
  refine giloadN X2 hx (hb hby dp106_13_11) rfl ?_
  refine giloadN X2 hx (hb hby dp106_13_12) rfl ?_
  show Gs p e below _ T2 m 13 #[rv a, iv pl, iv (1 : Int32), iv ((8 : Int32) + pl), .unset] [(.int (1 : Int32)), (.int ((8 : Int32) + pl)), (.ref aF)]
  refine gifNo X2 hx (hb hby dp106_13_13) (by decide) ?_
  refine galoadN X2 hx (hb hby dp106_13_16) rfl rfl ?_
  obtain ⟨T3, X3, e3, st3⟩ := getF X2 hx hZ hown (host := "") (Or.inl (hwk hw 157 rfl)) Via.refl e2 Fp (g := (mkF m 17 #[rv a, iv pl, iv (1 : Int32), iv ((8 : Int32) + pl), .unset] [(.ref a), (.int ((8 : Int32) + pl)), (.ref aF)])) rfl rfl (hb hby dp106_13_17)
  refine Goes.st st3 ?_
  refine galoadN X3 hx (hb hby dp106_13_20) rfl rfl ?_
  refine giloadN X3 hx (hb hby dp106_13_21) rfl ?_
  obtain ⟨cc4, qa4, qb4⟩ := Exa.cell Ea
  obtain ⟨_, _, ⟨T4, L4, k4, n4⟩, -, X4, ⟨Lc4, hQ4, l4, y4, z4⟩, st4⟩ := X3.privateBack hx (y := mN31) hown (mvT hZ (hwk hw 217 rfl)) (mvT hZ (hwk hw 218 rfl)) (selP (y := mN31) (as := #[]) (mvT hZ (hwk hw 145 rfl)) (mvP hZ (hwk hw 219 rfl)) (mvT hZ (hwk hw 218 rfl)) (by decide)) (Cond.privateMethod_at (mvP hZ (hwk hw 219 rfl) (args := #[]))) (mvT hZ (hwk hw 220 rfl)) (by decide) (backOf (W := 3) (rmRa l Z a0 hw [] a aO kO o0 o1 o2 pl h0 n0 Z0 Fo Ao hpl) hZ (hwk hw 220 rfl) (hwk hw 146 rfl) (by decide) (by decide)) (g := (mkF m 22 #[rv a, iv pl, iv (1 : Int32), iv ((8 : Int32) + pl), .unset] [(.int pl), (.ref a), (.ref aP), (.int ((8 : Int32) + pl)), (.ref aF)])) rfl (by rw [hml]; rfl) (Steps.refl _) (a := a) (by rw [e3]; exact qa4) qb4 (argsL := [(.int pl)]) (rest := [(.ref aP), (.int ((8 : Int32) + pl)), (.ref aF)]) (lenOf pd__I_I_7ab rfl) rfl (by show 2 * 0 + _ ≤ _; exact Nat.le_of_eq rfl) (hb hby dp106_13_22) (fun _ _ => ⟨rfl, e3, (by decide : 0 + 0 ≤ 0), (by decide : 0 + 0 ≤ 0)⟩)
  dsimp only [Pt.U, Pt.locs, Pt.cells, Pt.slots] at X4 l4 y4 z4 st4 hQ4
  subst l4 y4 z4
  obtain ⟨rfl, N4q, eh4⟩ := hQ4
  have N4 := Fr.app N0 N4q
  refine Goes.sts st4 ?_
  show Gs p e below _ T4 m 25 #[rv a, iv pl, iv (1 : Int32), iv ((8 : Int32) + pl), .unset] [(.int (r3 pl)), (.ref aP), (.int ((8 : Int32) + pl)), (.ref aF)]
  obtain ⟨cl5, Ar5, qk5, Sz5, qz5, Ha5, Gf5⟩ := id Ap
  have in5 := inb_of (j := (r3 pl)) Sz5 (own_r3b hpl)
  refine Goes.st (fun tg kg => X4.iaload hx (j := (r3 pl)) (v := (.int (qq pl q0 q1 q2))) (by rw [eh4]; exact Ar5.1) (State.isArrayOf_alike hZ.alike Ar5.2.1) Ar5.2.2 in5 (Ha5.at in5 (own_r3g hpl _ _ _ _)) (g := (mkF m 25 #[rv a, iv pl, iv (1 : Int32), iv ((8 : Int32) + pl), .unset] [(.int (r3 pl)), (.ref aP), (.int ((8 : Int32) + pl)), (.ref aF)])) rfl rfl (hb hby dp106_13_25) tg kg) ?_
  refine ggoto X4 hx (pc := 26) (pc' := 31) (hb hby dp106_13_26) (by decide) (by decide) ?_
  show Gs p e below _ T4 m 31 #[rv a, iv pl, iv (1 : Int32), iv ((8 : Int32) + pl), .unset] [(.int (qq pl q0 q1 q2)), (.int ((8 : Int32) + pl)), (.ref aF)]
  obtain ⟨cl6, Ar6, qk6, Sz6, qz6, Ha6, Gf6⟩ := id VF
  obtain ⟨T6, h6, X6, e6, W6, st6⟩ := stI X4 hx hZ eh4 Ar6 (inb_of Sz6 (own_pb8 hpl)) (g := (mkF m 31 #[rv a, iv pl, iv (1 : Int32), iv ((8 : Int32) + pl), .unset] [(.int (qq pl q0 q1 q2)), (.int ((8 : Int32) + pl)), (.ref aF)])) rfl rfl (hb hby dp106_13_31)
  have N6 := Fr.snoc X6 N4 lF
  have V6 : Arv Z h6 aF kF .int (16 : Int32) (tl8 (imin (imin (imin y0 y1) (imin y2 y3)) (imin (imin y4 y5) (2147483647 : Int32))) (imin (imin y0 y1) (imin y2 y3)) (imin (imin y4 y5) (2147483647 : Int32)) (imin y0 y1) (imin y2 y3) (imin y4 y5) (uu pl (0 : Int32) (qq pl q0 q1 q2) y0) (uu pl (1 : Int32) (qq pl q0 q1 q2) y1) (uu pl (2 : Int32) (qq pl q0 q1 q2) y2) (uu pl (3 : Int32) (qq pl q0 q1 q2) y3) (uu pl (4 : Int32) (qq pl q0 q1 q2) y4) (uu pl (5 : Int32) (qq pl q0 q1 q2) y5)) (.int (0 : Int32)) := own_put8 hpl (Arv.set Ar6 qk6 Sz6 qz6 Ha6 Gf6 rfl W6 ((8 : Int32) + pl).toNatClampNeg rfl (own_pn8 hpl))
  refine Goes.st st6 ?_
  have KK7 := K0.wr W6 (Or.inl (List.mem_of_getElem? (i := 0) rfl))
  have Z6 : n0 ≤ h6.size := by have := W6.size; have := Z0; omega
  show Gs p e below _ T6 m 32 #[rv a, iv pl, iv (1 : Int32), iv ((8 : Int32) + pl), .unset] []
  refine galoadN X6 hx (hb hby dp106_13_32) rfl rfl ?_
  have f9 := (Fh.other W6 (Or.inl naF))
  obtain ⟨T8, X8, e8, st8⟩ := getF X6 hx hZ hown (host := "") (Or.inl (hwk hw 221 rfl)) Via.refl e6 f9 (g := (mkF m 33 #[rv a, iv pl, iv (1 : Int32), iv ((8 : Int32) + pl), .unset] [(.ref a)])) rfl rfl (hb hby dp106_13_33)
  refine Goes.st st8 ?_
  show Gs p e below _ T8 m 36 #[rv a, iv pl, iv (1 : Int32), iv ((8 : Int32) + pl), .unset] [.null]
  refine Goes.st (fun tg kg => XS.ifnullYes X8.here hx rfl (pc0 := 36) (pc' := 51) rfl (hb hby dp106_13_36) rfl (by decide) (by decide) kg) ?_
  show Gs p e below _ T8 m 51 #[rv a, iv pl, iv (1 : Int32), iv ((8 : Int32) + pl), .unset] []
  refine giloadN X8 hx (hb hby dp106_13_51) rfl ?_
  refine giconst X8 hx (hb hby dp106_13_52) ?_
  refine Goes.st (fun tg kg => XS.idiv X8.here hx rfl (hb hby dp106_13_53) rfl (by decide) kg) ?_
  show Gs p e below _ T8 m 54 #[rv a, iv pl, iv (1 : Int32), iv ((8 : Int32) + pl), .unset] [(.int (((8 : Int32) + pl) / (2 : Int32)))]
  refine gistore X8 hx (hb hby dp106_13_54) trivial (l' := #[rv a, iv pl, iv (1 : Int32), iv ((8 : Int32) + pl), iv (((8 : Int32) + pl) / (2 : Int32))]) rfl ?_
  show Gs p e below _ T8 m 56 #[rv a, iv pl, iv (1 : Int32), iv ((8 : Int32) + pl), iv (((8 : Int32) + pl) / (2 : Int32))] []
  have f10 := (Ea.wr W6)
  have f11 := (Ff.other W6 (Or.inl naF))
  rcases hpl with rfl | rfl | rfl | rfl | rfl | rfl
  · rw [show (((8 : Int32) + (0 : Int32)) / (2 : Int32)) = (4 : Int32) from by decide]
    show Gs p e below _ T8 m 56 #[rv a, iv (0 : Int32), iv (1 : Int32), iv ((8 : Int32) + (0 : Int32)), iv (4 : Int32)] []
    exact lift8_4 Z a0 hw hx hby hlk hret hml hnm hown hZ a aF kF (0 : Int32) ((8 : Int32) + (0 : Int32)) (imin (imin (imin y0 y1) (imin y2 y3)) (imin (imin y4 y5) (2147483647 : Int32))) (imin (imin y0 y1) (imin y2 y3)) (imin (imin y4 y5) (2147483647 : Int32)) (imin y0 y1) (imin y2 y3) (imin y4 y5) (uu (0 : Int32) (0 : Int32) (qq (0 : Int32) q0 q1 q2) y0) (uu (0 : Int32) (1 : Int32) (qq (0 : Int32) q0 q1 q2) y1) (uu (0 : Int32) (2 : Int32) (qq (0 : Int32) q0 q1 q2) y2) (uu (0 : Int32) (3 : Int32) (qq (0 : Int32) q0 q1 q2) y3) (uu (0 : Int32) (4 : Int32) (qq (0 : Int32) q0 q1 q2) y4) (uu (0 : Int32) (5 : Int32) (qq (0 : Int32) q0 q1 q2) y5) h0 h6 n0 T8 _ X8 e8 N6 Z6 f10 f11 V6 lF naF KK7 rfl rfl rfl rfl rfl
  · rw [show (((8 : Int32) + (1 : Int32)) / (2 : Int32)) = (4 : Int32) from by decide]
    show Gs p e below _ T8 m 56 #[rv a, iv (1 : Int32), iv (1 : Int32), iv ((8 : Int32) + (1 : Int32)), iv (4 : Int32)] []
    exact lift8_4 Z a0 hw hx hby hlk hret hml hnm hown hZ a aF kF (1 : Int32) ((8 : Int32) + (1 : Int32)) (imin (imin (imin y0 y1) (imin y2 y3)) (imin (imin y4 y5) (2147483647 : Int32))) (imin (imin y0 y1) (imin y2 y3)) (imin (imin y4 y5) (2147483647 : Int32)) (imin y0 y1) (imin y2 y3) (imin y4 y5) (uu (1 : Int32) (0 : Int32) (qq (1 : Int32) q0 q1 q2) y0) (uu (1 : Int32) (1 : Int32) (qq (1 : Int32) q0 q1 q2) y1) (uu (1 : Int32) (2 : Int32) (qq (1 : Int32) q0 q1 q2) y2) (uu (1 : Int32) (3 : Int32) (qq (1 : Int32) q0 q1 q2) y3) (uu (1 : Int32) (4 : Int32) (qq (1 : Int32) q0 q1 q2) y4) (uu (1 : Int32) (5 : Int32) (qq (1 : Int32) q0 q1 q2) y5) h0 h6 n0 T8 _ X8 e8 N6 Z6 f10 f11 V6 lF naF KK7 rfl rfl rfl rfl rfl
  · rw [show (((8 : Int32) + (2 : Int32)) / (2 : Int32)) = (5 : Int32) from by decide]
    show Gs p e below _ T8 m 56 #[rv a, iv (2 : Int32), iv (1 : Int32), iv ((8 : Int32) + (2 : Int32)), iv (5 : Int32)] []
    exact lift8_5 Z a0 hw hx hby hlk hret hml hnm hown hZ a aF kF (2 : Int32) ((8 : Int32) + (2 : Int32)) (imin (imin (imin y0 y1) (imin y2 y3)) (imin (imin y4 y5) (2147483647 : Int32))) (imin (imin y0 y1) (imin y2 y3)) (imin (imin y4 y5) (2147483647 : Int32)) (imin y0 y1) (imin y2 y3) (imin y4 y5) (uu (2 : Int32) (0 : Int32) (qq (2 : Int32) q0 q1 q2) y0) (uu (2 : Int32) (1 : Int32) (qq (2 : Int32) q0 q1 q2) y1) (uu (2 : Int32) (2 : Int32) (qq (2 : Int32) q0 q1 q2) y2) (uu (2 : Int32) (3 : Int32) (qq (2 : Int32) q0 q1 q2) y3) (uu (2 : Int32) (4 : Int32) (qq (2 : Int32) q0 q1 q2) y4) (uu (2 : Int32) (5 : Int32) (qq (2 : Int32) q0 q1 q2) y5) h0 h6 n0 T8 _ X8 e8 N6 Z6 f10 f11 V6 lF naF KK7 rfl rfl rfl rfl rfl
  · rw [show (((8 : Int32) + (3 : Int32)) / (2 : Int32)) = (5 : Int32) from by decide]
    show Gs p e below _ T8 m 56 #[rv a, iv (3 : Int32), iv (1 : Int32), iv ((8 : Int32) + (3 : Int32)), iv (5 : Int32)] []
    exact lift8_5 Z a0 hw hx hby hlk hret hml hnm hown hZ a aF kF (3 : Int32) ((8 : Int32) + (3 : Int32)) (imin (imin (imin y0 y1) (imin y2 y3)) (imin (imin y4 y5) (2147483647 : Int32))) (imin (imin y0 y1) (imin y2 y3)) (imin (imin y4 y5) (2147483647 : Int32)) (imin y0 y1) (imin y2 y3) (imin y4 y5) (uu (3 : Int32) (0 : Int32) (qq (3 : Int32) q0 q1 q2) y0) (uu (3 : Int32) (1 : Int32) (qq (3 : Int32) q0 q1 q2) y1) (uu (3 : Int32) (2 : Int32) (qq (3 : Int32) q0 q1 q2) y2) (uu (3 : Int32) (3 : Int32) (qq (3 : Int32) q0 q1 q2) y3) (uu (3 : Int32) (4 : Int32) (qq (3 : Int32) q0 q1 q2) y4) (uu (3 : Int32) (5 : Int32) (qq (3 : Int32) q0 q1 q2) y5) h0 h6 n0 T8 _ X8 e8 N6 Z6 f10 f11 V6 lF naF KK7 rfl rfl rfl rfl rfl
  · rw [show (((8 : Int32) + (4 : Int32)) / (2 : Int32)) = (6 : Int32) from by decide]
    show Gs p e below _ T8 m 56 #[rv a, iv (4 : Int32), iv (1 : Int32), iv ((8 : Int32) + (4 : Int32)), iv (6 : Int32)] []
    exact lift8_6 Z a0 hw hx hby hlk hret hml hnm hown hZ a aF kF (4 : Int32) ((8 : Int32) + (4 : Int32)) (imin (imin (imin y0 y1) (imin y2 y3)) (imin (imin y4 y5) (2147483647 : Int32))) (imin (imin y0 y1) (imin y2 y3)) (imin (imin y4 y5) (2147483647 : Int32)) (imin y0 y1) (imin y2 y3) (imin y4 y5) (uu (4 : Int32) (0 : Int32) (qq (4 : Int32) q0 q1 q2) y0) (uu (4 : Int32) (1 : Int32) (qq (4 : Int32) q0 q1 q2) y1) (uu (4 : Int32) (2 : Int32) (qq (4 : Int32) q0 q1 q2) y2) (uu (4 : Int32) (3 : Int32) (qq (4 : Int32) q0 q1 q2) y3) (uu (4 : Int32) (4 : Int32) (qq (4 : Int32) q0 q1 q2) y4) (uu (4 : Int32) (5 : Int32) (qq (4 : Int32) q0 q1 q2) y5) h0 h6 n0 T8 _ X8 e8 N6 Z6 f10 f11 V6 lF naF KK7 rfl rfl rfl rfl rfl
  · rw [show (((8 : Int32) + (5 : Int32)) / (2 : Int32)) = (6 : Int32) from by decide]
    show Gs p e below _ T8 m 56 #[rv a, iv (5 : Int32), iv (1 : Int32), iv ((8 : Int32) + (5 : Int32)), iv (6 : Int32)] []
    exact lift8_6 Z a0 hw hx hby hlk hret hml hnm hown hZ a aF kF (5 : Int32) ((8 : Int32) + (5 : Int32)) (imin (imin (imin y0 y1) (imin y2 y3)) (imin (imin y4 y5) (2147483647 : Int32))) (imin (imin y0 y1) (imin y2 y3)) (imin (imin y4 y5) (2147483647 : Int32)) (imin y0 y1) (imin y2 y3) (imin y4 y5) (uu (5 : Int32) (0 : Int32) (qq (5 : Int32) q0 q1 q2) y0) (uu (5 : Int32) (1 : Int32) (qq (5 : Int32) q0 q1 q2) y1) (uu (5 : Int32) (2 : Int32) (qq (5 : Int32) q0 q1 q2) y2) (uu (5 : Int32) (3 : Int32) (qq (5 : Int32) q0 q1 q2) y3) (uu (5 : Int32) (4 : Int32) (qq (5 : Int32) q0 q1 q2) y4) (uu (5 : Int32) (5 : Int32) (qq (5 : Int32) q0 q1 q2) y5) h0 h6 n0 T8 _ X8 e8 N6 Z6 f10 f11 V6 lF naF KK7 rfl rfl rfl rfl rfl
theorem ef_Ad2 (m : MethodId) (x0 : Addr) (x1 : Int32) (x2 : Int32) : entryFrame m #[(.ref x0), (.int x1), (.int x2)] 4 = mkF m 0 #[rv x0, iv x1, iv x2, .unset] [] := by first | (simp [entryFrame, mkF, argsToLocals, Value.category]; done) | rfl
def QAd2 (Z : State) (a aO aR aP aF : Addr) (kO kR kP kF : ClassId) (o0 o1 o2 p0 p1 p2 jb kk y0 y1 y2 y3 y4 y5 : Int32) (h0 : Heap) (n0 : Nat) (v : Option Value) (h : Heap) (L : List Loc) : Prop := v = some (.int ((kk * (3 : Int32)) + rk o0 o1 jb)) ∧ Fr n0 L ∧ Keep h0 h [aF] ∧ Arv Z h aF kF .int (16 : Int32) (tr8 (uu ((kk * (3 : Int32)) + rk o0 o1 jb) (0 : Int32) (sel jb p0 p1 p2) y0) (uu ((kk * (3 : Int32)) + rk o0 o1 jb) (1 : Int32) (sel jb p0 p1 p2) y1) (uu ((kk * (3 : Int32)) + rk o0 o1 jb) (2 : Int32) (sel jb p0 p1 p2) y2) (uu ((kk * (3 : Int32)) + rk o0 o1 jb) (3 : Int32) (sel jb p0 p1 p2) y3) (uu ((kk * (3 : Int32)) + rk o0 o1 jb) (4 : Int32) (sel jb p0 p1 p2) y4) (uu ((kk * (3 : Int32)) + rk o0 o1 jb) (5 : Int32) (sel jb p0 p1 p2) y5)) (.int (0 : Int32))
set_option maxRecDepth 65536 in
set_option maxHeartbeats 40000000 in
theorem rmAd2 (l : Launch) (Z : State) (a0 : Array Value) (hw : ∀ d ∈ tables_1, d.before a0 Z = true) (ws : List Jvm.Cond) (a aO aR aP aF : Addr) (kO kR kP kF : ClassId) (o0 o1 o2 p0 p1 p2 jb kk y0 y1 y2 y3 y4 y5 : Int32) (h0 : Heap) (n0 : Nat) (Z0 : n0 ≤ h0.size) (Ea : Exa Z h0 a "com/example/redoubt/redoubt/policies/FirstFitQueue") (Fo : Fld Z h0 a "com/example/redoubt/redoubt/policies/FirstFitQueue" "order" "[I" (.ref aO)) (Ao : Arv Z h0 aO kO .int (3 : Int32) [(.int o0), (.int o1), (.int o2)] (.int (0 : Int32))) (Fr_ : Fld Z h0 a "com/example/redoubt/redoubt/policies/FirstFitQueue" "rankOf" "[I" (.ref aR)) (Ar_ : Arv Z h0 aR kR .int (3 : Int32) [(.int (rk o0 o1 (0 : Int32))), (.int (rk o0 o1 (1 : Int32))), (.int (rk o0 o1 (2 : Int32)))] (.int (0 : Int32))) (Fp : Fld Z h0 a "com/example/redoubt/redoubt/policies/FirstFitQueue" "procs" "[I" (.ref aP)) (Ap : Arv Z h0 aP kP .int (3 : Int32) [(.int (sel o0 p0 p1 p2)), (.int (sel o1 p0 p1 p2)), (.int (sel o2 p0 p1 p2))] (.int (0 : Int32))) (Fl_ : Fld Z h0 a "com/example/redoubt/redoubt/policies/FirstFitQueue" "leaves" "I" (.int (8 : Int32))) (Ff : Fld Z h0 a "com/example/redoubt/redoubt/policies/FirstFitQueue" "fewest" "[I" (.ref aF)) (Fh : Fld Z h0 a "com/example/redoubt/redoubt/policies/FirstFitQueue" "shortest" "[D" .null) (VF : Arv Z h0 aF kF .int (16 : Int32) (tr8 y0 y1 y2 y3 y4 y5) (.int (0 : Int32))) (lF : n0 ≤ aF) (naF : a ≠ aF) (nPF : aP ≠ aF) (nOF : aO ≠ aF) (nRF : aR ≠ aF) (hp : Perm3 o0 o1 o2) (hjb : jb = 0 ∨ jb = 1 ∨ jb = 2) (hkk : kk = 0 ∨ kk = 1) :
    MetFree l mN34 (head1 (Jvm.Cond.code mN34 prog_106_method_2_code 4 (some .int) :: ws) ({ frames := 3, cells := 0, slots := 0, locals := 44 } : Room)) (fun aa U => aa = #[(.ref a), (.int jb), (.int kk)] ∧ Z.Warmed39 U.vm ∧ U.heap = h0) (fun _ _ _ _ _ => True) (fun _ u1_ o_ u2_ => ∃ v_ l_, o_ = .returned v_ ∧ QAd2 Z a aO aR aP aF kO kR kP kF o0 o1 o2 p0 p1 p2 jb kk y0 y1 y2 y3 y4 y5 h0 n0 v_ u2_.heap l_ ∧ FrameEnd u1_ o_ u2_ l_ ({ frames := 3, cells := 0, slots := 0, locals := 44 } : Room).cells ({ frames := 3, cells := 0, slots := 0, locals := 44 } : Room).slots) := by
  refine MetFree.of_bodySF (plainFor_of_name pn_com_example_redoubt_redoubt_policies_FirstFitQueue) hisR ?_
  intro p e s m args below meth c s₁ Bd hml0 hP hK
  obtain ⟨rfl, hZ, hh⟩ := hP
  have hx := Bd.exec
  have hby := Bd.bytes
  have hlk := BodyLoose.notSynchronized Bd
  have hret := Bd.returns
  have hml : c.maxLocals = 4 := hml0
  have hown : s.vm.findClass "com/example/redoubt/redoubt/policies/FirstFitQueue" = some m.cls := findClass_of_methodNamed Bd.named
  have hnm := (name_of_methodNamed Bd.named Bd.method).1
  have X0 : Stand p l e ({ frames := 3, cells := 0, slots := 0, locals := 44 } : Room) s m #[(.ref a), (.int jb), (.int kk)] below meth c s₁ [] 0 0 := Stand.of_body Bd
  have e0 : s₁.heap = h0 := by rw [← hh, Bd.state]; rfl
  have N0 := Fr.nil n0
  refine Goes.st (E := (EN s (QAd2 Z a aO aR aP aF kO kR kP kF o0 o1 o2 p0 p1 p2 jb kk y0 y1 y2 y3 y4 y5 h0 n0) ({ frames := 3, cells := 0, slots := 0, locals := 44 } : Room).cells ({ frames := 3, cells := 0, slots := 0, locals := 44 } : Room).slots)) (fun tg kg => castTop (ef_Ad2 m a jb kk) kg) ?_
  have K0 : Keep h0 h0 [aF] := Keep.refl _ _
  show Gs p e below _ s₁ m 0 #[rv a, iv jb, iv kk, .unset] []
  refine galoadN X0 hx (hb hby dp106_2_0) rfl rfl ?_
  refine giloadN X0 hx (hb hby dp106_2_1) rfl ?_
  refine giloadN X0 hx (hb hby dp106_2_2) rfl ?_
  obtain ⟨cq1, kq1, qa1, qb1, qc1⟩ := isOf hZ e0 Ea
  obtain ⟨_, _, ⟨T1, L1, k1, n1⟩, -, X1, ⟨Lc1, hQ1, l1, y1, z1⟩, st1⟩ := X0.virtualBack hx (y := mN32) (z := mN32) hown (mvT hZ (hwk hw 208 rfl)) (mvT hZ (hwk hw 209 rfl)) (notFace_of_selects (args := #[]) (mvT hZ (hwk hw 211 rfl))) (mvT hZ (hwk hw 211 rfl)) (mvT hZ (hwk hw 210 rfl)) (by decide) (backOf (W := 0) (rmPl l Z a0 hw [] a aO kO o0 o1 o2 aR kR (rk o0 o1 (0 : Int32)) (rk o0 o1 (1 : Int32)) (rk o0 o1 (2 : Int32)) jb kk h0 n0 Z0 Fo Ao Fr_ Ar_ hjb) hZ (hwk hw 212 rfl) (hwk hw 146 rfl) (by decide) (by decide)) qa1 qc1 (g := (mkF m 3 #[rv a, iv jb, iv kk, .unset] [(.int kk), (.int jb), (.ref a)])) rfl (by rw [hml]; rfl) (Steps.refl _) (argsL := [(.int jb), (.int kk)]) (rest := []) (lenOf pd__II_I_aae rfl) rfl (by show 2 * 0 + _ ≤ _; exact Nat.le_of_eq rfl) (hb hby dp106_2_3) (fun _ _ => ⟨rfl, e0, (by decide : 0 + 0 ≤ 0), (by decide : 0 + 0 ≤ 0)⟩)
  dsimp only [Pt.U, Pt.locs, Pt.cells, Pt.slots] at X1 l1 y1 z1 st1 hQ1
  subst l1 y1 z1
  obtain ⟨rfl, N1q, eh1⟩ := hQ1
  rw [own_selrk hjb] at st1
  have N1 := Fr.app N0 N1q
  refine Goes.sts st1 ?_
  show Gs p e below _ T1 m 6 #[rv a, iv jb, iv kk, .unset] [(.int ((kk * (3 : Int32)) + rk o0 o1 jb))]
  refine gistoreN X1 hx (hb hby dp106_2_6) trivial (l' := #[rv a, iv jb, iv kk, iv ((kk * (3 : Int32)) + rk o0 o1 jb)]) rfl ?_
  refine galoadN X1 hx (hb hby dp106_2_7) rfl rfl ?_
  refine giloadN X1 hx (hb hby dp106_2_8) rfl ?_
  refine giconst X1 hx (hb hby dp106_2_9) ?_
  obtain ⟨cc2, qa2, qb2⟩ := Exa.cell Ea
  obtain ⟨_, _, ⟨T2, L2, k2, n2⟩, -, X2, ⟨Lc2, hQ2, l2, y2, z2⟩, st2⟩ := X1.privateBack hx (y := mN33) hown (mvT hZ (hwk hw 213 rfl)) (mvT hZ (hwk hw 214 rfl)) (selP (y := mN33) (as := #[]) (mvT hZ (hwk hw 145 rfl)) (mvP hZ (hwk hw 215 rfl)) (mvT hZ (hwk hw 214 rfl)) (by decide)) (Cond.privateMethod_at (mvP hZ (hwk hw 215 rfl) (args := #[]))) (mvT hZ (hwk hw 216 rfl)) (by decide) (backOf (W := 0) (rmSe2 l Z a0 hw [] a aO aR aP aF kO kP kF o0 o1 o2 (sel o0 p0 p1 p2) (sel o1 p0 p1 p2) (sel o2 p0 p1 p2) ((kk * (3 : Int32)) + rk o0 o1 jb) y0 y1 y2 y3 y4 y5 h0 n0 Z0 Ea Fo Ao Fp Ap Fl_ Ff Fh VF lF naF nPF nOF nRF (own_plr6 hp hjb hkk)) hZ (hwk hw 216 rfl) (hwk hw 146 rfl) (by decide) (by decide)) (g := (mkF m 10 #[rv a, iv jb, iv kk, iv ((kk * (3 : Int32)) + rk o0 o1 jb)] [(.int (1 : Int32)), (.int ((kk * (3 : Int32)) + rk o0 o1 jb)), (.ref a)])) rfl (by rw [hml]; rfl) (Steps.refl _) (a := a) (by rw [eh1]; exact qa2) qb2 (argsL := [(.int ((kk * (3 : Int32)) + rk o0 o1 jb)), (.int (1 : Int32))]) (rest := []) (lenOf pd__IZ_V_bd6 rfl) rfl (by show 2 * 0 + _ ≤ _; exact Nat.le_of_eq rfl) (hb hby dp106_2_10) (fun _ _ => ⟨rfl, eh1, (by decide : 0 + 0 ≤ 0), (by decide : 0 + 0 ≤ 0)⟩)
  dsimp only [Pt.U, Pt.locs, Pt.cells, Pt.slots] at X2 l2 y2 z2 st2 hQ2
  subst l2 y2 z2
  obtain ⟨rfl, N2q, K2, VF2⟩ := hQ2
  have KK3 := K0.trans K2 (allS (Or.inl (List.mem_of_getElem? (i := 0) rfl)) all0)
  have Z2 : n0 ≤ T2.heap.size := Nat.le_trans Z0 K2.1
  rw [own_qq hp hjb hkk] at VF2
  have N2 := Fr.app N1 N2q
  refine Goes.sts st2 ?_
  show Gs p e below _ T2 m 13 #[rv a, iv jb, iv kk, iv ((kk * (3 : Int32)) + rk o0 o1 jb)] []
  refine giloadN X2 hx (hb hby dp106_2_13) rfl ?_
  refine Goes.retI X2 hx hret (hb hby dp106_2_14) (lvN X2 hlk (vsome hret) ?_ (by decide) (by decide))
  exact ⟨rfl, N2, KK3, VF2⟩
def QFf (Z : State) (r : Int32) (h0 : Heap) (n0 : Nat) (v : Option Value) (h : Heap) (L : List Loc) : Prop := v = some (.int r) ∧ Fr n0 L ∧ h = h0
theorem dp106_11_0 : decode prog_106_method_11_code 0 = .ok (.iload_n 2, 1) := by decide +kernel
theorem dp106_11_1 : decode prog_106_method_11_code 1 = .ok (.aload_n 0, 1) := by decide +kernel
theorem dp106_11_2 : decode prog_106_method_11_code 2 = .ok (.getfield 47, 3) := by decide +kernel
theorem dp106_11_5 : decode prog_106_method_11_code 5 = .ok (.if_icmp .ge 13, 3) := by decide +kernel
theorem dp106_11_8 : decode prog_106_method_11_code 8 = .ok (.aload_n 0, 1) := by decide +kernel
theorem dp106_11_9 : decode prog_106_method_11_code 9 = .ok (.getfield 50, 3) := by decide +kernel
theorem dp106_11_12 : decode prog_106_method_11_code 12 = .ok (.iconst 1, 1) := by decide +kernel
theorem dp106_11_13 : decode prog_106_method_11_code 13 = .ok (.iaload, 1) := by decide +kernel
theorem dp106_11_14 : decode prog_106_method_11_code 14 = .ok (.iload_n 1, 1) := by decide +kernel
theorem dp106_11_15 : decode prog_106_method_11_code 15 = .ok (.if_icmp .le 5, 3) := by decide +kernel
theorem dp106_11_18 : decode prog_106_method_11_code 18 = .ok (.iconst (-1), 1) := by decide +kernel
theorem dp106_11_19 : decode prog_106_method_11_code 19 = .ok (.ireturn, 1) := by decide +kernel
theorem dp106_11_20 : decode prog_106_method_11_code 20 = .ok (.aload_n 0, 1) := by decide +kernel
theorem dp106_11_21 : decode prog_106_method_11_code 21 = .ok (.getfield 47, 3) := by decide +kernel
theorem dp106_11_24 : decode prog_106_method_11_code 24 = .ok (.iload_n 2, 1) := by decide +kernel
theorem dp106_11_25 : decode prog_106_method_11_code 25 = .ok (.iadd, 1) := by decide +kernel
theorem dp106_11_26 : decode prog_106_method_11_code 26 = .ok (.istore_n 3, 1) := by decide +kernel
theorem dp106_11_27 : decode prog_106_method_11_code 27 = .ok (.aload_n 0, 1) := by decide +kernel
theorem dp106_11_28 : decode prog_106_method_11_code 28 = .ok (.getfield 50, 3) := by decide +kernel
theorem dp106_11_31 : decode prog_106_method_11_code 31 = .ok (.iload_n 3, 1) := by decide +kernel
theorem dp106_11_32 : decode prog_106_method_11_code 32 = .ok (.iaload, 1) := by decide +kernel
theorem dp106_11_33 : decode prog_106_method_11_code 33 = .ok (.iload_n 1, 1) := by decide +kernel
theorem dp106_11_34 : decode prog_106_method_11_code 34 = .ok (.if_icmp .le 29, 3) := by decide +kernel
theorem dp106_11_37 : decode prog_106_method_11_code 37 = .ok (.iload_n 3, 1) := by decide +kernel
theorem dp106_11_38 : decode prog_106_method_11_code 38 = .ok (.iconst 2, 1) := by decide +kernel
theorem dp106_11_39 : decode prog_106_method_11_code 39 = .ok (.irem, 1) := by decide +kernel
theorem dp106_11_40 : decode prog_106_method_11_code 40 = .ok (.iconst 1, 1) := by decide +kernel
theorem dp106_11_41 : decode prog_106_method_11_code 41 = .ok (.if_icmp .ne 10, 3) := by decide +kernel
theorem dp106_11_44 : decode prog_106_method_11_code 44 = .ok (.iload_n 3, 1) := by decide +kernel
theorem dp106_11_45 : decode prog_106_method_11_code 45 = .ok (.iconst 2, 1) := by decide +kernel
theorem dp106_11_46 : decode prog_106_method_11_code 46 = .ok (.idiv, 1) := by decide +kernel
theorem dp106_11_47 : decode prog_106_method_11_code 47 = .ok (.istore_n 3, 1) := by decide +kernel
theorem dp106_11_48 : decode prog_106_method_11_code 48 = .ok (.goto (-11), 3) := by decide +kernel
theorem dp106_11_51 : decode prog_106_method_11_code 51 = .ok (.iload_n 3, 1) := by decide +kernel
theorem dp106_11_52 : decode prog_106_method_11_code 52 = .ok (.ifCond .ne 5, 3) := by decide +kernel
theorem dp106_11_55 : decode prog_106_method_11_code 55 = .ok (.iconst (-1), 1) := by decide +kernel
theorem dp106_11_56 : decode prog_106_method_11_code 56 = .ok (.ireturn, 1) := by decide +kernel
theorem dp106_11_57 : decode prog_106_method_11_code 57 = .ok (.iinc 3 1, 3) := by decide +kernel
theorem dp106_11_60 : decode prog_106_method_11_code 60 = .ok (.goto (-33), 3) := by decide +kernel
theorem dp106_11_63 : decode prog_106_method_11_code 63 = .ok (.iload_n 3, 1) := by decide +kernel
theorem dp106_11_64 : decode prog_106_method_11_code 64 = .ok (.aload_n 0, 1) := by decide +kernel
theorem dp106_11_65 : decode prog_106_method_11_code 65 = .ok (.getfield 47, 3) := by decide +kernel
theorem dp106_11_68 : decode prog_106_method_11_code 68 = .ok (.if_icmp .ge 30, 3) := by decide +kernel
theorem dp106_11_71 : decode prog_106_method_11_code 71 = .ok (.aload_n 0, 1) := by decide +kernel
theorem dp106_11_72 : decode prog_106_method_11_code 72 = .ok (.getfield 50, 3) := by decide +kernel
theorem dp106_11_75 : decode prog_106_method_11_code 75 = .ok (.iconst 2, 1) := by decide +kernel
theorem dp106_11_76 : decode prog_106_method_11_code 76 = .ok (.iload_n 3, 1) := by decide +kernel
theorem dp106_11_77 : decode prog_106_method_11_code 77 = .ok (.imul, 1) := by decide +kernel
theorem dp106_11_78 : decode prog_106_method_11_code 78 = .ok (.iaload, 1) := by decide +kernel
theorem dp106_11_79 : decode prog_106_method_11_code 79 = .ok (.iload_n 1, 1) := by decide +kernel
theorem dp106_11_80 : decode prog_106_method_11_code 80 = .ok (.if_icmp .gt 9, 3) := by decide +kernel
theorem dp106_11_83 : decode prog_106_method_11_code 83 = .ok (.iconst 2, 1) := by decide +kernel
theorem dp106_11_84 : decode prog_106_method_11_code 84 = .ok (.iload_n 3, 1) := by decide +kernel
theorem dp106_11_85 : decode prog_106_method_11_code 85 = .ok (.imul, 1) := by decide +kernel
theorem dp106_11_86 : decode prog_106_method_11_code 86 = .ok (.goto 8, 3) := by decide +kernel
theorem dp106_11_89 : decode prog_106_method_11_code 89 = .ok (.iconst 2, 1) := by decide +kernel
theorem dp106_11_90 : decode prog_106_method_11_code 90 = .ok (.iload_n 3, 1) := by decide +kernel
theorem dp106_11_91 : decode prog_106_method_11_code 91 = .ok (.imul, 1) := by decide +kernel
theorem dp106_11_92 : decode prog_106_method_11_code 92 = .ok (.iconst 1, 1) := by decide +kernel
theorem dp106_11_93 : decode prog_106_method_11_code 93 = .ok (.iadd, 1) := by decide +kernel
theorem dp106_11_94 : decode prog_106_method_11_code 94 = .ok (.istore_n 3, 1) := by decide +kernel
theorem dp106_11_95 : decode prog_106_method_11_code 95 = .ok (.goto (-32), 3) := by decide +kernel
theorem dp106_11_98 : decode prog_106_method_11_code 98 = .ok (.iload_n 3, 1) := by decide +kernel
theorem dp106_11_99 : decode prog_106_method_11_code 99 = .ok (.aload_n 0, 1) := by decide +kernel
theorem dp106_11_100 : decode prog_106_method_11_code 100 = .ok (.getfield 47, 3) := by decide +kernel
theorem dp106_11_103 : decode prog_106_method_11_code 103 = .ok (.isub, 1) := by decide +kernel
theorem dp106_11_104 : decode prog_106_method_11_code 104 = .ok (.ireturn, 1) := by decide +kernel
set_option maxRecDepth 65536 in
set_option maxHeartbeats 40000000 in
theorem ffD {p : Program} {l : Launch} {e : Env} {s : State} {m : MethodId} {args : Array Value} {below : List Frame} {meth : Method} {c : Code}  (Z : State) (a0 : Array Value) (hw : ∀ d ∈ tables_1, d.before a0 Z = true) (hx : p.tables.exec = Jvm.exec) (hby : c.code = prog_106_method_11_code) (hlk : meth.locks = false) (hret : meth.sig.returnType = some .int) (hml : c.maxLocals = 4) (hnm : meth.name = "firstFitting") (hown : s.vm.findClass "com/example/redoubt/redoubt/policies/FirstFitQueue" = some m.cls) (hZ : Z.Warmed39 s.vm) (a aF : Addr) (kF : ClassId) (lv z : Int32) (xs : List Value) (f st rr nd : Int32) (n2 n3 u : Int32) (j : Nat) (h0 hh : Heap) (n0 : Nat) (T0 : State) (locs0 : List Loc) (X0 : Stand p l e ({ frames := 0, cells := 0, slots := 0, locals := 0 } : Room) s m args below meth c T0 locs0 0 0) (e0 : T0.heap = hh) (N0 : Fr n0 locs0) (Z0 : n0 ≤ hh.size) (Fl_ : Fld Z hh a "com/example/redoubt/redoubt/policies/FirstFitQueue" "leaves" "I" (.int lv)) (Ff : Fld Z hh a "com/example/redoubt/redoubt/policies/FirstFitQueue" "fewest" "[I" (.ref aF)) (VF : Arv Z hh aF kF .int z xs (.int (0 : Int32))) (hE : hh = h0) (hlt : nd < lv) (e2_ : (2 : Int32) * nd = n2) (e3_ : (2 : Int32) * nd + (1 : Int32) = n3) (hb2 : ¬ n2 < (0 : Int32) ∧ n2 < z) (hj : n2.toNatClampNeg = j) (gu : xs.getD j (.int (0 : Int32)) = .int u) (k1 : f < u → ∀ (T1 : State), Stand p l e ({ frames := 0, cells := 0, slots := 0, locals := 0 } : Room) s m args below meth c T1 locs0 0 0 → T1.heap = hh → Goes p e below (EN s (QFf Z rr h0 n0) ({ frames := 0, cells := 0, slots := 0, locals := 0 } : Room).cells ({ frames := 0, cells := 0, slots := 0, locals := 0 } : Room).slots) (T1.setTop (mkF m 63 #[rv a, iv f, iv st, iv n3] []))) (k2 : ¬ f < u → ∀ (T1 : State), Stand p l e ({ frames := 0, cells := 0, slots := 0, locals := 0 } : Room) s m args below meth c T1 locs0 0 0 → T1.heap = hh → Goes p e below (EN s (QFf Z rr h0 n0) ({ frames := 0, cells := 0, slots := 0, locals := 0 } : Room).cells ({ frames := 0, cells := 0, slots := 0, locals := 0 } : Room).slots) (T1.setTop (mkF m 63 #[rv a, iv f, iv st, iv n2] []))) :
    Goes p e below (EN s (QFf Z rr h0 n0) ({ frames := 0, cells := 0, slots := 0, locals := 0 } : Room).cells ({ frames := 0, cells := 0, slots := 0, locals := 0 } : Room).slots) (T0.setTop (mkF m 63 #[rv a, iv f, iv st, iv nd] [])) := by
  show Gs p e below _ T0 m 63 #[rv a, iv f, iv st, iv nd] []
  refine giloadN X0 hx (hb hby dp106_11_63) rfl ?_
  refine galoadN X0 hx (hb hby dp106_11_64) rfl rfl ?_
  obtain ⟨T1, X1, e1, st1⟩ := getF X0 hx hZ hown (host := "") (Or.inl (hwk hw 194 rfl)) Via.refl e0 Fl_ (g := (mkF m 65 #[rv a, iv f, iv st, iv nd] [(.ref a), (.int nd)])) rfl rfl (hb hby dp106_11_65)
  refine Goes.st st1 ?_
  refine gicmpNo X1 hx (hb hby dp106_11_68) (tlt hlt).2.1 ?_
  refine galoadN X1 hx (hb hby dp106_11_71) rfl rfl ?_
  obtain ⟨T2, X2, e2, st2⟩ := getF X1 hx hZ hown (host := "") (Or.inl (hwk hw 196 rfl)) Via.refl e1 Ff (g := (mkF m 72 #[rv a, iv f, iv st, iv nd] [(.ref a)])) rfl rfl (hb hby dp106_11_72)
  refine Goes.st st2 ?_
  refine giconst X2 hx (hb hby dp106_11_75) ?_
  refine giloadN X2 hx (hb hby dp106_11_76) rfl ?_
  refine gimul X2 hx (hb hby dp106_11_77) trivial ?_
  show Gs p e below _ T2 m 78 #[rv a, iv f, iv st, iv nd] [(.int ((2 : Int32) * nd)), (.ref aF)]
  rw [e2_]
  show Gs p e below _ T2 m 78 #[rv a, iv f, iv st, iv nd] [(.int n2), (.ref aF)]
  obtain ⟨cl3, Ar3, qk3, Sz3, qz3, Ha3, Gf3⟩ := id VF
  have in3 := inb_of (j := n2) Sz3 hb2
  refine Goes.st (fun tg kg => X2.iaload hx (j := n2) (v := (.int u)) (by rw [e2]; exact Ar3.1) (State.isArrayOf_alike hZ.alike Ar3.2.1) Ar3.2.2 in3 (Ha3.at in3 (by rw [hj]; exact gu)) (g := (mkF m 78 #[rv a, iv f, iv st, iv nd] [(.int n2), (.ref aF)])) rfl rfl (hb hby dp106_11_78) tg kg) ?_
  refine giloadN X2 hx (hb hby dp106_11_79) rfl ?_
  by_cases c4 : f < u
  · refine gicmpYes X2 hx (pc := 80) (pc' := 89) (hb hby dp106_11_80) (tlt c4).2.2.1 (by decide) (by decide) ?_
    refine giconst X2 hx (hb hby dp106_11_89) ?_
    refine giloadN X2 hx (hb hby dp106_11_90) rfl ?_
    refine gimul X2 hx (hb hby dp106_11_91) trivial ?_
    show Gs p e below _ T2 m 92 #[rv a, iv f, iv st, iv nd] [(.int ((2 : Int32) * nd))]
    refine giconst X2 hx (hb hby dp106_11_92) ?_
    refine giadd X2 hx (hb hby dp106_11_93) trivial ?_
    show Gs p e below _ T2 m 94 #[rv a, iv f, iv st, iv nd] [(.int (((2 : Int32) * nd) + (1 : Int32)))]
    rw [e3_]
    show Gs p e below _ T2 m 94 #[rv a, iv f, iv st, iv nd] [(.int n3)]
    refine gistoreN X2 hx (hb hby dp106_11_94) trivial (l' := #[rv a, iv f, iv st, iv n3]) rfl ?_
    refine ggoto X2 hx (pc := 95) (pc' := 63) (hb hby dp106_11_95) (by decide) (by decide) ?_
    show Gs p e below _ T2 m 63 #[rv a, iv f, iv st, iv n3] []
    exact k1 c4 _ X2 e2
  · refine gicmpNo X2 hx (hb hby dp106_11_80) (flt c4).2.2.1 ?_
    refine giconst X2 hx (hb hby dp106_11_83) ?_
    refine giloadN X2 hx (hb hby dp106_11_84) rfl ?_
    refine gimul X2 hx (hb hby dp106_11_85) trivial ?_
    show Gs p e below _ T2 m 86 #[rv a, iv f, iv st, iv nd] [(.int ((2 : Int32) * nd))]
    refine ggoto X2 hx (pc := 86) (pc' := 94) (hb hby dp106_11_86) (by decide) (by decide) ?_
    show Gs p e below _ T2 m 94 #[rv a, iv f, iv st, iv nd] [(.int ((2 : Int32) * nd))]
    rw [e2_]
    show Gs p e below _ T2 m 94 #[rv a, iv f, iv st, iv nd] [(.int n2)]
    refine gistoreN X2 hx (hb hby dp106_11_94) trivial (l' := #[rv a, iv f, iv st, iv n2]) rfl ?_
    refine ggoto X2 hx (pc := 95) (pc' := 63) (hb hby dp106_11_95) (by decide) (by decide) ?_
    show Gs p e below _ T2 m 63 #[rv a, iv f, iv st, iv n2] []
    exact k2 c4 _ X2 e2
set_option maxRecDepth 65536 in
set_option maxHeartbeats 40000000 in
theorem ffL {p : Program} {l : Launch} {e : Env} {s : State} {m : MethodId} {args : Array Value} {below : List Frame} {meth : Method} {c : Code} {r_ : Int32} (Z : State) (a0 : Array Value) (hw : ∀ d ∈ tables_1, d.before a0 Z = true) (hx : p.tables.exec = Jvm.exec) (hby : c.code = prog_106_method_11_code) (hlk : meth.locks = false) (hret : meth.sig.returnType = some .int) (hml : c.maxLocals = 4) (hnm : meth.name = "firstFitting") (hown : s.vm.findClass "com/example/redoubt/redoubt/policies/FirstFitQueue" = some m.cls) (hZ : Z.Warmed39 s.vm) (a aF : Addr) (kF : ClassId) (lv z : Int32) (xs : List Value) (f st rr nd : Int32) (h0 hh : Heap) (n0 : Nat) (T0 : State) (locs0 : List Loc) (X0 : Stand p l e ({ frames := 0, cells := 0, slots := 0, locals := 0 } : Room) s m args below meth c T0 locs0 0 0) (e0 : T0.heap = hh) (N0 : Fr n0 locs0) (Z0 : n0 ≤ hh.size) (Fl_ : Fld Z hh a "com/example/redoubt/redoubt/policies/FirstFitQueue" "leaves" "I" (.int lv)) (Ff : Fld Z hh a "com/example/redoubt/redoubt/policies/FirstFitQueue" "fewest" "[I" (.ref aF)) (VF : Arv Z hh aF kF .int z xs (.int (0 : Int32))) (hE : hh = h0) (hlt : ¬ nd < lv) (er : nd - lv = r_) (hr : rr = r_) :
    Goes p e below (EN s (QFf Z rr h0 n0) ({ frames := 0, cells := 0, slots := 0, locals := 0 } : Room).cells ({ frames := 0, cells := 0, slots := 0, locals := 0 } : Room).slots) (T0.setTop (mkF m 63 #[rv a, iv f, iv st, iv nd] [])) := by
  show Gs p e below _ T0 m 63 #[rv a, iv f, iv st, iv nd] []
  refine giloadN X0 hx (hb hby dp106_11_63) rfl ?_
  refine galoadN X0 hx (hb hby dp106_11_64) rfl rfl ?_
  obtain ⟨T1, X1, e1, st1⟩ := getF X0 hx hZ hown (host := "") (Or.inl (hwk hw 194 rfl)) Via.refl e0 Fl_ (g := (mkF m 65 #[rv a, iv f, iv st, iv nd] [(.ref a), (.int nd)])) rfl rfl (hb hby dp106_11_65)
  refine Goes.st st1 ?_
  refine gicmpYes X1 hx (pc := 68) (pc' := 98) (hb hby dp106_11_68) (flt hlt).2.1 (by decide) (by decide) ?_
  refine giloadN X1 hx (hb hby dp106_11_98) rfl ?_
  refine galoadN X1 hx (hb hby dp106_11_99) rfl rfl ?_
  obtain ⟨T2, X2, e2, st2⟩ := getF X1 hx hZ hown (host := "") (Or.inl (hwk hw 194 rfl)) Via.refl e1 Fl_ (g := (mkF m 100 #[rv a, iv f, iv st, iv nd] [(.ref a), (.int nd)])) rfl rfl (hb hby dp106_11_100)
  refine Goes.st st2 ?_
  refine gisub X2 hx (hb hby dp106_11_103) trivial ?_
  refine Goes.retI X2 hx hret (hb hby dp106_11_104) (lvN X2 hlk (vsome hret) ?_ (by decide) (by decide))
  rw [e2]
  exact ⟨by rw [er, hr], N0, hE⟩
set_option maxRecDepth 65536 in
set_option maxHeartbeats 40000000 in
theorem ffC {p : Program} {l : Launch} {e : Env} {s : State} {m : MethodId} {args : Array Value} {below : List Frame} {meth : Method} {c : Code}  (Z : State) (a0 : Array Value) (hw : ∀ d ∈ tables_1, d.before a0 Z = true) (hx : p.tables.exec = Jvm.exec) (hby : c.code = prog_106_method_11_code) (hlk : meth.locks = false) (hret : meth.sig.returnType = some .int) (hml : c.maxLocals = 4) (hnm : meth.name = "firstFitting") (hown : s.vm.findClass "com/example/redoubt/redoubt/policies/FirstFitQueue" = some m.cls) (hZ : Z.Warmed39 s.vm) (a aF : Addr) (kF : ClassId) (lv z : Int32) (xs : List Value) (f st rr nd : Int32) (u : Int32) (j : Nat) (h0 hh : Heap) (n0 : Nat) (T0 : State) (locs0 : List Loc) (X0 : Stand p l e ({ frames := 0, cells := 0, slots := 0, locals := 0 } : Room) s m args below meth c T0 locs0 0 0) (e0 : T0.heap = hh) (N0 : Fr n0 locs0) (Z0 : n0 ≤ hh.size) (Fl_ : Fld Z hh a "com/example/redoubt/redoubt/policies/FirstFitQueue" "leaves" "I" (.int lv)) (Ff : Fld Z hh a "com/example/redoubt/redoubt/policies/FirstFitQueue" "fewest" "[I" (.ref aF)) (VF : Arv Z hh aF kF .int z xs (.int (0 : Int32))) (hE : hh = h0) (hbn : ¬ nd < (0 : Int32) ∧ nd < z) (hj : nd.toNatClampNeg = j) (gu : xs.getD j (.int (0 : Int32)) = .int u) (k1 : f < u → ∀ (T1 : State), Stand p l e ({ frames := 0, cells := 0, slots := 0, locals := 0 } : Room) s m args below meth c T1 locs0 0 0 → T1.heap = hh → Goes p e below (EN s (QFf Z rr h0 n0) ({ frames := 0, cells := 0, slots := 0, locals := 0 } : Room).cells ({ frames := 0, cells := 0, slots := 0, locals := 0 } : Room).slots) (T1.setTop (mkF m 37 #[rv a, iv f, iv st, iv nd] []))) (k2 : ¬ f < u → ∀ (T1 : State), Stand p l e ({ frames := 0, cells := 0, slots := 0, locals := 0 } : Room) s m args below meth c T1 locs0 0 0 → T1.heap = hh → Goes p e below (EN s (QFf Z rr h0 n0) ({ frames := 0, cells := 0, slots := 0, locals := 0 } : Room).cells ({ frames := 0, cells := 0, slots := 0, locals := 0 } : Room).slots) (T1.setTop (mkF m 63 #[rv a, iv f, iv st, iv nd] []))) :
    Goes p e below (EN s (QFf Z rr h0 n0) ({ frames := 0, cells := 0, slots := 0, locals := 0 } : Room).cells ({ frames := 0, cells := 0, slots := 0, locals := 0 } : Room).slots) (T0.setTop (mkF m 27 #[rv a, iv f, iv st, iv nd] [])) := by
  show Gs p e below _ T0 m 27 #[rv a, iv f, iv st, iv nd] []
  refine galoadN X0 hx (hb hby dp106_11_27) rfl rfl ?_
  obtain ⟨T1, X1, e1, st1⟩ := getF X0 hx hZ hown (host := "") (Or.inl (hwk hw 196 rfl)) Via.refl e0 Ff (g := (mkF m 28 #[rv a, iv f, iv st, iv nd] [(.ref a)])) rfl rfl (hb hby dp106_11_28)
  refine Goes.st st1 ?_
  refine giloadN X1 hx (hb hby dp106_11_31) rfl ?_
  obtain ⟨cl2, Ar2, qk2, Sz2, qz2, Ha2, Gf2⟩ := id VF
  have in2 := inb_of (j := nd) Sz2 hbn
  refine Goes.st (fun tg kg => X1.iaload hx (j := nd) (v := (.int u)) (by rw [e1]; exact Ar2.1) (State.isArrayOf_alike hZ.alike Ar2.2.1) Ar2.2.2 in2 (Ha2.at in2 (by rw [hj]; exact gu)) (g := (mkF m 32 #[rv a, iv f, iv st, iv nd] [(.int nd), (.ref aF)])) rfl rfl (hb hby dp106_11_32) tg kg) ?_
  refine giloadN X1 hx (hb hby dp106_11_33) rfl ?_
  by_cases c3 : f < u
  · refine gicmpNo X1 hx (hb hby dp106_11_34) (tlt c3).2.2.2 ?_
    show Gs p e below _ T1 m 37 #[rv a, iv f, iv st, iv nd] []
    exact k1 c3 _ X1 e1
  · refine gicmpYes X1 hx (pc := 34) (pc' := 63) (hb hby dp106_11_34) (flt c3).2.2.2 (by decide) (by decide) ?_
    show Gs p e below _ T1 m 63 #[rv a, iv f, iv st, iv nd] []
    exact k2 c3 _ X1 e1
set_option maxRecDepth 65536 in
set_option maxHeartbeats 40000000 in
theorem ffU {p : Program} {l : Launch} {e : Env} {s : State} {m : MethodId} {args : Array Value} {below : List Frame} {meth : Method} {c : Code}  (Z : State) (a0 : Array Value) (hw : ∀ d ∈ tables_1, d.before a0 Z = true) (hx : p.tables.exec = Jvm.exec) (hby : c.code = prog_106_method_11_code) (hlk : meth.locks = false) (hret : meth.sig.returnType = some .int) (hml : c.maxLocals = 4) (hnm : meth.name = "firstFitting") (hown : s.vm.findClass "com/example/redoubt/redoubt/policies/FirstFitQueue" = some m.cls) (hZ : Z.Warmed39 s.vm) (a aF : Addr) (kF : ClassId) (lv z : Int32) (xs : List Value) (f st rr nd : Int32) (n2 : Int32) (h0 hh : Heap) (n0 : Nat) (T0 : State) (locs0 : List Loc) (X0 : Stand p l e ({ frames := 0, cells := 0, slots := 0, locals := 0 } : Room) s m args below meth c T0 locs0 0 0) (e0 : T0.heap = hh) (N0 : Fr n0 locs0) (Z0 : n0 ≤ hh.size) (Fl_ : Fld Z hh a "com/example/redoubt/redoubt/policies/FirstFitQueue" "leaves" "I" (.int lv)) (Ff : Fld Z hh a "com/example/redoubt/redoubt/policies/FirstFitQueue" "fewest" "[I" (.ref aF)) (VF : Arv Z hh aF kF .int z xs (.int (0 : Int32))) (hE : hh = h0) (hm : nd % (2 : Int32) = (1 : Int32)) (e2_ : nd / (2 : Int32) = n2) (k1 : ∀ (T1 : State), Stand p l e ({ frames := 0, cells := 0, slots := 0, locals := 0 } : Room) s m args below meth c T1 locs0 0 0 → T1.heap = hh → Goes p e below (EN s (QFf Z rr h0 n0) ({ frames := 0, cells := 0, slots := 0, locals := 0 } : Room).cells ({ frames := 0, cells := 0, slots := 0, locals := 0 } : Room).slots) (T1.setTop (mkF m 37 #[rv a, iv f, iv st, iv n2] []))) :
    Goes p e below (EN s (QFf Z rr h0 n0) ({ frames := 0, cells := 0, slots := 0, locals := 0 } : Room).cells ({ frames := 0, cells := 0, slots := 0, locals := 0 } : Room).slots) (T0.setTop (mkF m 37 #[rv a, iv f, iv st, iv nd] [])) := by
  show Gs p e below _ T0 m 37 #[rv a, iv f, iv st, iv nd] []
  refine giloadN X0 hx (hb hby dp106_11_37) rfl ?_
  refine giconst X0 hx (hb hby dp106_11_38) ?_
  refine Goes.st (fun tg kg => iremM X0 hx rfl (hb hby dp106_11_39) rfl (by decide) kg) ?_
  show Gs p e below _ T0 m 40 #[rv a, iv f, iv st, iv nd] [(.int (nd % (2 : Int32)))]
  refine giconst X0 hx (hb hby dp106_11_40) ?_
  refine gicmpNo X0 hx (hb hby dp106_11_41) (teq hm).2 ?_
  refine giloadN X0 hx (hb hby dp106_11_44) rfl ?_
  refine giconst X0 hx (hb hby dp106_11_45) ?_
  refine Goes.st (fun tg kg => XS.idiv X0.here hx rfl (hb hby dp106_11_46) rfl (by decide) kg) ?_
  show Gs p e below _ T0 m 47 #[rv a, iv f, iv st, iv nd] [(.int (nd / (2 : Int32)))]
  refine gistoreN X0 hx (hb hby dp106_11_47) trivial (l' := #[rv a, iv f, iv st, iv (nd / (2 : Int32))]) rfl ?_
  refine ggoto X0 hx (pc := 48) (pc' := 37) (hb hby dp106_11_48) (by decide) (by decide) ?_
  show Gs p e below _ T0 m 37 #[rv a, iv f, iv st, iv (nd / (2 : Int32))] []
  rw [e2_]
  exact k1 _ X0 e0
set_option maxRecDepth 65536 in
set_option maxHeartbeats 40000000 in
theorem ffE {p : Program} {l : Launch} {e : Env} {s : State} {m : MethodId} {args : Array Value} {below : List Frame} {meth : Method} {c : Code}  (Z : State) (a0 : Array Value) (hw : ∀ d ∈ tables_1, d.before a0 Z = true) (hx : p.tables.exec = Jvm.exec) (hby : c.code = prog_106_method_11_code) (hlk : meth.locks = false) (hret : meth.sig.returnType = some .int) (hml : c.maxLocals = 4) (hnm : meth.name = "firstFitting") (hown : s.vm.findClass "com/example/redoubt/redoubt/policies/FirstFitQueue" = some m.cls) (hZ : Z.Warmed39 s.vm) (a aF : Addr) (kF : ClassId) (lv z : Int32) (xs : List Value) (f st rr nd : Int32) (n2 : Int32) (h0 hh : Heap) (n0 : Nat) (T0 : State) (locs0 : List Loc) (X0 : Stand p l e ({ frames := 0, cells := 0, slots := 0, locals := 0 } : Room) s m args below meth c T0 locs0 0 0) (e0 : T0.heap = hh) (N0 : Fr n0 locs0) (Z0 : n0 ≤ hh.size) (Fl_ : Fld Z hh a "com/example/redoubt/redoubt/policies/FirstFitQueue" "leaves" "I" (.int lv)) (Ff : Fld Z hh a "com/example/redoubt/redoubt/policies/FirstFitQueue" "fewest" "[I" (.ref aF)) (VF : Arv Z hh aF kF .int z xs (.int (0 : Int32))) (hE : hh = h0) (hm : ¬ nd % (2 : Int32) = (1 : Int32)) (hn : ¬ nd = (0 : Int32)) (e2_ : nd + (1 : Int32) = n2) (k1 : ∀ (T1 : State), Stand p l e ({ frames := 0, cells := 0, slots := 0, locals := 0 } : Room) s m args below meth c T1 locs0 0 0 → T1.heap = hh → Goes p e below (EN s (QFf Z rr h0 n0) ({ frames := 0, cells := 0, slots := 0, locals := 0 } : Room).cells ({ frames := 0, cells := 0, slots := 0, locals := 0 } : Room).slots) (T1.setTop (mkF m 27 #[rv a, iv f, iv st, iv n2] []))) :
    Goes p e below (EN s (QFf Z rr h0 n0) ({ frames := 0, cells := 0, slots := 0, locals := 0 } : Room).cells ({ frames := 0, cells := 0, slots := 0, locals := 0 } : Room).slots) (T0.setTop (mkF m 37 #[rv a, iv f, iv st, iv nd] [])) := by
  show Gs p e below _ T0 m 37 #[rv a, iv f, iv st, iv nd] []
  refine giloadN X0 hx (hb hby dp106_11_37) rfl ?_
  refine giconst X0 hx (hb hby dp106_11_38) ?_
  refine Goes.st (fun tg kg => iremM X0 hx rfl (hb hby dp106_11_39) rfl (by decide) kg) ?_
  show Gs p e below _ T0 m 40 #[rv a, iv f, iv st, iv nd] [(.int (nd % (2 : Int32)))]
  refine giconst X0 hx (hb hby dp106_11_40) ?_
  refine gicmpYes X0 hx (pc := 41) (pc' := 51) (hb hby dp106_11_41) (feq hm).2 (by decide) (by decide) ?_
  refine giloadN X0 hx (hb hby dp106_11_51) rfl ?_
  refine gifYes X0 hx (pc := 52) (pc' := 57) (hb hby dp106_11_52) ((if0 _ _).trans (feq hn).2) (by decide) (by decide) ?_
  refine Goes.st (fun tg kg => XS.iinc X0.here hx rfl (hb hby dp106_11_57) rfl (l' := #[rv a, iv f, iv st, iv (nd + (1 : Int32))]) rfl kg) ?_
  refine ggoto X0 hx (pc := 60) (pc' := 27) (hb hby dp106_11_60) (by decide) (by decide) ?_
  show Gs p e below _ T0 m 27 #[rv a, iv f, iv st, iv (nd + (1 : Int32))] []
  rw [e2_]
  exact k1 _ X0 e0
set_option maxRecDepth 65536 in
set_option maxHeartbeats 40000000 in
theorem ffZ {p : Program} {l : Launch} {e : Env} {s : State} {m : MethodId} {args : Array Value} {below : List Frame} {meth : Method} {c : Code}  (Z : State) (a0 : Array Value) (hw : ∀ d ∈ tables_1, d.before a0 Z = true) (hx : p.tables.exec = Jvm.exec) (hby : c.code = prog_106_method_11_code) (hlk : meth.locks = false) (hret : meth.sig.returnType = some .int) (hml : c.maxLocals = 4) (hnm : meth.name = "firstFitting") (hown : s.vm.findClass "com/example/redoubt/redoubt/policies/FirstFitQueue" = some m.cls) (hZ : Z.Warmed39 s.vm) (a aF : Addr) (kF : ClassId) (lv z : Int32) (xs : List Value) (f st rr nd : Int32) (h0 hh : Heap) (n0 : Nat) (T0 : State) (locs0 : List Loc) (X0 : Stand p l e ({ frames := 0, cells := 0, slots := 0, locals := 0 } : Room) s m args below meth c T0 locs0 0 0) (e0 : T0.heap = hh) (N0 : Fr n0 locs0) (Z0 : n0 ≤ hh.size) (Fl_ : Fld Z hh a "com/example/redoubt/redoubt/policies/FirstFitQueue" "leaves" "I" (.int lv)) (Ff : Fld Z hh a "com/example/redoubt/redoubt/policies/FirstFitQueue" "fewest" "[I" (.ref aF)) (VF : Arv Z hh aF kF .int z xs (.int (0 : Int32))) (hE : hh = h0) (hm : ¬ nd % (2 : Int32) = (1 : Int32)) (hn : nd = (0 : Int32)) (hr : rr = (-1 : Int32)) :
    Goes p e below (EN s (QFf Z rr h0 n0) ({ frames := 0, cells := 0, slots := 0, locals := 0 } : Room).cells ({ frames := 0, cells := 0, slots := 0, locals := 0 } : Room).slots) (T0.setTop (mkF m 37 #[rv a, iv f, iv st, iv nd] [])) := by
  show Gs p e below _ T0 m 37 #[rv a, iv f, iv st, iv nd] []
  refine giloadN X0 hx (hb hby dp106_11_37) rfl ?_
  refine giconst X0 hx (hb hby dp106_11_38) ?_
  refine Goes.st (fun tg kg => iremM X0 hx rfl (hb hby dp106_11_39) rfl (by decide) kg) ?_
  show Gs p e below _ T0 m 40 #[rv a, iv f, iv st, iv nd] [(.int (nd % (2 : Int32)))]
  refine giconst X0 hx (hb hby dp106_11_40) ?_
  refine gicmpYes X0 hx (pc := 41) (pc' := 51) (hb hby dp106_11_41) (feq hm).2 (by decide) (by decide) ?_
  refine giloadN X0 hx (hb hby dp106_11_51) rfl ?_
  refine gifNo X0 hx (hb hby dp106_11_52) ((if0 _ _).trans (teq hn).2) ?_
  refine giconst X0 hx (hb hby dp106_11_55) ?_
  refine Goes.retI X0 hx hret (hb hby dp106_11_56) (lvN X0 hlk (vsome hret) ?_ (by decide) (by decide))
  rw [e0]
  exact ⟨by rw [hr]; rfl, N0, hE⟩
theorem ef_Ff1 (m : MethodId) (x0 : Addr) (x1 : Int32) (x2 : Int32) : entryFrame m #[(.ref x0), (.int x1), (.int x2)] 4 = mkF m 0 #[rv x0, iv x1, iv x2, .unset] [] := by first | (simp [entryFrame, mkF, argsToLocals, Value.category]; done) | rfl
set_option maxRecDepth 65536 in
set_option maxHeartbeats 40000000 in
theorem rmFf1 (l : Launch) (Z : State) (a0 : Array Value) (hw : ∀ d ∈ tables_1, d.before a0 Z = true) (ws : List Jvm.Cond) (a aF : Addr) (kF : ClassId) (st f y0 y1 y2 : Int32) (h0 : Heap) (n0 : Nat) (Z0 : n0 ≤ h0.size) (Fl_ : Fld Z h0 a "com/example/redoubt/redoubt/policies/FirstFitQueue" "leaves" "I" (.int (4 : Int32))) (Ff : Fld Z h0 a "com/example/redoubt/redoubt/policies/FirstFitQueue" "fewest" "[I" (.ref aF)) (VF : Arv Z h0 aF kF .int (8 : Int32) (tr4 y0 y1 y2) (.int (0 : Int32))) (hst : ¬ st < (0 : Int32)) :
    MetFree l mN35 (head1 (Jvm.Cond.code mN35 prog_106_method_11_code 4 (some .int) :: ws) ({ frames := 0, cells := 0, slots := 0, locals := 0 } : Room)) (fun aa U => aa = #[(.ref a), (.int f), (.int st)] ∧ Z.Warmed39 U.vm ∧ U.heap = h0) (fun _ _ _ _ _ => True) (fun _ u1_ o_ u2_ => ∃ v_ l_, o_ = .returned v_ ∧ QFf Z (ff4 st f y0 y1 y2) h0 n0 v_ u2_.heap l_ ∧ FrameEnd u1_ o_ u2_ l_ ({ frames := 0, cells := 0, slots := 0, locals := 0 } : Room).cells ({ frames := 0, cells := 0, slots := 0, locals := 0 } : Room).slots) := by
  refine MetFree.of_bodySF (plainFor_of_name pn_com_example_redoubt_redoubt_policies_FirstFitQueue) hisR ?_
  intro p e s m args below meth c s₁ Bd hml0 hP hK
  obtain ⟨rfl, hZ, hh⟩ := hP
  have hx := Bd.exec
  have hby := Bd.bytes
  have hlk := BodyLoose.notSynchronized Bd
  have hret := Bd.returns
  have hml : c.maxLocals = 4 := hml0
  have hown : s.vm.findClass "com/example/redoubt/redoubt/policies/FirstFitQueue" = some m.cls := findClass_of_methodNamed Bd.named
  have hnm := (name_of_methodNamed Bd.named Bd.method).1
  have X0 : Stand p l e ({ frames := 0, cells := 0, slots := 0, locals := 0 } : Room) s m #[(.ref a), (.int f), (.int st)] below meth c s₁ [] 0 0 := Stand.of_body Bd
  have e0 : s₁.heap = h0 := by rw [← hh, Bd.state]; rfl
  have N0 := Fr.nil n0
  refine Goes.st (E := (EN s (QFf Z (ff4 st f y0 y1 y2) h0 n0) ({ frames := 0, cells := 0, slots := 0, locals := 0 } : Room).cells ({ frames := 0, cells := 0, slots := 0, locals := 0 } : Room).slots)) (fun tg kg => castTop (ef_Ff1 m a f st) kg) ?_
  have sD := fun nd n2 n3 u j h1 h2 h3 h4 h5 h6 k1 k2 T0 X0 e0 => ffD (l := l) (e := e) (args := #[(.ref a), (.int f), (.int st)]) (below := below) Z a0 hw hx hby hlk hret hml hnm hown hZ a aF kF (4 : Int32) (8 : Int32) (tr4 y0 y1 y2) f st (ff4 st f y0 y1 y2) nd n2 n3 u j h0 h0 n0 T0 [] X0 e0 N0 Z0 Fl_ Ff VF rfl h1 h2 h3 h4 h5 h6 k1 k2
  have sL := fun nd r_ h1 h2 h3 T0 X0 e0 => ffL (r_ := r_) (l := l) (e := e) (args := #[(.ref a), (.int f), (.int st)]) (below := below) Z a0 hw hx hby hlk hret hml hnm hown hZ a aF kF (4 : Int32) (8 : Int32) (tr4 y0 y1 y2) f st (ff4 st f y0 y1 y2) nd h0 h0 n0 T0 [] X0 e0 N0 Z0 Fl_ Ff VF rfl h1 h2 h3
  have sC := fun nd u j h1 h2 h3 k1 k2 T0 X0 e0 => ffC (l := l) (e := e) (args := #[(.ref a), (.int f), (.int st)]) (below := below) Z a0 hw hx hby hlk hret hml hnm hown hZ a aF kF (4 : Int32) (8 : Int32) (tr4 y0 y1 y2) f st (ff4 st f y0 y1 y2) nd u j h0 h0 n0 T0 [] X0 e0 N0 Z0 Fl_ Ff VF rfl h1 h2 h3 k1 k2
  have sU := fun nd n2 h1 h2 k1 T0 X0 e0 => ffU (l := l) (e := e) (args := #[(.ref a), (.int f), (.int st)]) (below := below) Z a0 hw hx hby hlk hret hml hnm hown hZ a aF kF (4 : Int32) (8 : Int32) (tr4 y0 y1 y2) f st (ff4 st f y0 y1 y2) nd n2 h0 h0 n0 T0 [] X0 e0 N0 Z0 Fl_ Ff VF rfl h1 h2 k1
  have sE := fun nd n2 h1 h2 h3 k1 T0 X0 e0 => ffE (l := l) (e := e) (args := #[(.ref a), (.int f), (.int st)]) (below := below) Z a0 hw hx hby hlk hret hml hnm hown hZ a aF kF (4 : Int32) (8 : Int32) (tr4 y0 y1 y2) f st (ff4 st f y0 y1 y2) nd n2 h0 h0 n0 T0 [] X0 e0 N0 Z0 Fl_ Ff VF rfl h1 h2 h3 k1
  have sZ := fun nd h1 h2 h3 T0 X0 e0 => ffZ (l := l) (e := e) (args := #[(.ref a), (.int f), (.int st)]) (below := below) Z a0 hw hx hby hlk hret hml hnm hown hZ a aF kF (4 : Int32) (8 : Int32) (tr4 y0 y1 y2) f st (ff4 st f y0 y1 y2) nd h0 h0 n0 T0 [] X0 e0 N0 Z0 Fl_ Ff VF rfl h1 h2 h3
  have JD7 := fun (hr : ff4 st f y0 y1 y2 = rD4_7 f y0 y1 y2) => sL (7 : Int32) (3 : Int32) (by decide) (by decide) hr
  have JD6 := fun (hr : ff4 st f y0 y1 y2 = rD4_6 f y0 y1 y2) => sL (6 : Int32) (2 : Int32) (by decide) (by decide) hr
  have JD5 := fun (hr : ff4 st f y0 y1 y2 = rD4_5 f y0 y1 y2) => sL (5 : Int32) (1 : Int32) (by decide) (by decide) hr
  have JD4 := fun (hr : ff4 st f y0 y1 y2 = rD4_4 f y0 y1 y2) => sL (4 : Int32) (0 : Int32) (by decide) (by decide) hr
  have JD3 := fun (hr : ff4 st f y0 y1 y2 = rD4_3 f y0 y1 y2) => sD (3 : Int32) (6 : Int32) (7 : Int32) y2 6 (by decide) (by decide) (by decide) (by decide) (by decide) rfl (fun q => JD7 (hr.trans (if_pos q))) (fun q => JD6 (hr.trans (if_neg q)))
  have JC7 := fun (hr : ff4 st f y0 y1 y2 = rC4_7 f y0 y1 y2) => sC (7 : Int32) (2147483647 : Int32) 7 (by decide) (by decide) rfl (fun q => (sU (7 : Int32) (3 : Int32) (by decide) (by decide) (sU (3 : Int32) (1 : Int32) (by decide) (by decide) (sU (1 : Int32) (0 : Int32) (by decide) (by decide) (sZ (0 : Int32) (by decide) (by decide) (hr.trans (if_pos q))))))) (fun q => JD7 (hr.trans (if_neg q)))
  have JC6 := fun (hr : ff4 st f y0 y1 y2 = rC4_6 f y0 y1 y2) => sC (6 : Int32) y2 6 (by decide) (by decide) rfl (fun q => (sE (6 : Int32) (7 : Int32) (by decide) (by decide) (by decide) (JC7 (hr.trans (if_pos q))))) (fun q => JD6 (hr.trans (if_neg q)))
  have JC3 := fun (hr : ff4 st f y0 y1 y2 = rC4_3 f y0 y1 y2) => sC (3 : Int32) (imin y2 (2147483647 : Int32)) 3 (by decide) (by decide) rfl (fun q => (sU (3 : Int32) (1 : Int32) (by decide) (by decide) (sU (1 : Int32) (0 : Int32) (by decide) (by decide) (sZ (0 : Int32) (by decide) (by decide) (hr.trans (if_pos q)))))) (fun q => JD3 (hr.trans (if_neg q)))
  have JC5 := fun (hr : ff4 st f y0 y1 y2 = rC4_5 f y0 y1 y2) => sC (5 : Int32) y1 5 (by decide) (by decide) rfl (fun q => (sU (5 : Int32) (2 : Int32) (by decide) (by decide) (sE (2 : Int32) (3 : Int32) (by decide) (by decide) (by decide) (JC3 (hr.trans (if_pos q)))))) (fun q => JD5 (hr.trans (if_neg q)))
  have JC4 := fun (hr : ff4 st f y0 y1 y2 = rC4_4 f y0 y1 y2) => sC (4 : Int32) y0 4 (by decide) (by decide) rfl (fun q => (sE (4 : Int32) (5 : Int32) (by decide) (by decide) (by decide) (JC5 (hr.trans (if_pos q))))) (fun q => JD4 (hr.trans (if_neg q)))
  show Gs p e below _ s₁ m 0 #[rv a, iv f, iv st, .unset] []
  refine giloadN X0 hx (hb hby dp106_11_0) rfl ?_
  refine galoadN X0 hx (hb hby dp106_11_1) rfl rfl ?_
  obtain ⟨T1, X1, e1, st1⟩ := getF X0 hx hZ hown (host := "") (Or.inl (hwk hw 194 rfl)) Via.refl e0 Fl_ (g := (mkF m 2 #[rv a, iv f, iv st, .unset] [(.ref a), (.int st)])) rfl rfl (hb hby dp106_11_2)
  refine Goes.st st1 ?_
  by_cases c2 : st < (4 : Int32)
  · refine gicmpNo X1 hx (hb hby dp106_11_5) (tlt c2).2.1 ?_
    refine galoadN X1 hx (hb hby dp106_11_8) rfl rfl ?_
    obtain ⟨T3, X3, e3, st3⟩ := getF X1 hx hZ hown (host := "") (Or.inl (hwk hw 196 rfl)) Via.refl e1 Ff (g := (mkF m 9 #[rv a, iv f, iv st, .unset] [(.ref a)])) rfl rfl (hb hby dp106_11_9)
    refine Goes.st st3 ?_
    refine giconst X3 hx (hb hby dp106_11_12) ?_
    obtain ⟨cl4, Ar4, qk4, Sz4, qz4, Ha4, Gf4⟩ := id VF
    have in4 := inb_of (j := (1 : Int32)) Sz4 ⟨by decide, by decide⟩
    refine Goes.st (fun tg kg => X3.iaload hx (j := (1 : Int32)) (v := (.int (imin (imin y0 y1) (imin y2 (2147483647 : Int32))))) (by rw [e3]; exact Ar4.1) (State.isArrayOf_alike hZ.alike Ar4.2.1) Ar4.2.2 in4 (Ha4.at in4 rfl) (g := (mkF m 13 #[rv a, iv f, iv st, .unset] [(.int (1 : Int32)), (.ref aF)])) rfl rfl (hb hby dp106_11_13) tg kg) ?_
    refine giloadN X3 hx (hb hby dp106_11_14) rfl ?_
    show Gs p e below _ T3 m 15 #[rv a, iv f, iv st, .unset] [(.int f), (.int (imin (imin y0 y1) (imin y2 (2147483647 : Int32))))]
    by_cases c5 : f < (imin (imin y0 y1) (imin y2 (2147483647 : Int32)))
    · refine gicmpNo X3 hx (hb hby dp106_11_15) (tlt c5).2.2.2 ?_
      refine giconst X3 hx (hb hby dp106_11_18) ?_
      refine Goes.retI X3 hx hret (hb hby dp106_11_19) (lvN X3 hlk (vsome hret) ?_ (by decide) (by decide))
      rw [e3]
      exact ⟨congrArg (fun z => some (Value.int z)) ((if_pos c2 : ff4 st f y0 y1 y2 = (if f < (imin (imin y0 y1) (imin y2 (2147483647 : Int32))) then (-1 : Int32) else fs4 st f y0 y1 y2)).trans (if_pos c5)).symm, N0, rfl⟩
    · refine gicmpYes X3 hx (pc := 15) (pc' := 20) (hb hby dp106_11_15) (flt c5).2.2.2 (by decide) (by decide) ?_
      refine galoadN X3 hx (hb hby dp106_11_20) rfl rfl ?_
      obtain ⟨T6, X6, e6, st6⟩ := getF X3 hx hZ hown (host := "") (Or.inl (hwk hw 194 rfl)) Via.refl e3 Fl_ (g := (mkF m 21 #[rv a, iv f, iv st, .unset] [(.ref a)])) rfl rfl (hb hby dp106_11_21)
      refine Goes.st st6 ?_
      refine giloadN X6 hx (hb hby dp106_11_24) rfl ?_
      refine giadd X6 hx (hb hby dp106_11_25) trivial ?_
      refine gistoreN X6 hx (hb hby dp106_11_26) trivial (l' := #[rv a, iv f, iv st, iv ((4 : Int32) + st)]) rfl ?_
      show Gs p e below _ T6 m 27 #[rv a, iv f, iv st, iv ((4 : Int32) + st)] []
      rcases own_st4 hst c2 with rfl | rfl | rfl | rfl
      · have hr : ff4 (0 : Int32) f y0 y1 y2 = rC4_4 f y0 y1 y2 := (if_pos c2 : ff4 (0 : Int32) f y0 y1 y2 = (if f < (imin (imin y0 y1) (imin y2 (2147483647 : Int32))) then (-1 : Int32) else fs4 (0 : Int32) f y0 y1 y2)).trans ((if_neg c5).trans rfl)
        rw [show (4 : Int32) + (0 : Int32) = (4 : Int32) from by decide]
        exact JC4 hr _ X6 e6
      · have hr : ff4 (1 : Int32) f y0 y1 y2 = rC4_5 f y0 y1 y2 := (if_pos c2 : ff4 (1 : Int32) f y0 y1 y2 = (if f < (imin (imin y0 y1) (imin y2 (2147483647 : Int32))) then (-1 : Int32) else fs4 (1 : Int32) f y0 y1 y2)).trans ((if_neg c5).trans rfl)
        rw [show (4 : Int32) + (1 : Int32) = (5 : Int32) from by decide]
        exact JC5 hr _ X6 e6
      · have hr : ff4 (2 : Int32) f y0 y1 y2 = rC4_6 f y0 y1 y2 := (if_pos c2 : ff4 (2 : Int32) f y0 y1 y2 = (if f < (imin (imin y0 y1) (imin y2 (2147483647 : Int32))) then (-1 : Int32) else fs4 (2 : Int32) f y0 y1 y2)).trans ((if_neg c5).trans rfl)
        rw [show (4 : Int32) + (2 : Int32) = (6 : Int32) from by decide]
        exact JC6 hr _ X6 e6
      · have hr : ff4 (3 : Int32) f y0 y1 y2 = rC4_7 f y0 y1 y2 := (if_pos c2 : ff4 (3 : Int32) f y0 y1 y2 = (if f < (imin (imin y0 y1) (imin y2 (2147483647 : Int32))) then (-1 : Int32) else fs4 (3 : Int32) f y0 y1 y2)).trans ((if_neg c5).trans rfl)
        rw [show (4 : Int32) + (3 : Int32) = (7 : Int32) from by decide]
        exact JC7 hr _ X6 e6
  · refine gicmpYes X1 hx (pc := 5) (pc' := 18) (hb hby dp106_11_5) (flt c2).2.1 (by decide) (by decide) ?_
    refine giconst X1 hx (hb hby dp106_11_18) ?_
    refine Goes.retI X1 hx hret (hb hby dp106_11_19) (lvN X1 hlk (vsome hret) ?_ (by decide) (by decide))
    rw [e1]
    exact ⟨congrArg (fun z => some (Value.int z)) (if_neg c2 : ff4 st f y0 y1 y2 = (-1 : Int32)).symm, N0, rfl⟩
theorem ef_Ff2 (m : MethodId) (x0 : Addr) (x1 : Int32) (x2 : Int32) : entryFrame m #[(.ref x0), (.int x1), (.int x2)] 4 = mkF m 0 #[rv x0, iv x1, iv x2, .unset] [] := by first | (simp [entryFrame, mkF, argsToLocals, Value.category]; done) | rfl
set_option maxRecDepth 65536 in
set_option maxHeartbeats 40000000 in
theorem rmFf2 (l : Launch) (Z : State) (a0 : Array Value) (hw : ∀ d ∈ tables_1, d.before a0 Z = true) (ws : List Jvm.Cond) (a aF : Addr) (kF : ClassId) (st f y0 y1 y2 y3 y4 y5 : Int32) (h0 : Heap) (n0 : Nat) (Z0 : n0 ≤ h0.size) (Fl_ : Fld Z h0 a "com/example/redoubt/redoubt/policies/FirstFitQueue" "leaves" "I" (.int (8 : Int32))) (Ff : Fld Z h0 a "com/example/redoubt/redoubt/policies/FirstFitQueue" "fewest" "[I" (.ref aF)) (VF : Arv Z h0 aF kF .int (16 : Int32) (tr8 y0 y1 y2 y3 y4 y5) (.int (0 : Int32))) (hst : ¬ st < (0 : Int32)) :
    MetFree l mN35 (head1 (Jvm.Cond.code mN35 prog_106_method_11_code 4 (some .int) :: ws) ({ frames := 0, cells := 0, slots := 0, locals := 0 } : Room)) (fun aa U => aa = #[(.ref a), (.int f), (.int st)] ∧ Z.Warmed39 U.vm ∧ U.heap = h0) (fun _ _ _ _ _ => True) (fun _ u1_ o_ u2_ => ∃ v_ l_, o_ = .returned v_ ∧ QFf Z (ff8 st f y0 y1 y2 y3 y4 y5) h0 n0 v_ u2_.heap l_ ∧ FrameEnd u1_ o_ u2_ l_ ({ frames := 0, cells := 0, slots := 0, locals := 0 } : Room).cells ({ frames := 0, cells := 0, slots := 0, locals := 0 } : Room).slots) := by
  refine MetFree.of_bodySF (plainFor_of_name pn_com_example_redoubt_redoubt_policies_FirstFitQueue) hisR ?_
  intro p e s m args below meth c s₁ Bd hml0 hP hK
  obtain ⟨rfl, hZ, hh⟩ := hP
  have hx := Bd.exec
  have hby := Bd.bytes
  have hlk := BodyLoose.notSynchronized Bd
  have hret := Bd.returns
  have hml : c.maxLocals = 4 := hml0
  have hown : s.vm.findClass "com/example/redoubt/redoubt/policies/FirstFitQueue" = some m.cls := findClass_of_methodNamed Bd.named
  have hnm := (name_of_methodNamed Bd.named Bd.method).1
  have X0 : Stand p l e ({ frames := 0, cells := 0, slots := 0, locals := 0 } : Room) s m #[(.ref a), (.int f), (.int st)] below meth c s₁ [] 0 0 := Stand.of_body Bd
  have e0 : s₁.heap = h0 := by rw [← hh, Bd.state]; rfl
  have N0 := Fr.nil n0
  refine Goes.st (E := (EN s (QFf Z (ff8 st f y0 y1 y2 y3 y4 y5) h0 n0) ({ frames := 0, cells := 0, slots := 0, locals := 0 } : Room).cells ({ frames := 0, cells := 0, slots := 0, locals := 0 } : Room).slots)) (fun tg kg => castTop (ef_Ff2 m a f st) kg) ?_
  have sD := fun nd n2 n3 u j h1 h2 h3 h4 h5 h6 k1 k2 T0 X0 e0 => ffD (l := l) (e := e) (args := #[(.ref a), (.int f), (.int st)]) (below := below) Z a0 hw hx hby hlk hret hml hnm hown hZ a aF kF (8 : Int32) (16 : Int32) (tr8 y0 y1 y2 y3 y4 y5) f st (ff8 st f y0 y1 y2 y3 y4 y5) nd n2 n3 u j h0 h0 n0 T0 [] X0 e0 N0 Z0 Fl_ Ff VF rfl h1 h2 h3 h4 h5 h6 k1 k2
  have sL := fun nd r_ h1 h2 h3 T0 X0 e0 => ffL (r_ := r_) (l := l) (e := e) (args := #[(.ref a), (.int f), (.int st)]) (below := below) Z a0 hw hx hby hlk hret hml hnm hown hZ a aF kF (8 : Int32) (16 : Int32) (tr8 y0 y1 y2 y3 y4 y5) f st (ff8 st f y0 y1 y2 y3 y4 y5) nd h0 h0 n0 T0 [] X0 e0 N0 Z0 Fl_ Ff VF rfl h1 h2 h3
  have sC := fun nd u j h1 h2 h3 k1 k2 T0 X0 e0 => ffC (l := l) (e := e) (args := #[(.ref a), (.int f), (.int st)]) (below := below) Z a0 hw hx hby hlk hret hml hnm hown hZ a aF kF (8 : Int32) (16 : Int32) (tr8 y0 y1 y2 y3 y4 y5) f st (ff8 st f y0 y1 y2 y3 y4 y5) nd u j h0 h0 n0 T0 [] X0 e0 N0 Z0 Fl_ Ff VF rfl h1 h2 h3 k1 k2
  have sU := fun nd n2 h1 h2 k1 T0 X0 e0 => ffU (l := l) (e := e) (args := #[(.ref a), (.int f), (.int st)]) (below := below) Z a0 hw hx hby hlk hret hml hnm hown hZ a aF kF (8 : Int32) (16 : Int32) (tr8 y0 y1 y2 y3 y4 y5) f st (ff8 st f y0 y1 y2 y3 y4 y5) nd n2 h0 h0 n0 T0 [] X0 e0 N0 Z0 Fl_ Ff VF rfl h1 h2 k1
  have sE := fun nd n2 h1 h2 h3 k1 T0 X0 e0 => ffE (l := l) (e := e) (args := #[(.ref a), (.int f), (.int st)]) (below := below) Z a0 hw hx hby hlk hret hml hnm hown hZ a aF kF (8 : Int32) (16 : Int32) (tr8 y0 y1 y2 y3 y4 y5) f st (ff8 st f y0 y1 y2 y3 y4 y5) nd n2 h0 h0 n0 T0 [] X0 e0 N0 Z0 Fl_ Ff VF rfl h1 h2 h3 k1
  have sZ := fun nd h1 h2 h3 T0 X0 e0 => ffZ (l := l) (e := e) (args := #[(.ref a), (.int f), (.int st)]) (below := below) Z a0 hw hx hby hlk hret hml hnm hown hZ a aF kF (8 : Int32) (16 : Int32) (tr8 y0 y1 y2 y3 y4 y5) f st (ff8 st f y0 y1 y2 y3 y4 y5) nd h0 h0 n0 T0 [] X0 e0 N0 Z0 Fl_ Ff VF rfl h1 h2 h3
  have JD15 := fun (hr : ff8 st f y0 y1 y2 y3 y4 y5 = rD8_15 f y0 y1 y2 y3 y4 y5) => sL (15 : Int32) (7 : Int32) (by decide) (by decide) hr
  have JD14 := fun (hr : ff8 st f y0 y1 y2 y3 y4 y5 = rD8_14 f y0 y1 y2 y3 y4 y5) => sL (14 : Int32) (6 : Int32) (by decide) (by decide) hr
  have JD13 := fun (hr : ff8 st f y0 y1 y2 y3 y4 y5 = rD8_13 f y0 y1 y2 y3 y4 y5) => sL (13 : Int32) (5 : Int32) (by decide) (by decide) hr
  have JD12 := fun (hr : ff8 st f y0 y1 y2 y3 y4 y5 = rD8_12 f y0 y1 y2 y3 y4 y5) => sL (12 : Int32) (4 : Int32) (by decide) (by decide) hr
  have JD11 := fun (hr : ff8 st f y0 y1 y2 y3 y4 y5 = rD8_11 f y0 y1 y2 y3 y4 y5) => sL (11 : Int32) (3 : Int32) (by decide) (by decide) hr
  have JD10 := fun (hr : ff8 st f y0 y1 y2 y3 y4 y5 = rD8_10 f y0 y1 y2 y3 y4 y5) => sL (10 : Int32) (2 : Int32) (by decide) (by decide) hr
  have JD9 := fun (hr : ff8 st f y0 y1 y2 y3 y4 y5 = rD8_9 f y0 y1 y2 y3 y4 y5) => sL (9 : Int32) (1 : Int32) (by decide) (by decide) hr
  have JD8 := fun (hr : ff8 st f y0 y1 y2 y3 y4 y5 = rD8_8 f y0 y1 y2 y3 y4 y5) => sL (8 : Int32) (0 : Int32) (by decide) (by decide) hr
  have JD7 := fun (hr : ff8 st f y0 y1 y2 y3 y4 y5 = rD8_7 f y0 y1 y2 y3 y4 y5) => sD (7 : Int32) (14 : Int32) (15 : Int32) (2147483647 : Int32) 14 (by decide) (by decide) (by decide) (by decide) (by decide) rfl (fun q => JD15 (hr.trans (if_pos q))) (fun q => JD14 (hr.trans (if_neg q)))
  have JD6 := fun (hr : ff8 st f y0 y1 y2 y3 y4 y5 = rD8_6 f y0 y1 y2 y3 y4 y5) => sD (6 : Int32) (12 : Int32) (13 : Int32) y4 12 (by decide) (by decide) (by decide) (by decide) (by decide) rfl (fun q => JD13 (hr.trans (if_pos q))) (fun q => JD12 (hr.trans (if_neg q)))
  have JD5 := fun (hr : ff8 st f y0 y1 y2 y3 y4 y5 = rD8_5 f y0 y1 y2 y3 y4 y5) => sD (5 : Int32) (10 : Int32) (11 : Int32) y2 10 (by decide) (by decide) (by decide) (by decide) (by decide) rfl (fun q => JD11 (hr.trans (if_pos q))) (fun q => JD10 (hr.trans (if_neg q)))
  have JD3 := fun (hr : ff8 st f y0 y1 y2 y3 y4 y5 = rD8_3 f y0 y1 y2 y3 y4 y5) => sD (3 : Int32) (6 : Int32) (7 : Int32) (imin y4 y5) 6 (by decide) (by decide) (by decide) (by decide) (by decide) rfl (fun q => JD7 (hr.trans (if_pos q))) (fun q => JD6 (hr.trans (if_neg q)))
  have JC15 := fun (hr : ff8 st f y0 y1 y2 y3 y4 y5 = rC8_15 f y0 y1 y2 y3 y4 y5) => sC (15 : Int32) (2147483647 : Int32) 15 (by decide) (by decide) rfl (fun q => (sU (15 : Int32) (7 : Int32) (by decide) (by decide) (sU (7 : Int32) (3 : Int32) (by decide) (by decide) (sU (3 : Int32) (1 : Int32) (by decide) (by decide) (sU (1 : Int32) (0 : Int32) (by decide) (by decide) (sZ (0 : Int32) (by decide) (by decide) (hr.trans (if_pos q)))))))) (fun q => JD15 (hr.trans (if_neg q)))
  have JC14 := fun (hr : ff8 st f y0 y1 y2 y3 y4 y5 = rC8_14 f y0 y1 y2 y3 y4 y5) => sC (14 : Int32) (2147483647 : Int32) 14 (by decide) (by decide) rfl (fun q => (sE (14 : Int32) (15 : Int32) (by decide) (by decide) (by decide) (JC15 (hr.trans (if_pos q))))) (fun q => JD14 (hr.trans (if_neg q)))
  have JC7 := fun (hr : ff8 st f y0 y1 y2 y3 y4 y5 = rC8_7 f y0 y1 y2 y3 y4 y5) => sC (7 : Int32) (2147483647 : Int32) 7 (by decide) (by decide) rfl (fun q => (sU (7 : Int32) (3 : Int32) (by decide) (by decide) (sU (3 : Int32) (1 : Int32) (by decide) (by decide) (sU (1 : Int32) (0 : Int32) (by decide) (by decide) (sZ (0 : Int32) (by decide) (by decide) (hr.trans (if_pos q))))))) (fun q => JD7 (hr.trans (if_neg q)))
  have JC3 := fun (hr : ff8 st f y0 y1 y2 y3 y4 y5 = rC8_3 f y0 y1 y2 y3 y4 y5) => sC (3 : Int32) (imin (imin y4 y5) (2147483647 : Int32)) 3 (by decide) (by decide) rfl (fun q => (sU (3 : Int32) (1 : Int32) (by decide) (by decide) (sU (1 : Int32) (0 : Int32) (by decide) (by decide) (sZ (0 : Int32) (by decide) (by decide) (hr.trans (if_pos q)))))) (fun q => JD3 (hr.trans (if_neg q)))
  have JC13 := fun (hr : ff8 st f y0 y1 y2 y3 y4 y5 = rC8_13 f y0 y1 y2 y3 y4 y5) => sC (13 : Int32) y5 13 (by decide) (by decide) rfl (fun q => (sU (13 : Int32) (6 : Int32) (by decide) (by decide) (sE (6 : Int32) (7 : Int32) (by decide) (by decide) (by decide) (JC7 (hr.trans (if_pos q)))))) (fun q => JD13 (hr.trans (if_neg q)))
  have JC12 := fun (hr : ff8 st f y0 y1 y2 y3 y4 y5 = rC8_12 f y0 y1 y2 y3 y4 y5) => sC (12 : Int32) y4 12 (by decide) (by decide) rfl (fun q => (sE (12 : Int32) (13 : Int32) (by decide) (by decide) (by decide) (JC13 (hr.trans (if_pos q))))) (fun q => JD12 (hr.trans (if_neg q)))
  have JC11 := fun (hr : ff8 st f y0 y1 y2 y3 y4 y5 = rC8_11 f y0 y1 y2 y3 y4 y5) => sC (11 : Int32) y3 11 (by decide) (by decide) rfl (fun q => (sU (11 : Int32) (5 : Int32) (by decide) (by decide) (sU (5 : Int32) (2 : Int32) (by decide) (by decide) (sE (2 : Int32) (3 : Int32) (by decide) (by decide) (by decide) (JC3 (hr.trans (if_pos q))))))) (fun q => JD11 (hr.trans (if_neg q)))
  have JC10 := fun (hr : ff8 st f y0 y1 y2 y3 y4 y5 = rC8_10 f y0 y1 y2 y3 y4 y5) => sC (10 : Int32) y2 10 (by decide) (by decide) rfl (fun q => (sE (10 : Int32) (11 : Int32) (by decide) (by decide) (by decide) (JC11 (hr.trans (if_pos q))))) (fun q => JD10 (hr.trans (if_neg q)))
  have JC5 := fun (hr : ff8 st f y0 y1 y2 y3 y4 y5 = rC8_5 f y0 y1 y2 y3 y4 y5) => sC (5 : Int32) (imin y2 y3) 5 (by decide) (by decide) rfl (fun q => (sU (5 : Int32) (2 : Int32) (by decide) (by decide) (sE (2 : Int32) (3 : Int32) (by decide) (by decide) (by decide) (JC3 (hr.trans (if_pos q)))))) (fun q => JD5 (hr.trans (if_neg q)))
  have JC9 := fun (hr : ff8 st f y0 y1 y2 y3 y4 y5 = rC8_9 f y0 y1 y2 y3 y4 y5) => sC (9 : Int32) y1 9 (by decide) (by decide) rfl (fun q => (sU (9 : Int32) (4 : Int32) (by decide) (by decide) (sE (4 : Int32) (5 : Int32) (by decide) (by decide) (by decide) (JC5 (hr.trans (if_pos q)))))) (fun q => JD9 (hr.trans (if_neg q)))
  have JC8 := fun (hr : ff8 st f y0 y1 y2 y3 y4 y5 = rC8_8 f y0 y1 y2 y3 y4 y5) => sC (8 : Int32) y0 8 (by decide) (by decide) rfl (fun q => (sE (8 : Int32) (9 : Int32) (by decide) (by decide) (by decide) (JC9 (hr.trans (if_pos q))))) (fun q => JD8 (hr.trans (if_neg q)))
  show Gs p e below _ s₁ m 0 #[rv a, iv f, iv st, .unset] []
  refine giloadN X0 hx (hb hby dp106_11_0) rfl ?_
  refine galoadN X0 hx (hb hby dp106_11_1) rfl rfl ?_
  obtain ⟨T1, X1, e1, st1⟩ := getF X0 hx hZ hown (host := "") (Or.inl (hwk hw 194 rfl)) Via.refl e0 Fl_ (g := (mkF m 2 #[rv a, iv f, iv st, .unset] [(.ref a), (.int st)])) rfl rfl (hb hby dp106_11_2)
  refine Goes.st st1 ?_
  by_cases c2 : st < (8 : Int32)
  · refine gicmpNo X1 hx (hb hby dp106_11_5) (tlt c2).2.1 ?_
    refine galoadN X1 hx (hb hby dp106_11_8) rfl rfl ?_
    obtain ⟨T3, X3, e3, st3⟩ := getF X1 hx hZ hown (host := "") (Or.inl (hwk hw 196 rfl)) Via.refl e1 Ff (g := (mkF m 9 #[rv a, iv f, iv st, .unset] [(.ref a)])) rfl rfl (hb hby dp106_11_9)
    refine Goes.st st3 ?_
    refine giconst X3 hx (hb hby dp106_11_12) ?_
    obtain ⟨cl4, Ar4, qk4, Sz4, qz4, Ha4, Gf4⟩ := id VF
    have in4 := inb_of (j := (1 : Int32)) Sz4 ⟨by decide, by decide⟩
    refine Goes.st (fun tg kg => X3.iaload hx (j := (1 : Int32)) (v := (.int (imin (imin (imin y0 y1) (imin y2 y3)) (imin (imin y4 y5) (2147483647 : Int32))))) (by rw [e3]; exact Ar4.1) (State.isArrayOf_alike hZ.alike Ar4.2.1) Ar4.2.2 in4 (Ha4.at in4 rfl) (g := (mkF m 13 #[rv a, iv f, iv st, .unset] [(.int (1 : Int32)), (.ref aF)])) rfl rfl (hb hby dp106_11_13) tg kg) ?_
    refine giloadN X3 hx (hb hby dp106_11_14) rfl ?_
    show Gs p e below _ T3 m 15 #[rv a, iv f, iv st, .unset] [(.int f), (.int (imin (imin (imin y0 y1) (imin y2 y3)) (imin (imin y4 y5) (2147483647 : Int32))))]
    by_cases c5 : f < (imin (imin (imin y0 y1) (imin y2 y3)) (imin (imin y4 y5) (2147483647 : Int32)))
    · refine gicmpNo X3 hx (hb hby dp106_11_15) (tlt c5).2.2.2 ?_
      refine giconst X3 hx (hb hby dp106_11_18) ?_
      refine Goes.retI X3 hx hret (hb hby dp106_11_19) (lvN X3 hlk (vsome hret) ?_ (by decide) (by decide))
      rw [e3]
      exact ⟨congrArg (fun z => some (Value.int z)) ((if_pos c2 : ff8 st f y0 y1 y2 y3 y4 y5 = (if f < (imin (imin (imin y0 y1) (imin y2 y3)) (imin (imin y4 y5) (2147483647 : Int32))) then (-1 : Int32) else fs8 st f y0 y1 y2 y3 y4 y5)).trans (if_pos c5)).symm, N0, rfl⟩
    · refine gicmpYes X3 hx (pc := 15) (pc' := 20) (hb hby dp106_11_15) (flt c5).2.2.2 (by decide) (by decide) ?_
      refine galoadN X3 hx (hb hby dp106_11_20) rfl rfl ?_
      obtain ⟨T6, X6, e6, st6⟩ := getF X3 hx hZ hown (host := "") (Or.inl (hwk hw 194 rfl)) Via.refl e3 Fl_ (g := (mkF m 21 #[rv a, iv f, iv st, .unset] [(.ref a)])) rfl rfl (hb hby dp106_11_21)
      refine Goes.st st6 ?_
      refine giloadN X6 hx (hb hby dp106_11_24) rfl ?_
      refine giadd X6 hx (hb hby dp106_11_25) trivial ?_
      refine gistoreN X6 hx (hb hby dp106_11_26) trivial (l' := #[rv a, iv f, iv st, iv ((8 : Int32) + st)]) rfl ?_
      show Gs p e below _ T6 m 27 #[rv a, iv f, iv st, iv ((8 : Int32) + st)] []
      rcases own_st8 hst c2 with rfl | rfl | rfl | rfl | rfl | rfl | rfl | rfl
      · have hr : ff8 (0 : Int32) f y0 y1 y2 y3 y4 y5 = rC8_8 f y0 y1 y2 y3 y4 y5 := (if_pos c2 : ff8 (0 : Int32) f y0 y1 y2 y3 y4 y5 = (if f < (imin (imin (imin y0 y1) (imin y2 y3)) (imin (imin y4 y5) (2147483647 : Int32))) then (-1 : Int32) else fs8 (0 : Int32) f y0 y1 y2 y3 y4 y5)).trans ((if_neg c5).trans rfl)
        rw [show (8 : Int32) + (0 : Int32) = (8 : Int32) from by decide]
        exact JC8 hr _ X6 e6
      · have hr : ff8 (1 : Int32) f y0 y1 y2 y3 y4 y5 = rC8_9 f y0 y1 y2 y3 y4 y5 := (if_pos c2 : ff8 (1 : Int32) f y0 y1 y2 y3 y4 y5 = (if f < (imin (imin (imin y0 y1) (imin y2 y3)) (imin (imin y4 y5) (2147483647 : Int32))) then (-1 : Int32) else fs8 (1 : Int32) f y0 y1 y2 y3 y4 y5)).trans ((if_neg c5).trans rfl)
        rw [show (8 : Int32) + (1 : Int32) = (9 : Int32) from by decide]
        exact JC9 hr _ X6 e6
      · have hr : ff8 (2 : Int32) f y0 y1 y2 y3 y4 y5 = rC8_10 f y0 y1 y2 y3 y4 y5 := (if_pos c2 : ff8 (2 : Int32) f y0 y1 y2 y3 y4 y5 = (if f < (imin (imin (imin y0 y1) (imin y2 y3)) (imin (imin y4 y5) (2147483647 : Int32))) then (-1 : Int32) else fs8 (2 : Int32) f y0 y1 y2 y3 y4 y5)).trans ((if_neg c5).trans rfl)
        rw [show (8 : Int32) + (2 : Int32) = (10 : Int32) from by decide]
        exact JC10 hr _ X6 e6
      · have hr : ff8 (3 : Int32) f y0 y1 y2 y3 y4 y5 = rC8_11 f y0 y1 y2 y3 y4 y5 := (if_pos c2 : ff8 (3 : Int32) f y0 y1 y2 y3 y4 y5 = (if f < (imin (imin (imin y0 y1) (imin y2 y3)) (imin (imin y4 y5) (2147483647 : Int32))) then (-1 : Int32) else fs8 (3 : Int32) f y0 y1 y2 y3 y4 y5)).trans ((if_neg c5).trans rfl)
        rw [show (8 : Int32) + (3 : Int32) = (11 : Int32) from by decide]
        exact JC11 hr _ X6 e6
      · have hr : ff8 (4 : Int32) f y0 y1 y2 y3 y4 y5 = rC8_12 f y0 y1 y2 y3 y4 y5 := (if_pos c2 : ff8 (4 : Int32) f y0 y1 y2 y3 y4 y5 = (if f < (imin (imin (imin y0 y1) (imin y2 y3)) (imin (imin y4 y5) (2147483647 : Int32))) then (-1 : Int32) else fs8 (4 : Int32) f y0 y1 y2 y3 y4 y5)).trans ((if_neg c5).trans rfl)
        rw [show (8 : Int32) + (4 : Int32) = (12 : Int32) from by decide]
        exact JC12 hr _ X6 e6
      · have hr : ff8 (5 : Int32) f y0 y1 y2 y3 y4 y5 = rC8_13 f y0 y1 y2 y3 y4 y5 := (if_pos c2 : ff8 (5 : Int32) f y0 y1 y2 y3 y4 y5 = (if f < (imin (imin (imin y0 y1) (imin y2 y3)) (imin (imin y4 y5) (2147483647 : Int32))) then (-1 : Int32) else fs8 (5 : Int32) f y0 y1 y2 y3 y4 y5)).trans ((if_neg c5).trans rfl)
        rw [show (8 : Int32) + (5 : Int32) = (13 : Int32) from by decide]
        exact JC13 hr _ X6 e6
      · have hr : ff8 (6 : Int32) f y0 y1 y2 y3 y4 y5 = rC8_14 f y0 y1 y2 y3 y4 y5 := (if_pos c2 : ff8 (6 : Int32) f y0 y1 y2 y3 y4 y5 = (if f < (imin (imin (imin y0 y1) (imin y2 y3)) (imin (imin y4 y5) (2147483647 : Int32))) then (-1 : Int32) else fs8 (6 : Int32) f y0 y1 y2 y3 y4 y5)).trans ((if_neg c5).trans rfl)
        rw [show (8 : Int32) + (6 : Int32) = (14 : Int32) from by decide]
        exact JC14 hr _ X6 e6
      · have hr : ff8 (7 : Int32) f y0 y1 y2 y3 y4 y5 = rC8_15 f y0 y1 y2 y3 y4 y5 := (if_pos c2 : ff8 (7 : Int32) f y0 y1 y2 y3 y4 y5 = (if f < (imin (imin (imin y0 y1) (imin y2 y3)) (imin (imin y4 y5) (2147483647 : Int32))) then (-1 : Int32) else fs8 (7 : Int32) f y0 y1 y2 y3 y4 y5)).trans ((if_neg c5).trans rfl)
        rw [show (8 : Int32) + (7 : Int32) = (15 : Int32) from by decide]
        exact JC15 hr _ X6 e6
  · refine gicmpYes X1 hx (pc := 5) (pc' := 18) (hb hby dp106_11_5) (flt c2).2.1 (by decide) (by decide) ?_
    refine giconst X1 hx (hb hby dp106_11_18) ?_
    refine Goes.retI X1 hx hret (hb hby dp106_11_19) (lvN X1 hlk (vsome hret) ?_ (by decide) (by decide))
    rw [e1]
    exact ⟨congrArg (fun z => some (Value.int z)) (if_neg c2 : ff8 st f y0 y1 y2 y3 y4 y5 = (-1 : Int32)).symm, N0, rfl⟩
theorem dmethod_3_0 : decode method_3_code 0 = .ok (.aload_n 0, 1) := by decide +kernel
theorem dmethod_3_1 : decode method_3_code 1 = .ok (.iconst 0, 1) := by decide +kernel
theorem dmethod_3_2 : decode method_3_code 2 = .ok (.iaload, 1) := by decide +kernel
theorem dmethod_3_3 : decode method_3_code 3 = .ok (.iload_n 1, 1) := by decide +kernel
theorem dmethod_3_4 : decode method_3_code 4 = .ok (.if_icmp .ne 5, 3) := by decide +kernel
theorem dmethod_3_7 : decode method_3_code 7 = .ok (.iconst 0, 1) := by decide +kernel
theorem dmethod_3_8 : decode method_3_code 8 = .ok (.ireturn, 1) := by decide +kernel
theorem dmethod_3_9 : decode method_3_code 9 = .ok (.aload_n 0, 1) := by decide +kernel
theorem dmethod_3_10 : decode method_3_code 10 = .ok (.iconst 1, 1) := by decide +kernel
theorem dmethod_3_11 : decode method_3_code 11 = .ok (.iaload, 1) := by decide +kernel
theorem dmethod_3_12 : decode method_3_code 12 = .ok (.iload_n 1, 1) := by decide +kernel
theorem dmethod_3_13 : decode method_3_code 13 = .ok (.if_icmp .ne 5, 3) := by decide +kernel
theorem dmethod_3_16 : decode method_3_code 16 = .ok (.iconst 1, 1) := by decide +kernel
theorem dmethod_3_17 : decode method_3_code 17 = .ok (.ireturn, 1) := by decide +kernel
theorem dmethod_3_18 : decode method_3_code 18 = .ok (.iconst 2, 1) := by decide +kernel
theorem dmethod_3_19 : decode method_3_code 19 = .ok (.ireturn, 1) := by decide +kernel
theorem pn_com_example_redoubt_redoubt_policies_FirstFitQueueFirstFittingPinLaw : plainName "com/example/redoubt/redoubt/policies/FirstFitQueueFirstFittingPinLaw" = true := by first | (simp [plainName, overriddenIn]; done) | decide +kernel
theorem ef_Rk (m : MethodId) (x0 : Addr) (x1 : Int32) : entryFrame m #[(.ref x0), (.int x1)] 2 = mkF m 0 #[rv x0, iv x1] [] := by first | (simp [entryFrame, mkF, argsToLocals, Value.category]; done) | rfl
def QRk (Z : State) (aO : Addr) (kO : ClassId) (o0 o1 o2 jb : Int32) (h0 : Heap) (n0 : Nat) (v : Option Value) (h : Heap) (L : List Loc) : Prop := v = some (.int (rk o0 o1 jb)) ∧ Fr n0 L ∧ h = h0
set_option maxRecDepth 65536 in
set_option maxHeartbeats 40000000 in
theorem rmRk (l : Launch) (Z : State) (a0 : Array Value) (hw : ∀ d ∈ tables_1, d.before a0 Z = true) (ws : List Jvm.Cond) (aO : Addr) (kO : ClassId) (o0 o1 o2 jb : Int32) (h0 : Heap) (n0 : Nat) (Z0 : n0 ≤ h0.size) (Ao : Arv Z h0 aO kO .int (3 : Int32) [(.int o0), (.int o1), (.int o2)] (.int (0 : Int32))) :
    MetFree l mN36 (head1 (Jvm.Cond.code mN36 method_3_code 2 (some .int) :: ws) ({ frames := 0, cells := 0, slots := 0, locals := 0 } : Room)) (fun aa U => aa = #[(.ref aO), (.int jb)] ∧ Z.Warmed39 U.vm ∧ U.heap = h0) (fun _ _ _ _ _ => True) (fun _ u1_ o_ u2_ => ∃ v_ l_, o_ = .returned v_ ∧ QRk Z aO kO o0 o1 o2 jb h0 n0 v_ u2_.heap l_ ∧ FrameEnd u1_ o_ u2_ l_ ({ frames := 0, cells := 0, slots := 0, locals := 0 } : Room).cells ({ frames := 0, cells := 0, slots := 0, locals := 0 } : Room).slots) := by
  refine MetFree.of_bodySF (plainFor_of_name pn_com_example_redoubt_redoubt_policies_FirstFitQueueFirstFittingPinLaw) hisR ?_
  intro p e s m args below meth c s₁ Bd hml0 hP hK
  obtain ⟨rfl, hZ, hh⟩ := hP
  have hx := Bd.exec
  have hby := Bd.bytes
  have hlk := BodyLoose.notSynchronized Bd
  have hret := Bd.returns
  have hml : c.maxLocals = 2 := hml0
  have hown : s.vm.findClass "com/example/redoubt/redoubt/policies/FirstFitQueueFirstFittingPinLaw" = some m.cls := findClass_of_methodNamed Bd.named
  have hnm := (name_of_methodNamed Bd.named Bd.method).1
  have X0 : Stand p l e ({ frames := 0, cells := 0, slots := 0, locals := 0 } : Room) s m #[(.ref aO), (.int jb)] below meth c s₁ [] 0 0 := Stand.of_body Bd
  have e0 : s₁.heap = h0 := by rw [← hh, Bd.state]; rfl
  have N0 := Fr.nil n0
  refine Goes.st (E := (EN s (QRk Z aO kO o0 o1 o2 jb h0 n0) ({ frames := 0, cells := 0, slots := 0, locals := 0 } : Room).cells ({ frames := 0, cells := 0, slots := 0, locals := 0 } : Room).slots)) (fun tg kg => castTop (ef_Rk m aO jb) kg) ?_
  show Gs p e below _ s₁ m 0 #[rv aO, iv jb] []
  refine galoadN X0 hx (hb hby dmethod_3_0) rfl rfl ?_
  refine giconst X0 hx (hb hby dmethod_3_1) ?_
  obtain ⟨cl1, Ar1, qk1, Sz1, qz1, Ha1, Gf1⟩ := id Ao
  have in1 := inb_of (j := (0 : Int32)) Sz1 ⟨by decide, by decide⟩
  refine Goes.st (fun tg kg => X0.iaload hx (j := (0 : Int32)) (v := (.int o0)) (by rw [e0]; exact Ar1.1) (State.isArrayOf_alike hZ.alike Ar1.2.1) Ar1.2.2 in1 (Ha1.at in1 rfl) (g := (mkF m 2 #[rv aO, iv jb] [(.int (0 : Int32)), (.ref aO)])) rfl rfl (hb hby dmethod_3_2) tg kg) ?_
  refine giloadN X0 hx (hb hby dmethod_3_3) rfl ?_
  by_cases c2 : o0 = jb
  · refine gicmpNo X0 hx (hb hby dmethod_3_4) (teq c2).2 ?_
    refine giconst X0 hx (hb hby dmethod_3_7) ?_
    refine Goes.retI X0 hx hret (hb hby dmethod_3_8) (lvN X0 hlk (vsome hret) ?_ (by decide) (by decide))
    rw [e0]
    exact ⟨by rw [rk, if_pos c2]; rfl, N0, rfl⟩
  · refine gicmpYes X0 hx (pc := 4) (pc' := 9) (hb hby dmethod_3_4) (feq c2).2 (by decide) (by decide) ?_
    refine galoadN X0 hx (hb hby dmethod_3_9) rfl rfl ?_
    refine giconst X0 hx (hb hby dmethod_3_10) ?_
    show Gs p e below _ s₁ m 11 #[rv aO, iv jb] [(.int (1 : Int32)), (.ref aO)]
    obtain ⟨cl3, Ar3, qk3, Sz3, qz3, Ha3, Gf3⟩ := id Ao
    have in3 := inb_of (j := (1 : Int32)) Sz3 ⟨by decide, by decide⟩
    refine Goes.st (fun tg kg => X0.iaload hx (j := (1 : Int32)) (v := (.int o1)) (by rw [e0]; exact Ar3.1) (State.isArrayOf_alike hZ.alike Ar3.2.1) Ar3.2.2 in3 (Ha3.at in3 rfl) (g := (mkF m 11 #[rv aO, iv jb] [(.int (1 : Int32)), (.ref aO)])) rfl rfl (hb hby dmethod_3_11) tg kg) ?_
    refine giloadN X0 hx (hb hby dmethod_3_12) rfl ?_
    by_cases c4 : o1 = jb
    · refine gicmpNo X0 hx (hb hby dmethod_3_13) (teq c4).2 ?_
      refine giconst X0 hx (hb hby dmethod_3_16) ?_
      refine Goes.retI X0 hx hret (hb hby dmethod_3_17) (lvN X0 hlk (vsome hret) ?_ (by decide) (by decide))
      rw [e0]
      exact ⟨by rw [rk, if_neg c2, if_pos c4]; rfl, N0, rfl⟩
    · refine gicmpYes X0 hx (pc := 13) (pc' := 18) (hb hby dmethod_3_13) (feq c4).2 (by decide) (by decide) ?_
      refine giconst X0 hx (hb hby dmethod_3_18) ?_
      refine Goes.retI X0 hx hret (hb hby dmethod_3_19) (lvN X0 hlk (vsome hret) ?_ (by decide) (by decide))
      rw [e0]
      exact ⟨by rw [rk, if_neg c2, if_neg c4]; rfl, N0, rfl⟩
theorem dmethod_4_0 : decode method_4_code 0 = .ok (.iload_n 1, 1) := by decide +kernel
theorem dmethod_4_1 : decode method_4_code 1 = .ok (.ifCond .eq 15, 3) := by decide +kernel
theorem dmethod_4_4 : decode method_4_code 4 = .ok (.iload_n 2, 1) := by decide +kernel
theorem dmethod_4_5 : decode method_4_code 5 = .ok (.iload 4, 2) := by decide +kernel
theorem dmethod_4_7 : decode method_4_code 7 = .ok (.if_icmp .gt 9, 3) := by decide +kernel
theorem dmethod_4_10 : decode method_4_code 10 = .ok (.iload_n 3, 1) := by decide +kernel
theorem dmethod_4_11 : decode method_4_code 11 = .ok (.iload 5, 2) := by decide +kernel
theorem dmethod_4_13 : decode method_4_code 13 = .ok (.if_icmp .ge 5, 3) := by decide +kernel
theorem dmethod_4_16 : decode method_4_code 16 = .ok (.iload_n 0, 1) := by decide +kernel
theorem dmethod_4_17 : decode method_4_code 17 = .ok (.ireturn, 1) := by decide +kernel
theorem dmethod_4_18 : decode method_4_code 18 = .ok (.iload_n 0, 1) := by decide +kernel
theorem dmethod_4_19 : decode method_4_code 19 = .ok (.ifCond .lt 8, 3) := by decide +kernel
theorem dmethod_4_22 : decode method_4_code 22 = .ok (.iload_n 3, 1) := by decide +kernel
theorem dmethod_4_23 : decode method_4_code 23 = .ok (.iload_n 0, 1) := by decide +kernel
theorem dmethod_4_24 : decode method_4_code 24 = .ok (.if_icmp .ge 5, 3) := by decide +kernel
theorem dmethod_4_27 : decode method_4_code 27 = .ok (.iload_n 3, 1) := by decide +kernel
theorem dmethod_4_28 : decode method_4_code 28 = .ok (.ireturn, 1) := by decide +kernel
theorem dmethod_4_29 : decode method_4_code 29 = .ok (.iload_n 0, 1) := by decide +kernel
theorem dmethod_4_30 : decode method_4_code 30 = .ok (.ireturn, 1) := by decide +kernel
theorem ef_Pk (m : MethodId) (x0 : Int32) (x1 : Int32) (x2 : Int32) (x3 : Int32) (x4 : Int32) (x5 : Int32) : entryFrame m #[(.int x0), (.int x1), (.int x2), (.int x3), (.int x4), (.int x5)] 6 = mkF m 0 #[iv x0, iv x1, iv x2, iv x3, iv x4, iv x5] [] := by first | (simp [entryFrame, mkF, argsToLocals, Value.category]; done) | rfl
def QPk (Z : State) (bs wt pq pl f st : Int32) (h0 : Heap) (n0 : Nat) (v : Option Value) (h : Heap) (L : List Loc) : Prop := v = some (.int (pk bs wt pq pl f st)) ∧ Fr n0 L ∧ h = h0
set_option maxRecDepth 65536 in
set_option maxHeartbeats 40000000 in
theorem rmPk (l : Launch) (Z : State) (a0 : Array Value) (hw : ∀ d ∈ tables_1, d.before a0 Z = true) (ws : List Jvm.Cond) (bs wt pq pl f st : Int32) (h0 : Heap) (n0 : Nat) (Z0 : n0 ≤ h0.size)  :
    MetFree l mN37 (head1 (Jvm.Cond.code mN37 method_4_code 6 (some .int) :: ws) ({ frames := 0, cells := 0, slots := 0, locals := 0 } : Room)) (fun aa U => aa = #[(.int bs), (.int wt), (.int pq), (.int pl), (.int f), (.int st)] ∧ Z.Warmed39 U.vm ∧ U.heap = h0) (fun _ _ _ _ _ => True) (fun _ u1_ o_ u2_ => ∃ v_ l_, o_ = .returned v_ ∧ QPk Z bs wt pq pl f st h0 n0 v_ u2_.heap l_ ∧ FrameEnd u1_ o_ u2_ l_ ({ frames := 0, cells := 0, slots := 0, locals := 0 } : Room).cells ({ frames := 0, cells := 0, slots := 0, locals := 0 } : Room).slots) := by
  refine MetFree.of_bodySF (plainFor_of_name pn_com_example_redoubt_redoubt_policies_FirstFitQueueFirstFittingPinLaw) hisR ?_
  intro p e s m args below meth c s₁ Bd hml0 hP hK
  obtain ⟨rfl, hZ, hh⟩ := hP
  have hx := Bd.exec
  have hby := Bd.bytes
  have hlk := BodyLoose.notSynchronized Bd
  have hret := Bd.returns
  have hml : c.maxLocals = 6 := hml0
  have hown : s.vm.findClass "com/example/redoubt/redoubt/policies/FirstFitQueueFirstFittingPinLaw" = some m.cls := findClass_of_methodNamed Bd.named
  have hnm := (name_of_methodNamed Bd.named Bd.method).1
  have X0 : Stand p l e ({ frames := 0, cells := 0, slots := 0, locals := 0 } : Room) s m #[(.int bs), (.int wt), (.int pq), (.int pl), (.int f), (.int st)] below meth c s₁ [] 0 0 := Stand.of_body Bd
  have e0 : s₁.heap = h0 := by rw [← hh, Bd.state]; rfl
  have N0 := Fr.nil n0
  refine Goes.st (E := (EN s (QPk Z bs wt pq pl f st h0 n0) ({ frames := 0, cells := 0, slots := 0, locals := 0 } : Room).cells ({ frames := 0, cells := 0, slots := 0, locals := 0 } : Room).slots)) (fun tg kg => castTop (ef_Pk m bs wt pq pl f st) kg) ?_
  show Gs p e below _ s₁ m 0 #[iv bs, iv wt, iv pq, iv pl, iv f, iv st] []
  refine giloadN X0 hx (hb hby dmethod_4_0) rfl ?_
  by_cases c1 : wt = (0 : Int32)
  · refine gifYes X0 hx (pc := 1) (pc' := 16) (hb hby dmethod_4_1) ((if0 _ _).trans (teq c1).1) (by decide) (by decide) ?_
    refine giloadN X0 hx (hb hby dmethod_4_16) rfl ?_
    refine Goes.retI X0 hx hret (hb hby dmethod_4_17) (lvN X0 hlk (vsome hret) ?_ (by decide) (by decide))
    rw [e0]
    exact ⟨by rw [pk, if_pos c1], N0, rfl⟩
  · refine gifNo X0 hx (hb hby dmethod_4_1) ((if0 _ _).trans (feq c1).1) ?_
    refine giloadN X0 hx (hb hby dmethod_4_4) rfl ?_
    refine giload X0 hx (hb hby dmethod_4_5) rfl ?_
    by_cases c2 : f < pq
    · refine gicmpYes X0 hx (pc := 7) (pc' := 16) (hb hby dmethod_4_7) (tlt c2).2.2.1 (by decide) (by decide) ?_
      refine giloadN X0 hx (hb hby dmethod_4_16) rfl ?_
      refine Goes.retI X0 hx hret (hb hby dmethod_4_17) (lvN X0 hlk (vsome hret) ?_ (by decide) (by decide))
      rw [e0]
      exact ⟨by rw [pk, if_neg c1, if_pos c2], N0, rfl⟩
    · refine gicmpNo X0 hx (hb hby dmethod_4_7) (flt c2).2.2.1 ?_
      show Gs p e below _ s₁ m 10 #[iv bs, iv wt, iv pq, iv pl, iv f, iv st] []
      refine giloadN X0 hx (hb hby dmethod_4_10) rfl ?_
      refine giload X0 hx (hb hby dmethod_4_11) rfl ?_
      by_cases c3 : pl < st
      · refine gicmpNo X0 hx (hb hby dmethod_4_13) (tlt c3).2.1 ?_
        refine giloadN X0 hx (hb hby dmethod_4_16) rfl ?_
        refine Goes.retI X0 hx hret (hb hby dmethod_4_17) (lvN X0 hlk (vsome hret) ?_ (by decide) (by decide))
        rw [e0]
        exact ⟨by rw [pk, if_neg c1, if_neg c2, if_pos c3], N0, rfl⟩
      · refine gicmpYes X0 hx (pc := 13) (pc' := 18) (hb hby dmethod_4_13) (flt c3).2.1 (by decide) (by decide) ?_
        refine giloadN X0 hx (hb hby dmethod_4_18) rfl ?_
        by_cases c4 : bs < (0 : Int32)
        · refine gifYes X0 hx (pc := 19) (pc' := 27) (hb hby dmethod_4_19) ((if0 _ _).trans (tlt c4).1) (by decide) (by decide) ?_
          refine giloadN X0 hx (hb hby dmethod_4_27) rfl ?_
          refine Goes.retI X0 hx hret (hb hby dmethod_4_28) (lvN X0 hlk (vsome hret) ?_ (by decide) (by decide))
          rw [e0]
          exact ⟨by rw [pk, if_neg c1, if_neg c2, if_neg c3, if_pos c4], N0, rfl⟩
        · refine gifNo X0 hx (hb hby dmethod_4_19) ((if0 _ _).trans (flt c4).1) ?_
          show Gs p e below _ s₁ m 22 #[iv bs, iv wt, iv pq, iv pl, iv f, iv st] []
          refine giloadN X0 hx (hb hby dmethod_4_22) rfl ?_
          refine giloadN X0 hx (hb hby dmethod_4_23) rfl ?_
          by_cases c5 : pl < bs
          · refine gicmpNo X0 hx (hb hby dmethod_4_24) (tlt c5).2.1 ?_
            refine giloadN X0 hx (hb hby dmethod_4_27) rfl ?_
            refine Goes.retI X0 hx hret (hb hby dmethod_4_28) (lvN X0 hlk (vsome hret) ?_ (by decide) (by decide))
            rw [e0]
            exact ⟨by rw [pk, if_neg c1, if_neg c2, if_neg c3, if_neg c4, if_pos c5], N0, rfl⟩
          · refine gicmpYes X0 hx (pc := 24) (pc' := 29) (hb hby dmethod_4_24) (flt c5).2.1 (by decide) (by decide) ?_
            refine giloadN X0 hx (hb hby dmethod_4_29) rfl ?_
            refine Goes.retI X0 hx hret (hb hby dmethod_4_30) (lvN X0 hlk (vsome hret) ?_ (by decide) (by decide))
            rw [e0]
            exact ⟨by rw [pk, if_neg c1, if_neg c2, if_neg c3, if_neg c4, if_neg c5], N0, rfl⟩
def QLw (Z : State) (h0 : Heap) (n0 : Nat) (v : Option Value) (h : Heap) (L : List Loc) : Prop := v = some (.int 1) ∧ Fr n0 L
theorem own_w0 {w pl i p y Y : Int32} (h : w = 0) (hy : y = Y) : y = ww w pl i p Y := by rw [ww, if_pos h]; exact hy
theorem own_wj0 {w pl i p0 p1 p2 y Y : Int32} (h : ¬ w = 0) (hy : y = Y) : uu pl i (sel (0 : Int32) p0 p1 p2) y = ww w pl i p0 Y := by rw [ww, if_neg h, hy]; rfl
theorem own_wj1 {w pl i p0 p1 p2 y Y : Int32} (h : ¬ w = 0) (hy : y = Y) : uu pl i (sel (1 : Int32) p0 p1 p2) y = ww w pl i p1 Y := by rw [ww, if_neg h, hy]; rfl
theorem own_wj2 {w pl i p0 p1 p2 y Y : Int32} (h : ¬ w = 0) (hy : y = Y) : uu pl i (sel (2 : Int32) p0 p1 p2) y = ww w pl i p2 Y := by rw [ww, if_neg h, hy]; rfl
theorem own_law4z {o0 o1 o2 p0 p1 p2 w0 w1 w2 f st y0 y1 y2 : Int32} (hp : Perm3 o0 o1 o2) (hf : f < (2147483647 : Int32)) (hst : ¬ st < (0 : Int32)) (hy0 : y0 = (ww w2 (((0 : Int32) * (3 : Int32)) + rk o0 o1 (2 : Int32)) (0 : Int32) p2 (ww w1 (((0 : Int32) * (3 : Int32)) + rk o0 o1 (1 : Int32)) (0 : Int32) p1 (ww w0 (((0 : Int32) * (3 : Int32)) + rk o0 o1 (0 : Int32)) (0 : Int32) p0 (2147483647 : Int32))))) (hy1 : y1 = (ww w2 (((0 : Int32) * (3 : Int32)) + rk o0 o1 (2 : Int32)) (1 : Int32) p2 (ww w1 (((0 : Int32) * (3 : Int32)) + rk o0 o1 (1 : Int32)) (1 : Int32) p1 (ww w0 (((0 : Int32) * (3 : Int32)) + rk o0 o1 (0 : Int32)) (1 : Int32) p0 (2147483647 : Int32))))) (hy2 : y2 = (ww w2 (((0 : Int32) * (3 : Int32)) + rk o0 o1 (2 : Int32)) (2 : Int32) p2 (ww w1 (((0 : Int32) * (3 : Int32)) + rk o0 o1 (1 : Int32)) (2 : Int32) p1 (ww w0 (((0 : Int32) * (3 : Int32)) + rk o0 o1 (0 : Int32)) (2 : Int32) p0 (2147483647 : Int32))))) : ff4 st f y0 y1 y2 = pk (pk (pk (-1) w0 p0 ((0 : Int32) + rk o0 o1 0) f st) w1 p1 ((0 : Int32) + rk o0 o1 1) f st) w2 p2 ((0 : Int32) + rk o0 o1 2) f st := by
  have h := own_law4 hp hf hst hy0 hy1 hy2
  rw [show (0 : Int32) * (3 : Int32) = 0 from by decide] at h
  exact h
theorem pd___II_I_e8a : parseMethodDescriptor "([II)I" = some ⟨[(.array .int), .int], some .int⟩ := by decide +kernel
theorem pd__IZIIII_I_1a2d : parseMethodDescriptor "(IZIIII)I" = some ⟨[.int, .boolean, .int, .int, .int, .int], some .int⟩ := by decide +kernel
set_option maxRecDepth 65536 in
set_option maxHeartbeats 40000000 in
theorem Seg376_4 {p : Program} {l : Launch} {e : Env} {s : State} {m : MethodId} {args : Array Value} {below : List Frame} {meth : Method} {c : Code}  (Z : State) (a0 : Array Value) (hw : ∀ d ∈ tables_1, d.before a0 Z = true) (hx : p.tables.exec = Jvm.exec) (hby : c.code = code) (hlk : meth.locks = false) (hret : meth.sig.returnType = some .boolean) (hml : c.maxLocals = 24) (hnm : meth.name = "law") (vm0 : Vm) (kS0 : Nat) (hS : s.Since vm0 kS0) (hown : (s.setVm vm0).vm.findClass "com/example/redoubt/redoubt/policies/FirstFitQueueFirstFittingPinLaw" = some m.cls) (hZ : Z.Warmed39 (s.setVm vm0).vm) (ia ib ic ifr ifm ish : Int32) (pm aO aJ a aR aP aF : Addr) (kO kR kP kF : ClassId) (o0 o1 o2 p0 p1 p2 w0 w1 w2 y0 y1 y2 : Int32) (h0 hh : Heap) (n0 : Nat) (T0 : State) (locs0 : List Loc) (X0 : Stand p l e room_1 (s.setVm vm0) m args below meth c T0 locs0 56 4416) (e0 : T0.heap = hh) (N0 : Fr n0 locs0) (Z0 : n0 ≤ hh.size) (hk : kS0 ≤ hh.size) (Ea : Exa Z hh a "com/example/redoubt/redoubt/policies/FirstFitQueue") (Fo : Fld Z hh a "com/example/redoubt/redoubt/policies/FirstFitQueue" "order" "[I" (.ref aO)) (Ao : Arv Z hh aO kO .int (3 : Int32) [(.int o0), (.int o1), (.int o2)] (.int (0 : Int32))) (Fr_ : Fld Z hh a "com/example/redoubt/redoubt/policies/FirstFitQueue" "rankOf" "[I" (.ref aR)) (Ar_ : Arv Z hh aR kR .int (3 : Int32) [(.int (rk o0 o1 (0 : Int32))), (.int (rk o0 o1 (1 : Int32))), (.int (rk o0 o1 (2 : Int32)))] (.int (0 : Int32))) (Fp : Fld Z hh a "com/example/redoubt/redoubt/policies/FirstFitQueue" "procs" "[I" (.ref aP)) (Ap : Arv Z hh aP kP .int (3 : Int32) [(.int (sel o0 p0 p1 p2)), (.int (sel o1 p0 p1 p2)), (.int (sel o2 p0 p1 p2))] (.int (0 : Int32))) (Fl_ : Fld Z hh a "com/example/redoubt/redoubt/policies/FirstFitQueue" "leaves" "I" (.int (4 : Int32))) (Ff : Fld Z hh a "com/example/redoubt/redoubt/policies/FirstFitQueue" "fewest" "[I" (.ref aF)) (Fh : Fld Z hh a "com/example/redoubt/redoubt/policies/FirstFitQueue" "shortest" "[D" .null) (VF : Arv Z hh aF kF .int (8 : Int32) (tr4 y0 y1 y2) (.int (0 : Int32))) (lF : n0 ≤ aF) (naF : a ≠ aF) (nPF : aP ≠ aF) (nOF : aO ≠ aF) (nRF : aR ≠ aF) (hp : Perm3 o0 o1 o2) (hy0 : y0 = (ww w2 (((0 : Int32) * (3 : Int32)) + rk o0 o1 (2 : Int32)) (0 : Int32) p2 (ww w1 (((0 : Int32) * (3 : Int32)) + rk o0 o1 (1 : Int32)) (0 : Int32) p1 (ww w0 (((0 : Int32) * (3 : Int32)) + rk o0 o1 (0 : Int32)) (0 : Int32) p0 (2147483647 : Int32))))) (hy1 : y1 = (ww w2 (((0 : Int32) * (3 : Int32)) + rk o0 o1 (2 : Int32)) (1 : Int32) p2 (ww w1 (((0 : Int32) * (3 : Int32)) + rk o0 o1 (1 : Int32)) (1 : Int32) p1 (ww w0 (((0 : Int32) * (3 : Int32)) + rk o0 o1 (0 : Int32)) (1 : Int32) p0 (2147483647 : Int32))))) (hy2 : y2 = (ww w2 (((0 : Int32) * (3 : Int32)) + rk o0 o1 (2 : Int32)) (2 : Int32) p2 (ww w1 (((0 : Int32) * (3 : Int32)) + rk o0 o1 (1 : Int32)) (2 : Int32) p1 (ww w0 (((0 : Int32) * (3 : Int32)) + rk o0 o1 (0 : Int32)) (2 : Int32) p0 (2147483647 : Int32))))) :
    Goes p e below (EV s (QLw Z h0 n0) 56 4416) (T0.setTop (mkF m 376 #[iv ia, iv ib, iv ic, iv ifr, iv ifm, iv ish, rv pm, rv aO, iv (1 : Int32), iv p0, iv p1, iv p2, iv w0, iv w1, iv w2, iv (0 : Int32), iv (0 : Int32), iv (0 : Int32), rv aJ, rv a, .unset, .unset, .unset, .unset] [])) := by
  show Gs p e below _ T0 m 376 #[iv ia, iv ib, iv ic, iv ifr, iv ifm, iv ish, rv pm, rv aO, iv (1 : Int32), iv p0, iv p1, iv p2, iv w0, iv w1, iv w2, iv (0 : Int32), iv (0 : Int32), iv (0 : Int32), rv aJ, rv a, .unset, .unset, .unset, .unset] []
  refine giloadN X0 hx (hb hby at_376) rfl ?_
  show Gs p e below _ T0 m 377 #[iv ia, iv ib, iv ic, iv ifr, iv ifm, iv ish, rv pm, rv aO, iv (1 : Int32), iv p0, iv p1, iv p2, iv w0, iv w1, iv w2, iv (0 : Int32), iv (0 : Int32), iv (0 : Int32), rv aJ, rv a, .unset, .unset, .unset, .unset] [(.int ifr)]
  refine Goes.st (fun tg kg => X0.ldcInt hx hown (mvT hZ (hwk hw 230 rfl)) (g := (mkF m 377 #[iv ia, iv ib, iv ic, iv ifr, iv ifm, iv ish, rv pm, rv aO, iv (1 : Int32), iv p0, iv p1, iv p2, iv w0, iv w1, iv w2, iv (0 : Int32), iv (0 : Int32), iv (0 : Int32), rv aJ, rv a, .unset, .unset, .unset, .unset] [(.int ifr)])) rfl (hb hby at_377) tg kg) ?_
  show Gs p e below _ T0 m 379 #[iv ia, iv ib, iv ic, iv ifr, iv ifm, iv ish, rv pm, rv aO, iv (1 : Int32), iv p0, iv p1, iv p2, iv w0, iv w1, iv w2, iv (0 : Int32), iv (0 : Int32), iv (0 : Int32), rv aJ, rv a, .unset, .unset, .unset, .unset] [(.int (2147483646 : Int32)), (.int ifr)]
  obtain ⟨_, _, ⟨T1, L1, k1, n1⟩, -, X1, ⟨Lc1, hQ1, l1, y1, z1⟩, st1⟩ := Jvm.LawKit.callS X0 hx (y := mN1) hown (mvT hZ (hwk hw 231 rfl)) (mvT hZ (hwk hw 228 rfl)) (mvT hZ (hwk hw 7 rfl)) (mvT hZ (hwk hw 229 rfl)) (by decide) (backOf (W := 0) (rmMn l Z a0 hw [] ifr (2147483646 : Int32) hh n0 Z0 ) hZ (hwk hw 229 rfl) (hwk hw 7 rfl) (by decide) (by decide)) (g := (mkF m 379 #[iv ia, iv ib, iv ic, iv ifr, iv ifm, iv ish, rv pm, rv aO, iv (1 : Int32), iv p0, iv p1, iv p2, iv w0, iv w1, iv w2, iv (0 : Int32), iv (0 : Int32), iv (0 : Int32), rv aJ, rv a, .unset, .unset, .unset, .unset] [(.int (2147483646 : Int32)), (.int ifr)])) rfl (by rw [hml]; rfl) (argsL := [(.int ifr), (.int (2147483646 : Int32))]) (rest := []) (lenOf pd__II_I_aae rfl) rfl (by show 2 * 0 + _ ≤ _; exact Nat.le_of_eq rfl) (hb hby at_379) (fun _ _ => ⟨rfl, e0, (by decide : 56 + 0 ≤ 56), (by decide : 4416 + 0 ≤ 4416)⟩)
  dsimp only [Pt.U, Pt.locs, Pt.cells, Pt.slots] at X1 l1 y1 z1 st1 hQ1
  subst l1 y1 z1
  obtain ⟨rfl, N1q, eh1⟩ := hQ1
  have N1 := Fr.app N0 N1q
  refine Goes.st st1 ?_
  show Gs p e below _ T1 m 382 #[iv ia, iv ib, iv ic, iv ifr, iv ifm, iv ish, rv pm, rv aO, iv (1 : Int32), iv p0, iv p1, iv p2, iv w0, iv w1, iv w2, iv (0 : Int32), iv (0 : Int32), iv (0 : Int32), rv aJ, rv a, .unset, .unset, .unset, .unset] [(.int (imin ifr (2147483646 : Int32)))]
  obtain ⟨f, f_eq⟩ : ∃ z : Int32, z = (imin ifr (2147483646 : Int32)) := ⟨_, rfl⟩
  rw [← f_eq]
  show Gs p e below _ T1 m 382 #[iv ia, iv ib, iv ic, iv ifr, iv ifm, iv ish, rv pm, rv aO, iv (1 : Int32), iv p0, iv p1, iv p2, iv w0, iv w1, iv w2, iv (0 : Int32), iv (0 : Int32), iv (0 : Int32), rv aJ, rv a, .unset, .unset, .unset, .unset] [(.int f)]
  have hf : f < (2147483647 : Int32) := by rw [f_eq]; exact own_iminM _
  refine gistore X1 hx (hb hby at_382) trivial (l' := #[iv ia, iv ib, iv ic, iv ifr, iv ifm, iv ish, rv pm, rv aO, iv (1 : Int32), iv p0, iv p1, iv p2, iv w0, iv w1, iv w2, iv (0 : Int32), iv (0 : Int32), iv (0 : Int32), rv aJ, rv a, iv f, .unset, .unset, .unset]) rfl ?_
  refine giload X1 hx (hb hby at_384) rfl ?_
  refine Goes.st (fun tg kg => XS.bipush X1.here hx rfl (hb hby at_386) kg) ?_
  refine giand X1 hx (hb hby at_388) trivial ?_
  show Gs p e below _ T1 m 389 #[iv ia, iv ib, iv ic, iv ifr, iv ifm, iv ish, rv pm, rv aO, iv (1 : Int32), iv p0, iv p1, iv p2, iv w0, iv w1, iv w2, iv (0 : Int32), iv (0 : Int32), iv (0 : Int32), rv aJ, rv a, iv f, .unset, .unset, .unset] [(.int (ifm &&& (16 : Int32)))]
  have J2 : ∀ (st : Int32) (hst : ¬ st < 0), Goes p e below (EV s (QLw Z h0 n0) 56 4416) (T1.setTop (mkF m 405 #[iv ia, iv ib, iv ic, iv ifr, iv ifm, iv ish, rv pm, rv aO, iv (1 : Int32), iv p0, iv p1, iv p2, iv w0, iv w1, iv w2, iv (0 : Int32), iv (0 : Int32), iv (0 : Int32), rv aJ, rv a, iv f, .unset, .unset, .unset] [(.int st)])) := by
    intro st hst
    show Gs p e below _ T1 m 405 #[iv ia, iv ib, iv ic, iv ifr, iv ifm, iv ish, rv pm, rv aO, iv (1 : Int32), iv p0, iv p1, iv p2, iv w0, iv w1, iv w2, iv (0 : Int32), iv (0 : Int32), iv (0 : Int32), rv aJ, rv a, iv f, .unset, .unset, .unset] [(.int st)]
    refine gistore X1 hx (hb hby at_405) trivial (l' := #[iv ia, iv ib, iv ic, iv ifr, iv ifm, iv ish, rv pm, rv aO, iv (1 : Int32), iv p0, iv p1, iv p2, iv w0, iv w1, iv w2, iv (0 : Int32), iv (0 : Int32), iv (0 : Int32), rv aJ, rv a, iv f, iv st, .unset, .unset]) rfl ?_
    refine gaload X1 hx (hb hby at_407) rfl rfl ?_
    refine giload X1 hx (hb hby at_409) rfl ?_
    refine giload X1 hx (hb hby at_411) rfl ?_
    obtain ⟨cq3, kq3, qa3, qb3, qc3⟩ := isOf hZ eh1 Ea
    obtain ⟨_, _, ⟨T3, L3, k3, n3⟩, -, X3, ⟨Lc3, hQ3, l3, y3, z3⟩, st3⟩ := X1.virtualBack hx (y := mN35) (z := mN35) hown (mvT hZ (hwk hw 232 rfl)) (mvT hZ (hwk hw 233 rfl)) (notFace_of_selects (args := #[]) (mvT hZ (hwk hw 235 rfl))) (mvT hZ (hwk hw 235 rfl)) (mvT hZ (hwk hw 234 rfl)) (by decide) (backOf (W := 0) (rmFf1 l Z a0 hw [] a aF kF st f y0 y1 y2 hh n0 Z0 Fl_ Ff VF hst) hZ (hwk hw 236 rfl) (hwk hw 146 rfl) (by decide) (by decide)) qa3 qc3 (g := (mkF m 413 #[iv ia, iv ib, iv ic, iv ifr, iv ifm, iv ish, rv pm, rv aO, iv (1 : Int32), iv p0, iv p1, iv p2, iv w0, iv w1, iv w2, iv (0 : Int32), iv (0 : Int32), iv (0 : Int32), rv aJ, rv a, iv f, iv st, .unset, .unset] [(.int st), (.int f), (.ref a)])) rfl (by rw [hml]; rfl) (Steps.refl _) (argsL := [(.int f), (.int st)]) (rest := []) (lenOf pd__II_I_aae rfl) rfl (by show 2 * 0 + _ ≤ _; exact Nat.le_of_eq rfl) (hb hby at_413) (fun _ _ => ⟨rfl, eh1, (by decide : 56 + 0 ≤ 56), (by decide : 4416 + 0 ≤ 4416)⟩)
    dsimp only [Pt.U, Pt.locs, Pt.cells, Pt.slots] at X3 l3 y3 z3 st3 hQ3
    subst l3 y3 z3
    obtain ⟨rfl, N3q, eh3⟩ := hQ3
    have N3 := Fr.app N1 N3q
    refine Goes.sts st3 ?_
    show Gs p e below _ T3 m 416 #[iv ia, iv ib, iv ic, iv ifr, iv ifm, iv ish, rv pm, rv aO, iv (1 : Int32), iv p0, iv p1, iv p2, iv w0, iv w1, iv w2, iv (0 : Int32), iv (0 : Int32), iv (0 : Int32), rv aJ, rv a, iv f, iv st, .unset, .unset] [(.int (ff4 st f y0 y1 y2))]
    refine gistore X3 hx (hb hby at_416) trivial (l' := #[iv ia, iv ib, iv ic, iv ifr, iv ifm, iv ish, rv pm, rv aO, iv (1 : Int32), iv p0, iv p1, iv p2, iv w0, iv w1, iv w2, iv (0 : Int32), iv (0 : Int32), iv (0 : Int32), rv aJ, rv a, iv f, iv st, iv (ff4 st f y0 y1 y2), .unset]) rfl ?_
    refine giconst X3 hx (hb hby at_418) ?_
    refine gistore X3 hx (hb hby at_419) trivial (l' := #[iv ia, iv ib, iv ic, iv ifr, iv ifm, iv ish, rv pm, rv aO, iv (1 : Int32), iv p0, iv p1, iv p2, iv w0, iv w1, iv w2, iv (0 : Int32), iv (0 : Int32), iv (0 : Int32), rv aJ, rv a, iv f, iv st, iv (ff4 st f y0 y1 y2), iv (-1 : Int32)]) rfl ?_
    refine giload X3 hx (hb hby at_421) rfl ?_
    refine giload X3 hx (hb hby at_423) rfl ?_
    refine giload X3 hx (hb hby at_425) rfl ?_
    refine giload X3 hx (hb hby at_427) rfl ?_
    refine giconst X3 hx (hb hby at_429) ?_
    refine gimul X3 hx (hb hby at_430) trivial ?_
    show Gs p e below _ T3 m 431 #[iv ia, iv ib, iv ic, iv ifr, iv ifm, iv ish, rv pm, rv aO, iv (1 : Int32), iv p0, iv p1, iv p2, iv w0, iv w1, iv w2, iv (0 : Int32), iv (0 : Int32), iv (0 : Int32), rv aJ, rv a, iv f, iv st, iv (ff4 st f y0 y1 y2), iv (-1 : Int32)] [(.int ((0 : Int32) * (3 : Int32))), (.int p0), (.int w0), (.int (-1 : Int32))]
    rw [show ((0 : Int32) * (3 : Int32)) = (0 : Int32) from by decide]
    show Gs p e below _ T3 m 431 #[iv ia, iv ib, iv ic, iv ifr, iv ifm, iv ish, rv pm, rv aO, iv (1 : Int32), iv p0, iv p1, iv p2, iv w0, iv w1, iv w2, iv (0 : Int32), iv (0 : Int32), iv (0 : Int32), rv aJ, rv a, iv f, iv st, iv (ff4 st f y0 y1 y2), iv (-1 : Int32)] [(.int (0 : Int32)), (.int p0), (.int w0), (.int (-1 : Int32))]
    refine gaload X3 hx (hb hby at_431) rfl rfl ?_
    refine giconst X3 hx (hb hby at_433) ?_
    obtain ⟨_, _, ⟨T4, L4, k4, n4⟩, -, X4, ⟨Lc4, hQ4, l4, y4, z4⟩, st4⟩ := Jvm.LawKit.callS X3 hx (y := mN36) hown (mvT hZ (hwk hw 237 rfl)) (mvT hZ (hwk hw 238 rfl)) (mvT hZ (hwk hw 239 rfl)) (mvT hZ (hwk hw 240 rfl)) (by decide) (backOf (W := 4) (rmRk l Z a0 hw [] aO kO o0 o1 o2 (0 : Int32) hh n0 Z0 Ao) hZ (hwk hw 240 rfl) (hwk hw 239 rfl) (by decide) (by decide)) (g := (mkF m 434 #[iv ia, iv ib, iv ic, iv ifr, iv ifm, iv ish, rv pm, rv aO, iv (1 : Int32), iv p0, iv p1, iv p2, iv w0, iv w1, iv w2, iv (0 : Int32), iv (0 : Int32), iv (0 : Int32), rv aJ, rv a, iv f, iv st, iv (ff4 st f y0 y1 y2), iv (-1 : Int32)] [(.int (0 : Int32)), (.ref aO), (.int (0 : Int32)), (.int p0), (.int w0), (.int (-1 : Int32))])) rfl (by rw [hml]; rfl) (argsL := [(.ref aO), (.int (0 : Int32))]) (rest := [(.int (0 : Int32)), (.int p0), (.int w0), (.int (-1 : Int32))]) (lenOf pd___II_I_e8a rfl) rfl (by show 2 * 0 + _ ≤ _; exact Nat.le_of_eq rfl) (hb hby at_434) (fun _ _ => ⟨rfl, eh3, (by decide : 56 + 0 ≤ 56), (by decide : 4416 + 0 ≤ 4416)⟩)
    dsimp only [Pt.U, Pt.locs, Pt.cells, Pt.slots] at X4 l4 y4 z4 st4 hQ4
    subst l4 y4 z4
    obtain ⟨rfl, N4q, eh4⟩ := hQ4
    have N4 := Fr.app N3 N4q
    refine Goes.st st4 ?_
    show Gs p e below _ T4 m 437 #[iv ia, iv ib, iv ic, iv ifr, iv ifm, iv ish, rv pm, rv aO, iv (1 : Int32), iv p0, iv p1, iv p2, iv w0, iv w1, iv w2, iv (0 : Int32), iv (0 : Int32), iv (0 : Int32), rv aJ, rv a, iv f, iv st, iv (ff4 st f y0 y1 y2), iv (-1 : Int32)] [(.int (rk o0 o1 (0 : Int32))), (.int (0 : Int32)), (.int p0), (.int w0), (.int (-1 : Int32))]
    refine giadd X4 hx (hb hby at_437) trivial ?_
    refine giload X4 hx (hb hby at_438) rfl ?_
    refine giload X4 hx (hb hby at_440) rfl ?_
    obtain ⟨_, _, ⟨T5, L5, k5, n5⟩, -, X5, ⟨Lc5, hQ5, l5, y5, z5⟩, st5⟩ := Jvm.LawKit.callS X4 hx (y := mN37) hown (mvT hZ (hwk hw 241 rfl)) (mvT hZ (hwk hw 242 rfl)) (mvT hZ (hwk hw 239 rfl)) (mvT hZ (hwk hw 243 rfl)) (by decide) (backOf (W := 0) (rmPk l Z a0 hw [] (-1 : Int32) w0 p0 ((0 : Int32) + (rk o0 o1 (0 : Int32))) f st hh n0 Z0 ) hZ (hwk hw 243 rfl) (hwk hw 239 rfl) (by decide) (by decide)) (g := (mkF m 442 #[iv ia, iv ib, iv ic, iv ifr, iv ifm, iv ish, rv pm, rv aO, iv (1 : Int32), iv p0, iv p1, iv p2, iv w0, iv w1, iv w2, iv (0 : Int32), iv (0 : Int32), iv (0 : Int32), rv aJ, rv a, iv f, iv st, iv (ff4 st f y0 y1 y2), iv (-1 : Int32)] [(.int st), (.int f), (.int ((0 : Int32) + (rk o0 o1 (0 : Int32)))), (.int p0), (.int w0), (.int (-1 : Int32))])) rfl (by rw [hml]; rfl) (argsL := [(.int (-1 : Int32)), (.int w0), (.int p0), (.int ((0 : Int32) + (rk o0 o1 (0 : Int32)))), (.int f), (.int st)]) (rest := []) (lenOf pd__IZIIII_I_1a2d rfl) rfl (by show 2 * 0 + _ ≤ _; exact Nat.le_of_eq rfl) (hb hby at_442) (fun _ _ => ⟨rfl, eh4, (by decide : 56 + 0 ≤ 56), (by decide : 4416 + 0 ≤ 4416)⟩)
    dsimp only [Pt.U, Pt.locs, Pt.cells, Pt.slots] at X5 l5 y5 z5 st5 hQ5
    subst l5 y5 z5
    obtain ⟨rfl, N5q, eh5⟩ := hQ5
    have N5 := Fr.app N4 N5q
    refine Goes.st st5 ?_
    show Gs p e below _ T5 m 445 #[iv ia, iv ib, iv ic, iv ifr, iv ifm, iv ish, rv pm, rv aO, iv (1 : Int32), iv p0, iv p1, iv p2, iv w0, iv w1, iv w2, iv (0 : Int32), iv (0 : Int32), iv (0 : Int32), rv aJ, rv a, iv f, iv st, iv (ff4 st f y0 y1 y2), iv (-1 : Int32)] [(.int (pk (-1 : Int32) w0 p0 ((0 : Int32) + (rk o0 o1 (0 : Int32))) f st))]
    refine gistore X5 hx (hb hby at_445) trivial (l' := #[iv ia, iv ib, iv ic, iv ifr, iv ifm, iv ish, rv pm, rv aO, iv (1 : Int32), iv p0, iv p1, iv p2, iv w0, iv w1, iv w2, iv (0 : Int32), iv (0 : Int32), iv (0 : Int32), rv aJ, rv a, iv f, iv st, iv (ff4 st f y0 y1 y2), iv (pk (-1 : Int32) w0 p0 ((0 : Int32) + (rk o0 o1 (0 : Int32))) f st)]) rfl ?_
    refine giload X5 hx (hb hby at_447) rfl ?_
    refine giload X5 hx (hb hby at_449) rfl ?_
    refine giload X5 hx (hb hby at_451) rfl ?_
    refine giload X5 hx (hb hby at_453) rfl ?_
    refine giconst X5 hx (hb hby at_455) ?_
    refine gimul X5 hx (hb hby at_456) trivial ?_
    show Gs p e below _ T5 m 457 #[iv ia, iv ib, iv ic, iv ifr, iv ifm, iv ish, rv pm, rv aO, iv (1 : Int32), iv p0, iv p1, iv p2, iv w0, iv w1, iv w2, iv (0 : Int32), iv (0 : Int32), iv (0 : Int32), rv aJ, rv a, iv f, iv st, iv (ff4 st f y0 y1 y2), iv (pk (-1 : Int32) w0 p0 ((0 : Int32) + (rk o0 o1 (0 : Int32))) f st)] [(.int ((0 : Int32) * (3 : Int32))), (.int p1), (.int w1), (.int (pk (-1 : Int32) w0 p0 ((0 : Int32) + (rk o0 o1 (0 : Int32))) f st))]
    rw [show ((0 : Int32) * (3 : Int32)) = (0 : Int32) from by decide]
    show Gs p e below _ T5 m 457 #[iv ia, iv ib, iv ic, iv ifr, iv ifm, iv ish, rv pm, rv aO, iv (1 : Int32), iv p0, iv p1, iv p2, iv w0, iv w1, iv w2, iv (0 : Int32), iv (0 : Int32), iv (0 : Int32), rv aJ, rv a, iv f, iv st, iv (ff4 st f y0 y1 y2), iv (pk (-1 : Int32) w0 p0 ((0 : Int32) + (rk o0 o1 (0 : Int32))) f st)] [(.int (0 : Int32)), (.int p1), (.int w1), (.int (pk (-1 : Int32) w0 p0 ((0 : Int32) + (rk o0 o1 (0 : Int32))) f st))]
    refine gaload X5 hx (hb hby at_457) rfl rfl ?_
    refine giconst X5 hx (hb hby at_459) ?_
    obtain ⟨_, _, ⟨T6, L6, k6, n6⟩, -, X6, ⟨Lc6, hQ6, l6, y6, z6⟩, st6⟩ := Jvm.LawKit.callS X5 hx (y := mN36) hown (mvT hZ (hwk hw 237 rfl)) (mvT hZ (hwk hw 238 rfl)) (mvT hZ (hwk hw 239 rfl)) (mvT hZ (hwk hw 240 rfl)) (by decide) (backOf (W := 4) (rmRk l Z a0 hw [] aO kO o0 o1 o2 (1 : Int32) hh n0 Z0 Ao) hZ (hwk hw 240 rfl) (hwk hw 239 rfl) (by decide) (by decide)) (g := (mkF m 460 #[iv ia, iv ib, iv ic, iv ifr, iv ifm, iv ish, rv pm, rv aO, iv (1 : Int32), iv p0, iv p1, iv p2, iv w0, iv w1, iv w2, iv (0 : Int32), iv (0 : Int32), iv (0 : Int32), rv aJ, rv a, iv f, iv st, iv (ff4 st f y0 y1 y2), iv (pk (-1 : Int32) w0 p0 ((0 : Int32) + (rk o0 o1 (0 : Int32))) f st)] [(.int (1 : Int32)), (.ref aO), (.int (0 : Int32)), (.int p1), (.int w1), (.int (pk (-1 : Int32) w0 p0 ((0 : Int32) + (rk o0 o1 (0 : Int32))) f st))])) rfl (by rw [hml]; rfl) (argsL := [(.ref aO), (.int (1 : Int32))]) (rest := [(.int (0 : Int32)), (.int p1), (.int w1), (.int (pk (-1 : Int32) w0 p0 ((0 : Int32) + (rk o0 o1 (0 : Int32))) f st))]) (lenOf pd___II_I_e8a rfl) rfl (by show 2 * 0 + _ ≤ _; exact Nat.le_of_eq rfl) (hb hby at_460) (fun _ _ => ⟨rfl, eh5, (by decide : 56 + 0 ≤ 56), (by decide : 4416 + 0 ≤ 4416)⟩)
    dsimp only [Pt.U, Pt.locs, Pt.cells, Pt.slots] at X6 l6 y6 z6 st6 hQ6
    subst l6 y6 z6
    obtain ⟨rfl, N6q, eh6⟩ := hQ6
    have N6 := Fr.app N5 N6q
    refine Goes.st st6 ?_
    show Gs p e below _ T6 m 463 #[iv ia, iv ib, iv ic, iv ifr, iv ifm, iv ish, rv pm, rv aO, iv (1 : Int32), iv p0, iv p1, iv p2, iv w0, iv w1, iv w2, iv (0 : Int32), iv (0 : Int32), iv (0 : Int32), rv aJ, rv a, iv f, iv st, iv (ff4 st f y0 y1 y2), iv (pk (-1 : Int32) w0 p0 ((0 : Int32) + (rk o0 o1 (0 : Int32))) f st)] [(.int (rk o0 o1 (1 : Int32))), (.int (0 : Int32)), (.int p1), (.int w1), (.int (pk (-1 : Int32) w0 p0 ((0 : Int32) + (rk o0 o1 (0 : Int32))) f st))]
    refine giadd X6 hx (hb hby at_463) trivial ?_
    refine giload X6 hx (hb hby at_464) rfl ?_
    refine giload X6 hx (hb hby at_466) rfl ?_
    obtain ⟨_, _, ⟨T7, L7, k7, n7⟩, -, X7, ⟨Lc7, hQ7, l7, y7, z7⟩, st7⟩ := Jvm.LawKit.callS X6 hx (y := mN37) hown (mvT hZ (hwk hw 241 rfl)) (mvT hZ (hwk hw 242 rfl)) (mvT hZ (hwk hw 239 rfl)) (mvT hZ (hwk hw 243 rfl)) (by decide) (backOf (W := 0) (rmPk l Z a0 hw [] (pk (-1 : Int32) w0 p0 ((0 : Int32) + (rk o0 o1 (0 : Int32))) f st) w1 p1 ((0 : Int32) + (rk o0 o1 (1 : Int32))) f st hh n0 Z0 ) hZ (hwk hw 243 rfl) (hwk hw 239 rfl) (by decide) (by decide)) (g := (mkF m 468 #[iv ia, iv ib, iv ic, iv ifr, iv ifm, iv ish, rv pm, rv aO, iv (1 : Int32), iv p0, iv p1, iv p2, iv w0, iv w1, iv w2, iv (0 : Int32), iv (0 : Int32), iv (0 : Int32), rv aJ, rv a, iv f, iv st, iv (ff4 st f y0 y1 y2), iv (pk (-1 : Int32) w0 p0 ((0 : Int32) + (rk o0 o1 (0 : Int32))) f st)] [(.int st), (.int f), (.int ((0 : Int32) + (rk o0 o1 (1 : Int32)))), (.int p1), (.int w1), (.int (pk (-1 : Int32) w0 p0 ((0 : Int32) + (rk o0 o1 (0 : Int32))) f st))])) rfl (by rw [hml]; rfl) (argsL := [(.int (pk (-1 : Int32) w0 p0 ((0 : Int32) + (rk o0 o1 (0 : Int32))) f st)), (.int w1), (.int p1), (.int ((0 : Int32) + (rk o0 o1 (1 : Int32)))), (.int f), (.int st)]) (rest := []) (lenOf pd__IZIIII_I_1a2d rfl) rfl (by show 2 * 0 + _ ≤ _; exact Nat.le_of_eq rfl) (hb hby at_468) (fun _ _ => ⟨rfl, eh6, (by decide : 56 + 0 ≤ 56), (by decide : 4416 + 0 ≤ 4416)⟩)
    dsimp only [Pt.U, Pt.locs, Pt.cells, Pt.slots] at X7 l7 y7 z7 st7 hQ7
    subst l7 y7 z7
    obtain ⟨rfl, N7q, eh7⟩ := hQ7
    have N7 := Fr.app N6 N7q
    refine Goes.st st7 ?_
    show Gs p e below _ T7 m 471 #[iv ia, iv ib, iv ic, iv ifr, iv ifm, iv ish, rv pm, rv aO, iv (1 : Int32), iv p0, iv p1, iv p2, iv w0, iv w1, iv w2, iv (0 : Int32), iv (0 : Int32), iv (0 : Int32), rv aJ, rv a, iv f, iv st, iv (ff4 st f y0 y1 y2), iv (pk (-1 : Int32) w0 p0 ((0 : Int32) + (rk o0 o1 (0 : Int32))) f st)] [(.int (pk (pk (-1 : Int32) w0 p0 ((0 : Int32) + (rk o0 o1 (0 : Int32))) f st) w1 p1 ((0 : Int32) + (rk o0 o1 (1 : Int32))) f st))]
    refine gistore X7 hx (hb hby at_471) trivial (l' := #[iv ia, iv ib, iv ic, iv ifr, iv ifm, iv ish, rv pm, rv aO, iv (1 : Int32), iv p0, iv p1, iv p2, iv w0, iv w1, iv w2, iv (0 : Int32), iv (0 : Int32), iv (0 : Int32), rv aJ, rv a, iv f, iv st, iv (ff4 st f y0 y1 y2), iv (pk (pk (-1 : Int32) w0 p0 ((0 : Int32) + (rk o0 o1 (0 : Int32))) f st) w1 p1 ((0 : Int32) + (rk o0 o1 (1 : Int32))) f st)]) rfl ?_
    refine giload X7 hx (hb hby at_473) rfl ?_
    refine giload X7 hx (hb hby at_475) rfl ?_
    refine giload X7 hx (hb hby at_477) rfl ?_
    refine giload X7 hx (hb hby at_479) rfl ?_
    refine giconst X7 hx (hb hby at_481) ?_
    refine gimul X7 hx (hb hby at_482) trivial ?_
    show Gs p e below _ T7 m 483 #[iv ia, iv ib, iv ic, iv ifr, iv ifm, iv ish, rv pm, rv aO, iv (1 : Int32), iv p0, iv p1, iv p2, iv w0, iv w1, iv w2, iv (0 : Int32), iv (0 : Int32), iv (0 : Int32), rv aJ, rv a, iv f, iv st, iv (ff4 st f y0 y1 y2), iv (pk (pk (-1 : Int32) w0 p0 ((0 : Int32) + (rk o0 o1 (0 : Int32))) f st) w1 p1 ((0 : Int32) + (rk o0 o1 (1 : Int32))) f st)] [(.int ((0 : Int32) * (3 : Int32))), (.int p2), (.int w2), (.int (pk (pk (-1 : Int32) w0 p0 ((0 : Int32) + (rk o0 o1 (0 : Int32))) f st) w1 p1 ((0 : Int32) + (rk o0 o1 (1 : Int32))) f st))]
    rw [show ((0 : Int32) * (3 : Int32)) = (0 : Int32) from by decide]
    show Gs p e below _ T7 m 483 #[iv ia, iv ib, iv ic, iv ifr, iv ifm, iv ish, rv pm, rv aO, iv (1 : Int32), iv p0, iv p1, iv p2, iv w0, iv w1, iv w2, iv (0 : Int32), iv (0 : Int32), iv (0 : Int32), rv aJ, rv a, iv f, iv st, iv (ff4 st f y0 y1 y2), iv (pk (pk (-1 : Int32) w0 p0 ((0 : Int32) + (rk o0 o1 (0 : Int32))) f st) w1 p1 ((0 : Int32) + (rk o0 o1 (1 : Int32))) f st)] [(.int (0 : Int32)), (.int p2), (.int w2), (.int (pk (pk (-1 : Int32) w0 p0 ((0 : Int32) + (rk o0 o1 (0 : Int32))) f st) w1 p1 ((0 : Int32) + (rk o0 o1 (1 : Int32))) f st))]
    refine gaload X7 hx (hb hby at_483) rfl rfl ?_
    refine giconst X7 hx (hb hby at_485) ?_
    obtain ⟨_, _, ⟨T8, L8, k8, n8⟩, -, X8, ⟨Lc8, hQ8, l8, y8, z8⟩, st8⟩ := Jvm.LawKit.callS X7 hx (y := mN36) hown (mvT hZ (hwk hw 237 rfl)) (mvT hZ (hwk hw 238 rfl)) (mvT hZ (hwk hw 239 rfl)) (mvT hZ (hwk hw 240 rfl)) (by decide) (backOf (W := 4) (rmRk l Z a0 hw [] aO kO o0 o1 o2 (2 : Int32) hh n0 Z0 Ao) hZ (hwk hw 240 rfl) (hwk hw 239 rfl) (by decide) (by decide)) (g := (mkF m 486 #[iv ia, iv ib, iv ic, iv ifr, iv ifm, iv ish, rv pm, rv aO, iv (1 : Int32), iv p0, iv p1, iv p2, iv w0, iv w1, iv w2, iv (0 : Int32), iv (0 : Int32), iv (0 : Int32), rv aJ, rv a, iv f, iv st, iv (ff4 st f y0 y1 y2), iv (pk (pk (-1 : Int32) w0 p0 ((0 : Int32) + (rk o0 o1 (0 : Int32))) f st) w1 p1 ((0 : Int32) + (rk o0 o1 (1 : Int32))) f st)] [(.int (2 : Int32)), (.ref aO), (.int (0 : Int32)), (.int p2), (.int w2), (.int (pk (pk (-1 : Int32) w0 p0 ((0 : Int32) + (rk o0 o1 (0 : Int32))) f st) w1 p1 ((0 : Int32) + (rk o0 o1 (1 : Int32))) f st))])) rfl (by rw [hml]; rfl) (argsL := [(.ref aO), (.int (2 : Int32))]) (rest := [(.int (0 : Int32)), (.int p2), (.int w2), (.int (pk (pk (-1 : Int32) w0 p0 ((0 : Int32) + (rk o0 o1 (0 : Int32))) f st) w1 p1 ((0 : Int32) + (rk o0 o1 (1 : Int32))) f st))]) (lenOf pd___II_I_e8a rfl) rfl (by show 2 * 0 + _ ≤ _; exact Nat.le_of_eq rfl) (hb hby at_486) (fun _ _ => ⟨rfl, eh7, (by decide : 56 + 0 ≤ 56), (by decide : 4416 + 0 ≤ 4416)⟩)
    dsimp only [Pt.U, Pt.locs, Pt.cells, Pt.slots] at X8 l8 y8 z8 st8 hQ8
    subst l8 y8 z8
    obtain ⟨rfl, N8q, eh8⟩ := hQ8
    have N8 := Fr.app N7 N8q
    refine Goes.st st8 ?_
    show Gs p e below _ T8 m 489 #[iv ia, iv ib, iv ic, iv ifr, iv ifm, iv ish, rv pm, rv aO, iv (1 : Int32), iv p0, iv p1, iv p2, iv w0, iv w1, iv w2, iv (0 : Int32), iv (0 : Int32), iv (0 : Int32), rv aJ, rv a, iv f, iv st, iv (ff4 st f y0 y1 y2), iv (pk (pk (-1 : Int32) w0 p0 ((0 : Int32) + (rk o0 o1 (0 : Int32))) f st) w1 p1 ((0 : Int32) + (rk o0 o1 (1 : Int32))) f st)] [(.int (rk o0 o1 (2 : Int32))), (.int (0 : Int32)), (.int p2), (.int w2), (.int (pk (pk (-1 : Int32) w0 p0 ((0 : Int32) + (rk o0 o1 (0 : Int32))) f st) w1 p1 ((0 : Int32) + (rk o0 o1 (1 : Int32))) f st))]
    refine giadd X8 hx (hb hby at_489) trivial ?_
    refine giload X8 hx (hb hby at_490) rfl ?_
    refine giload X8 hx (hb hby at_492) rfl ?_
    obtain ⟨_, _, ⟨T9, L9, k9, n9⟩, -, X9, ⟨Lc9, hQ9, l9, y9, z9⟩, st9⟩ := Jvm.LawKit.callS X8 hx (y := mN37) hown (mvT hZ (hwk hw 241 rfl)) (mvT hZ (hwk hw 242 rfl)) (mvT hZ (hwk hw 239 rfl)) (mvT hZ (hwk hw 243 rfl)) (by decide) (backOf (W := 0) (rmPk l Z a0 hw [] (pk (pk (-1 : Int32) w0 p0 ((0 : Int32) + (rk o0 o1 (0 : Int32))) f st) w1 p1 ((0 : Int32) + (rk o0 o1 (1 : Int32))) f st) w2 p2 ((0 : Int32) + (rk o0 o1 (2 : Int32))) f st hh n0 Z0 ) hZ (hwk hw 243 rfl) (hwk hw 239 rfl) (by decide) (by decide)) (g := (mkF m 494 #[iv ia, iv ib, iv ic, iv ifr, iv ifm, iv ish, rv pm, rv aO, iv (1 : Int32), iv p0, iv p1, iv p2, iv w0, iv w1, iv w2, iv (0 : Int32), iv (0 : Int32), iv (0 : Int32), rv aJ, rv a, iv f, iv st, iv (ff4 st f y0 y1 y2), iv (pk (pk (-1 : Int32) w0 p0 ((0 : Int32) + (rk o0 o1 (0 : Int32))) f st) w1 p1 ((0 : Int32) + (rk o0 o1 (1 : Int32))) f st)] [(.int st), (.int f), (.int ((0 : Int32) + (rk o0 o1 (2 : Int32)))), (.int p2), (.int w2), (.int (pk (pk (-1 : Int32) w0 p0 ((0 : Int32) + (rk o0 o1 (0 : Int32))) f st) w1 p1 ((0 : Int32) + (rk o0 o1 (1 : Int32))) f st))])) rfl (by rw [hml]; rfl) (argsL := [(.int (pk (pk (-1 : Int32) w0 p0 ((0 : Int32) + (rk o0 o1 (0 : Int32))) f st) w1 p1 ((0 : Int32) + (rk o0 o1 (1 : Int32))) f st)), (.int w2), (.int p2), (.int ((0 : Int32) + (rk o0 o1 (2 : Int32)))), (.int f), (.int st)]) (rest := []) (lenOf pd__IZIIII_I_1a2d rfl) rfl (by show 2 * 0 + _ ≤ _; exact Nat.le_of_eq rfl) (hb hby at_494) (fun _ _ => ⟨rfl, eh8, (by decide : 56 + 0 ≤ 56), (by decide : 4416 + 0 ≤ 4416)⟩)
    dsimp only [Pt.U, Pt.locs, Pt.cells, Pt.slots] at X9 l9 y9 z9 st9 hQ9
    subst l9 y9 z9
    obtain ⟨rfl, N9q, eh9⟩ := hQ9
    have N9 := Fr.app N8 N9q
    refine Goes.st st9 ?_
    show Gs p e below _ T9 m 497 #[iv ia, iv ib, iv ic, iv ifr, iv ifm, iv ish, rv pm, rv aO, iv (1 : Int32), iv p0, iv p1, iv p2, iv w0, iv w1, iv w2, iv (0 : Int32), iv (0 : Int32), iv (0 : Int32), rv aJ, rv a, iv f, iv st, iv (ff4 st f y0 y1 y2), iv (pk (pk (-1 : Int32) w0 p0 ((0 : Int32) + (rk o0 o1 (0 : Int32))) f st) w1 p1 ((0 : Int32) + (rk o0 o1 (1 : Int32))) f st)] [(.int (pk (pk (pk (-1 : Int32) w0 p0 ((0 : Int32) + (rk o0 o1 (0 : Int32))) f st) w1 p1 ((0 : Int32) + (rk o0 o1 (1 : Int32))) f st) w2 p2 ((0 : Int32) + (rk o0 o1 (2 : Int32))) f st))]
    refine gistore X9 hx (hb hby at_497) trivial (l' := #[iv ia, iv ib, iv ic, iv ifr, iv ifm, iv ish, rv pm, rv aO, iv (1 : Int32), iv p0, iv p1, iv p2, iv w0, iv w1, iv w2, iv (0 : Int32), iv (0 : Int32), iv (0 : Int32), rv aJ, rv a, iv f, iv st, iv (ff4 st f y0 y1 y2), iv (pk (pk (pk (-1 : Int32) w0 p0 ((0 : Int32) + (rk o0 o1 (0 : Int32))) f st) w1 p1 ((0 : Int32) + (rk o0 o1 (1 : Int32))) f st) w2 p2 ((0 : Int32) + (rk o0 o1 (2 : Int32))) f st)]) rfl ?_
    refine giload X9 hx (hb hby at_499) rfl ?_
    refine giload X9 hx (hb hby at_501) rfl ?_
    show Gs p e below _ T9 m 503 #[iv ia, iv ib, iv ic, iv ifr, iv ifm, iv ish, rv pm, rv aO, iv (1 : Int32), iv p0, iv p1, iv p2, iv w0, iv w1, iv w2, iv (0 : Int32), iv (0 : Int32), iv (0 : Int32), rv aJ, rv a, iv f, iv st, iv (ff4 st f y0 y1 y2), iv (pk (pk (pk (-1 : Int32) w0 p0 ((0 : Int32) + (rk o0 o1 (0 : Int32))) f st) w1 p1 ((0 : Int32) + (rk o0 o1 (1 : Int32))) f st) w2 p2 ((0 : Int32) + (rk o0 o1 (2 : Int32))) f st)] [(.int (pk (pk (pk (-1 : Int32) w0 p0 ((0 : Int32) + (rk o0 o1 (0 : Int32))) f st) w1 p1 ((0 : Int32) + (rk o0 o1 (1 : Int32))) f st) w2 p2 ((0 : Int32) + (rk o0 o1 (2 : Int32))) f st)), (.int (ff4 st f y0 y1 y2))]
    refine gicmpNo X9 hx (hb hby at_503) (teq (own_law4z hp hf hst hy0 hy1 hy2)).2 ?_
    refine giconst X9 hx (hb hby at_506) ?_
    refine ggoto X9 hx (pc := 507) (pc' := 511) (hb hby at_507) (by decide) (by decide) ?_
    refine Goes.retN X9 hx hret (by simp) (hb hby at_511) (by decide) (lvV X9 hlk hS (by rw [eh9]; exact hk) (vsome hret) ?_ (by decide) (by decide))
    rw [eh9]
    exact ⟨rfl, N9⟩
  by_cases c10 : (ifm &&& (16 : Int32)) = (0 : Int32)
  · refine gifYes X1 hx (pc := 389) (pc' := 400) (hb hby at_389) ((if0 _ _).trans (teq c10).1) (by decide) (by decide) ?_
    refine giload X1 hx (hb hby at_400) rfl ?_
    refine Goes.st (fun tg kg => XS.bipush X1.here hx rfl (hb hby at_402) kg) ?_
    refine giand X1 hx (hb hby at_404) trivial ?_
    show Gs p e below _ T1 m 405 #[iv ia, iv ib, iv ic, iv ifr, iv ifm, iv ish, rv pm, rv aO, iv (1 : Int32), iv p0, iv p1, iv p2, iv w0, iv w1, iv w2, iv (0 : Int32), iv (0 : Int32), iv (0 : Int32), rv aJ, rv a, iv f, .unset, .unset, .unset] [(.int (ifm &&& (15 : Int32)))]
    exact J2 _ (own_andn _ _ (by decide))
  · refine gifNo X1 hx (hb hby at_389) ((if0 _ _).trans (feq c10).1) ?_
    refine giload X1 hx (hb hby at_392) rfl ?_
    show Gs p e below _ T1 m 394 #[iv ia, iv ib, iv ic, iv ifr, iv ifm, iv ish, rv pm, rv aO, iv (1 : Int32), iv p0, iv p1, iv p2, iv w0, iv w1, iv w2, iv (0 : Int32), iv (0 : Int32), iv (0 : Int32), rv aJ, rv a, iv f, .unset, .unset, .unset] [(.int ifm)]
    refine Goes.st (fun tg kg => X1.ldcInt hx hown (mvT hZ (hwk hw 4 rfl)) (g := (mkF m 394 #[iv ia, iv ib, iv ic, iv ifr, iv ifm, iv ish, rv pm, rv aO, iv (1 : Int32), iv p0, iv p1, iv p2, iv w0, iv w1, iv w2, iv (0 : Int32), iv (0 : Int32), iv (0 : Int32), rv aJ, rv a, iv f, .unset, .unset, .unset] [(.int ifm)])) rfl (hb hby at_394) tg kg) ?_
    show Gs p e below _ T1 m 396 #[iv ia, iv ib, iv ic, iv ifr, iv ifm, iv ish, rv pm, rv aO, iv (1 : Int32), iv p0, iv p1, iv p2, iv w0, iv w1, iv w2, iv (0 : Int32), iv (0 : Int32), iv (0 : Int32), rv aJ, rv a, iv f, .unset, .unset, .unset] [(.int (2147483647 : Int32)), (.int ifm)]
    refine giand X1 hx (hb hby at_396) trivial ?_
    refine ggoto X1 hx (pc := 397) (pc' := 405) (hb hby at_397) (by decide) (by decide) ?_
    show Gs p e below _ T1 m 405 #[iv ia, iv ib, iv ic, iv ifr, iv ifm, iv ish, rv pm, rv aO, iv (1 : Int32), iv p0, iv p1, iv p2, iv w0, iv w1, iv w2, iv (0 : Int32), iv (0 : Int32), iv (0 : Int32), rv aJ, rv a, iv f, .unset, .unset, .unset] [(.int (ifm &&& (2147483647 : Int32)))]
    exact J2 _ (own_andn _ _ (by decide))
set_option maxRecDepth 65536 in
set_option maxHeartbeats 40000000 in
theorem Seg362_4 {p : Program} {l : Launch} {e : Env} {s : State} {m : MethodId} {args : Array Value} {below : List Frame} {meth : Method} {c : Code}  (Z : State) (a0 : Array Value) (hw : ∀ d ∈ tables_1, d.before a0 Z = true) (hx : p.tables.exec = Jvm.exec) (hby : c.code = code) (hlk : meth.locks = false) (hret : meth.sig.returnType = some .boolean) (hml : c.maxLocals = 24) (hnm : meth.name = "law") (vm0 : Vm) (kS0 : Nat) (hS : s.Since vm0 kS0) (hown : (s.setVm vm0).vm.findClass "com/example/redoubt/redoubt/policies/FirstFitQueueFirstFittingPinLaw" = some m.cls) (hZ : Z.Warmed39 (s.setVm vm0).vm) (ia ib ic ifr ifm ish : Int32) (pm aO aJ a aR aP aF : Addr) (kO kR kP kF : ClassId) (o0 o1 o2 p0 p1 p2 w0 w1 w2 y0 y1 y2 : Int32) (h0 hh : Heap) (n0 : Nat) (T0 : State) (locs0 : List Loc) (X0 : Stand p l e room_1 (s.setVm vm0) m args below meth c T0 locs0 56 4416) (e0 : T0.heap = hh) (N0 : Fr n0 locs0) (Z0 : n0 ≤ hh.size) (hk : kS0 ≤ hh.size) (Ea : Exa Z hh a "com/example/redoubt/redoubt/policies/FirstFitQueue") (Fo : Fld Z hh a "com/example/redoubt/redoubt/policies/FirstFitQueue" "order" "[I" (.ref aO)) (Ao : Arv Z hh aO kO .int (3 : Int32) [(.int o0), (.int o1), (.int o2)] (.int (0 : Int32))) (Fr_ : Fld Z hh a "com/example/redoubt/redoubt/policies/FirstFitQueue" "rankOf" "[I" (.ref aR)) (Ar_ : Arv Z hh aR kR .int (3 : Int32) [(.int (rk o0 o1 (0 : Int32))), (.int (rk o0 o1 (1 : Int32))), (.int (rk o0 o1 (2 : Int32)))] (.int (0 : Int32))) (Fp : Fld Z hh a "com/example/redoubt/redoubt/policies/FirstFitQueue" "procs" "[I" (.ref aP)) (Ap : Arv Z hh aP kP .int (3 : Int32) [(.int (sel o0 p0 p1 p2)), (.int (sel o1 p0 p1 p2)), (.int (sel o2 p0 p1 p2))] (.int (0 : Int32))) (Fl_ : Fld Z hh a "com/example/redoubt/redoubt/policies/FirstFitQueue" "leaves" "I" (.int (4 : Int32))) (Ff : Fld Z hh a "com/example/redoubt/redoubt/policies/FirstFitQueue" "fewest" "[I" (.ref aF)) (Fh : Fld Z hh a "com/example/redoubt/redoubt/policies/FirstFitQueue" "shortest" "[D" .null) (VF : Arv Z hh aF kF .int (8 : Int32) (tr4 y0 y1 y2) (.int (0 : Int32))) (lF : n0 ≤ aF) (naF : a ≠ aF) (nPF : aP ≠ aF) (nOF : aO ≠ aF) (nRF : aR ≠ aF) (hp : Perm3 o0 o1 o2) (hy0 : y0 = (ww w1 (((0 : Int32) * (3 : Int32)) + rk o0 o1 (1 : Int32)) (0 : Int32) p1 (ww w0 (((0 : Int32) * (3 : Int32)) + rk o0 o1 (0 : Int32)) (0 : Int32) p0 (2147483647 : Int32)))) (hy1 : y1 = (ww w1 (((0 : Int32) * (3 : Int32)) + rk o0 o1 (1 : Int32)) (1 : Int32) p1 (ww w0 (((0 : Int32) * (3 : Int32)) + rk o0 o1 (0 : Int32)) (1 : Int32) p0 (2147483647 : Int32)))) (hy2 : y2 = (ww w1 (((0 : Int32) * (3 : Int32)) + rk o0 o1 (1 : Int32)) (2 : Int32) p1 (ww w0 (((0 : Int32) * (3 : Int32)) + rk o0 o1 (0 : Int32)) (2 : Int32) p0 (2147483647 : Int32)))) :
    Goes p e below (EV s (QLw Z h0 n0) 56 4416) (T0.setTop (mkF m 362 #[iv ia, iv ib, iv ic, iv ifr, iv ifm, iv ish, rv pm, rv aO, iv (1 : Int32), iv p0, iv p1, iv p2, iv w0, iv w1, iv w2, iv (0 : Int32), iv (0 : Int32), iv (0 : Int32), rv aJ, rv a, .unset, .unset, .unset, .unset] [])) := by
  show Gs p e below _ T0 m 362 #[iv ia, iv ib, iv ic, iv ifr, iv ifm, iv ish, rv pm, rv aO, iv (1 : Int32), iv p0, iv p1, iv p2, iv w0, iv w1, iv w2, iv (0 : Int32), iv (0 : Int32), iv (0 : Int32), rv aJ, rv a, .unset, .unset, .unset, .unset] []
  refine giload X0 hx (hb hby at_362) rfl ?_
  by_cases c1 : w2 = (0 : Int32)
  · refine gifYes X0 hx (pc := 364) (pc' := 376) (hb hby at_364) ((if0 _ _).trans (teq c1).1) (by decide) (by decide) ?_
    show Gs p e below _ T0 m 376 #[iv ia, iv ib, iv ic, iv ifr, iv ifm, iv ish, rv pm, rv aO, iv (1 : Int32), iv p0, iv p1, iv p2, iv w0, iv w1, iv w2, iv (0 : Int32), iv (0 : Int32), iv (0 : Int32), rv aJ, rv a, .unset, .unset, .unset, .unset] []
    exact Seg376_4 Z a0 hw hx hby hlk hret hml hnm _ _ hS hown hZ ia ib ic ifr ifm ish pm aO aJ a aR aP aF kO kR kP kF o0 o1 o2 p0 p1 p2 w0 w1 w2 y0 y1 y2 h0 hh n0 T0 _ X0 e0 N0 Z0 hk Ea Fo Ao Fr_ Ar_ Fp Ap Fl_ Ff Fh VF lF naF nPF nOF nRF hp (own_w0 c1 hy0) (own_w0 c1 hy1) (own_w0 c1 hy2)
  · refine gifNo X0 hx (hb hby at_364) ((if0 _ _).trans (feq c1).1) ?_
    refine gaload X0 hx (hb hby at_367) rfl rfl ?_
    refine giconst X0 hx (hb hby at_369) ?_
    refine giload X0 hx (hb hby at_370) rfl ?_
    obtain ⟨cq2, kq2, qa2, qb2, qc2⟩ := isOf hZ e0 Ea
    obtain ⟨_, _, ⟨T2, L2, k2, n2⟩, -, X2, ⟨Lc2, hQ2, l2, y2, z2⟩, st2⟩ := X0.virtualBack hx (y := mN34) (z := mN34) hown (mvT hZ (hwk hw 203 rfl)) (mvT hZ (hwk hw 204 rfl)) (notFace_of_selects (args := #[]) (mvT hZ (hwk hw 206 rfl))) (mvT hZ (hwk hw 206 rfl)) (mvT hZ (hwk hw 205 rfl)) (by decide) (backOf (W := 0) (rmAd1 l Z a0 hw [] a aO aR aP aF kO kR kP kF o0 o1 o2 p0 p1 p2 (2 : Int32) y0 y1 y2 hh n0 Z0 Ea Fo Ao Fr_ Ar_ Fp Ap Fl_ Ff Fh VF lF naF nPF nOF nRF hp (by decide)) hZ (hwk hw 207 rfl) (hwk hw 146 rfl) (by decide) (by decide)) qa2 qc2 (g := (mkF m 372 #[iv ia, iv ib, iv ic, iv ifr, iv ifm, iv ish, rv pm, rv aO, iv (1 : Int32), iv p0, iv p1, iv p2, iv w0, iv w1, iv w2, iv (0 : Int32), iv (0 : Int32), iv (0 : Int32), rv aJ, rv a, .unset, .unset, .unset, .unset] [(.int (0 : Int32)), (.int (2 : Int32)), (.ref a)])) rfl (by rw [hml]; rfl) (Steps.refl _) (argsL := [(.int (2 : Int32)), (.int (0 : Int32))]) (rest := []) (lenOf pd__II_I_aae rfl) rfl (by show 2 * 0 + _ ≤ _; exact Nat.le_of_eq rfl) (hb hby at_372) (fun _ _ => ⟨rfl, e0, (by decide : 56 + 0 ≤ 56), (by decide : 4416 + 0 ≤ 4416)⟩)
    dsimp only [Pt.U, Pt.locs, Pt.cells, Pt.slots] at X2 l2 y2 z2 st2 hQ2
    subst l2 y2 z2
    obtain ⟨rfl, N2q, K2, VF2⟩ := hQ2
    have hk := Nat.le_trans hk K2.1
    have Z2 : n0 ≤ T2.heap.size := Nat.le_trans Z0 K2.1
    have N2 := Fr.app N0 N2q
    refine Goes.sts st2 ?_
    show Gs p e below _ T2 m 375 #[iv ia, iv ib, iv ic, iv ifr, iv ifm, iv ish, rv pm, rv aO, iv (1 : Int32), iv p0, iv p1, iv p2, iv w0, iv w1, iv w2, iv (0 : Int32), iv (0 : Int32), iv (0 : Int32), rv aJ, rv a, .unset, .unset, .unset, .unset] [(.int (((0 : Int32) * (3 : Int32)) + rk o0 o1 (2 : Int32)))]
    refine Goes.st (fun tg kg => XT.pop X2.here hx rfl (hb hby at_375) rfl rfl kg) ?_
    show Gs p e below _ T2 m 376 #[iv ia, iv ib, iv ic, iv ifr, iv ifm, iv ish, rv pm, rv aO, iv (1 : Int32), iv p0, iv p1, iv p2, iv w0, iv w1, iv w2, iv (0 : Int32), iv (0 : Int32), iv (0 : Int32), rv aJ, rv a, .unset, .unset, .unset, .unset] []
    have f4 := (Ea.keep K2)
    have f5 := (Fo.keep K2 (ninS naF nin0))
    have f6 := (Ao.keep K2 (ninS nOF nin0))
    have f7 := (Fr_.keep K2 (ninS naF nin0))
    have f8 := (Ar_.keep K2 (ninS nRF nin0))
    have f9 := (Fp.keep K2 (ninS naF nin0))
    have f10 := (Ap.keep K2 (ninS nPF nin0))
    have f11 := (Fl_.keep K2 (ninS naF nin0))
    have f12 := (Ff.keep K2 (ninS naF nin0))
    have f13 := (Fh.keep K2 (ninS naF nin0))
    exact Seg376_4 Z a0 hw hx hby hlk hret hml hnm _ _ hS hown hZ ia ib ic ifr ifm ish pm aO aJ a aR aP aF kO kR kP kF o0 o1 o2 p0 p1 p2 w0 w1 w2 (uu (((0 : Int32) * (3 : Int32)) + rk o0 o1 (2 : Int32)) (0 : Int32) (sel (2 : Int32) p0 p1 p2) y0) (uu (((0 : Int32) * (3 : Int32)) + rk o0 o1 (2 : Int32)) (1 : Int32) (sel (2 : Int32) p0 p1 p2) y1) (uu (((0 : Int32) * (3 : Int32)) + rk o0 o1 (2 : Int32)) (2 : Int32) (sel (2 : Int32) p0 p1 p2) y2) h0 T2.heap n0 T2 _ X2 rfl N2 Z2 hk f4 f5 f6 f7 f8 f9 f10 f11 f12 f13 VF2 lF naF nPF nOF nRF hp (own_wj2 c1 hy0) (own_wj2 c1 hy1) (own_wj2 c1 hy2)
set_option maxRecDepth 65536 in
set_option maxHeartbeats 40000000 in
theorem Seg348_4 {p : Program} {l : Launch} {e : Env} {s : State} {m : MethodId} {args : Array Value} {below : List Frame} {meth : Method} {c : Code}  (Z : State) (a0 : Array Value) (hw : ∀ d ∈ tables_1, d.before a0 Z = true) (hx : p.tables.exec = Jvm.exec) (hby : c.code = code) (hlk : meth.locks = false) (hret : meth.sig.returnType = some .boolean) (hml : c.maxLocals = 24) (hnm : meth.name = "law") (vm0 : Vm) (kS0 : Nat) (hS : s.Since vm0 kS0) (hown : (s.setVm vm0).vm.findClass "com/example/redoubt/redoubt/policies/FirstFitQueueFirstFittingPinLaw" = some m.cls) (hZ : Z.Warmed39 (s.setVm vm0).vm) (ia ib ic ifr ifm ish : Int32) (pm aO aJ a aR aP aF : Addr) (kO kR kP kF : ClassId) (o0 o1 o2 p0 p1 p2 w0 w1 w2 y0 y1 y2 : Int32) (h0 hh : Heap) (n0 : Nat) (T0 : State) (locs0 : List Loc) (X0 : Stand p l e room_1 (s.setVm vm0) m args below meth c T0 locs0 56 4416) (e0 : T0.heap = hh) (N0 : Fr n0 locs0) (Z0 : n0 ≤ hh.size) (hk : kS0 ≤ hh.size) (Ea : Exa Z hh a "com/example/redoubt/redoubt/policies/FirstFitQueue") (Fo : Fld Z hh a "com/example/redoubt/redoubt/policies/FirstFitQueue" "order" "[I" (.ref aO)) (Ao : Arv Z hh aO kO .int (3 : Int32) [(.int o0), (.int o1), (.int o2)] (.int (0 : Int32))) (Fr_ : Fld Z hh a "com/example/redoubt/redoubt/policies/FirstFitQueue" "rankOf" "[I" (.ref aR)) (Ar_ : Arv Z hh aR kR .int (3 : Int32) [(.int (rk o0 o1 (0 : Int32))), (.int (rk o0 o1 (1 : Int32))), (.int (rk o0 o1 (2 : Int32)))] (.int (0 : Int32))) (Fp : Fld Z hh a "com/example/redoubt/redoubt/policies/FirstFitQueue" "procs" "[I" (.ref aP)) (Ap : Arv Z hh aP kP .int (3 : Int32) [(.int (sel o0 p0 p1 p2)), (.int (sel o1 p0 p1 p2)), (.int (sel o2 p0 p1 p2))] (.int (0 : Int32))) (Fl_ : Fld Z hh a "com/example/redoubt/redoubt/policies/FirstFitQueue" "leaves" "I" (.int (4 : Int32))) (Ff : Fld Z hh a "com/example/redoubt/redoubt/policies/FirstFitQueue" "fewest" "[I" (.ref aF)) (Fh : Fld Z hh a "com/example/redoubt/redoubt/policies/FirstFitQueue" "shortest" "[D" .null) (VF : Arv Z hh aF kF .int (8 : Int32) (tr4 y0 y1 y2) (.int (0 : Int32))) (lF : n0 ≤ aF) (naF : a ≠ aF) (nPF : aP ≠ aF) (nOF : aO ≠ aF) (nRF : aR ≠ aF) (hp : Perm3 o0 o1 o2) (hy0 : y0 = (ww w0 (((0 : Int32) * (3 : Int32)) + rk o0 o1 (0 : Int32)) (0 : Int32) p0 (2147483647 : Int32))) (hy1 : y1 = (ww w0 (((0 : Int32) * (3 : Int32)) + rk o0 o1 (0 : Int32)) (1 : Int32) p0 (2147483647 : Int32))) (hy2 : y2 = (ww w0 (((0 : Int32) * (3 : Int32)) + rk o0 o1 (0 : Int32)) (2 : Int32) p0 (2147483647 : Int32))) :
    Goes p e below (EV s (QLw Z h0 n0) 56 4416) (T0.setTop (mkF m 348 #[iv ia, iv ib, iv ic, iv ifr, iv ifm, iv ish, rv pm, rv aO, iv (1 : Int32), iv p0, iv p1, iv p2, iv w0, iv w1, iv w2, iv (0 : Int32), iv (0 : Int32), iv (0 : Int32), rv aJ, rv a, .unset, .unset, .unset, .unset] [])) := by
  show Gs p e below _ T0 m 348 #[iv ia, iv ib, iv ic, iv ifr, iv ifm, iv ish, rv pm, rv aO, iv (1 : Int32), iv p0, iv p1, iv p2, iv w0, iv w1, iv w2, iv (0 : Int32), iv (0 : Int32), iv (0 : Int32), rv aJ, rv a, .unset, .unset, .unset, .unset] []
  refine giload X0 hx (hb hby at_348) rfl ?_
  by_cases c1 : w1 = (0 : Int32)
  · refine gifYes X0 hx (pc := 350) (pc' := 362) (hb hby at_350) ((if0 _ _).trans (teq c1).1) (by decide) (by decide) ?_
    show Gs p e below _ T0 m 362 #[iv ia, iv ib, iv ic, iv ifr, iv ifm, iv ish, rv pm, rv aO, iv (1 : Int32), iv p0, iv p1, iv p2, iv w0, iv w1, iv w2, iv (0 : Int32), iv (0 : Int32), iv (0 : Int32), rv aJ, rv a, .unset, .unset, .unset, .unset] []
    exact Seg362_4 Z a0 hw hx hby hlk hret hml hnm _ _ hS hown hZ ia ib ic ifr ifm ish pm aO aJ a aR aP aF kO kR kP kF o0 o1 o2 p0 p1 p2 w0 w1 w2 y0 y1 y2 h0 hh n0 T0 _ X0 e0 N0 Z0 hk Ea Fo Ao Fr_ Ar_ Fp Ap Fl_ Ff Fh VF lF naF nPF nOF nRF hp (own_w0 c1 hy0) (own_w0 c1 hy1) (own_w0 c1 hy2)
  · refine gifNo X0 hx (hb hby at_350) ((if0 _ _).trans (feq c1).1) ?_
    refine gaload X0 hx (hb hby at_353) rfl rfl ?_
    refine giconst X0 hx (hb hby at_355) ?_
    refine giload X0 hx (hb hby at_356) rfl ?_
    obtain ⟨cq2, kq2, qa2, qb2, qc2⟩ := isOf hZ e0 Ea
    obtain ⟨_, _, ⟨T2, L2, k2, n2⟩, -, X2, ⟨Lc2, hQ2, l2, y2, z2⟩, st2⟩ := X0.virtualBack hx (y := mN34) (z := mN34) hown (mvT hZ (hwk hw 203 rfl)) (mvT hZ (hwk hw 204 rfl)) (notFace_of_selects (args := #[]) (mvT hZ (hwk hw 206 rfl))) (mvT hZ (hwk hw 206 rfl)) (mvT hZ (hwk hw 205 rfl)) (by decide) (backOf (W := 0) (rmAd1 l Z a0 hw [] a aO aR aP aF kO kR kP kF o0 o1 o2 p0 p1 p2 (1 : Int32) y0 y1 y2 hh n0 Z0 Ea Fo Ao Fr_ Ar_ Fp Ap Fl_ Ff Fh VF lF naF nPF nOF nRF hp (by decide)) hZ (hwk hw 207 rfl) (hwk hw 146 rfl) (by decide) (by decide)) qa2 qc2 (g := (mkF m 358 #[iv ia, iv ib, iv ic, iv ifr, iv ifm, iv ish, rv pm, rv aO, iv (1 : Int32), iv p0, iv p1, iv p2, iv w0, iv w1, iv w2, iv (0 : Int32), iv (0 : Int32), iv (0 : Int32), rv aJ, rv a, .unset, .unset, .unset, .unset] [(.int (0 : Int32)), (.int (1 : Int32)), (.ref a)])) rfl (by rw [hml]; rfl) (Steps.refl _) (argsL := [(.int (1 : Int32)), (.int (0 : Int32))]) (rest := []) (lenOf pd__II_I_aae rfl) rfl (by show 2 * 0 + _ ≤ _; exact Nat.le_of_eq rfl) (hb hby at_358) (fun _ _ => ⟨rfl, e0, (by decide : 56 + 0 ≤ 56), (by decide : 4416 + 0 ≤ 4416)⟩)
    dsimp only [Pt.U, Pt.locs, Pt.cells, Pt.slots] at X2 l2 y2 z2 st2 hQ2
    subst l2 y2 z2
    obtain ⟨rfl, N2q, K2, VF2⟩ := hQ2
    have hk := Nat.le_trans hk K2.1
    have Z2 : n0 ≤ T2.heap.size := Nat.le_trans Z0 K2.1
    have N2 := Fr.app N0 N2q
    refine Goes.sts st2 ?_
    show Gs p e below _ T2 m 361 #[iv ia, iv ib, iv ic, iv ifr, iv ifm, iv ish, rv pm, rv aO, iv (1 : Int32), iv p0, iv p1, iv p2, iv w0, iv w1, iv w2, iv (0 : Int32), iv (0 : Int32), iv (0 : Int32), rv aJ, rv a, .unset, .unset, .unset, .unset] [(.int (((0 : Int32) * (3 : Int32)) + rk o0 o1 (1 : Int32)))]
    refine Goes.st (fun tg kg => XT.pop X2.here hx rfl (hb hby at_361) rfl rfl kg) ?_
    show Gs p e below _ T2 m 362 #[iv ia, iv ib, iv ic, iv ifr, iv ifm, iv ish, rv pm, rv aO, iv (1 : Int32), iv p0, iv p1, iv p2, iv w0, iv w1, iv w2, iv (0 : Int32), iv (0 : Int32), iv (0 : Int32), rv aJ, rv a, .unset, .unset, .unset, .unset] []
    have f4 := (Ea.keep K2)
    have f5 := (Fo.keep K2 (ninS naF nin0))
    have f6 := (Ao.keep K2 (ninS nOF nin0))
    have f7 := (Fr_.keep K2 (ninS naF nin0))
    have f8 := (Ar_.keep K2 (ninS nRF nin0))
    have f9 := (Fp.keep K2 (ninS naF nin0))
    have f10 := (Ap.keep K2 (ninS nPF nin0))
    have f11 := (Fl_.keep K2 (ninS naF nin0))
    have f12 := (Ff.keep K2 (ninS naF nin0))
    have f13 := (Fh.keep K2 (ninS naF nin0))
    exact Seg362_4 Z a0 hw hx hby hlk hret hml hnm _ _ hS hown hZ ia ib ic ifr ifm ish pm aO aJ a aR aP aF kO kR kP kF o0 o1 o2 p0 p1 p2 w0 w1 w2 (uu (((0 : Int32) * (3 : Int32)) + rk o0 o1 (1 : Int32)) (0 : Int32) (sel (1 : Int32) p0 p1 p2) y0) (uu (((0 : Int32) * (3 : Int32)) + rk o0 o1 (1 : Int32)) (1 : Int32) (sel (1 : Int32) p0 p1 p2) y1) (uu (((0 : Int32) * (3 : Int32)) + rk o0 o1 (1 : Int32)) (2 : Int32) (sel (1 : Int32) p0 p1 p2) y2) h0 T2.heap n0 T2 _ X2 rfl N2 Z2 hk f4 f5 f6 f7 f8 f9 f10 f11 f12 f13 VF2 lF naF nPF nOF nRF hp (own_wj1 c1 hy0) (own_wj1 c1 hy1) (own_wj1 c1 hy2)
set_option maxRecDepth 65536 in
set_option maxHeartbeats 40000000 in
theorem Seg334_4 {p : Program} {l : Launch} {e : Env} {s : State} {m : MethodId} {args : Array Value} {below : List Frame} {meth : Method} {c : Code}  (Z : State) (a0 : Array Value) (hw : ∀ d ∈ tables_1, d.before a0 Z = true) (hx : p.tables.exec = Jvm.exec) (hby : c.code = code) (hlk : meth.locks = false) (hret : meth.sig.returnType = some .boolean) (hml : c.maxLocals = 24) (hnm : meth.name = "law") (vm0 : Vm) (kS0 : Nat) (hS : s.Since vm0 kS0) (hown : (s.setVm vm0).vm.findClass "com/example/redoubt/redoubt/policies/FirstFitQueueFirstFittingPinLaw" = some m.cls) (hZ : Z.Warmed39 (s.setVm vm0).vm) (ia ib ic ifr ifm ish : Int32) (pm aO aJ a aR aP aF : Addr) (kO kR kP kF : ClassId) (o0 o1 o2 p0 p1 p2 w0 w1 w2 y0 y1 y2 : Int32) (h0 hh : Heap) (n0 : Nat) (T0 : State) (locs0 : List Loc) (X0 : Stand p l e room_1 (s.setVm vm0) m args below meth c T0 locs0 56 4416) (e0 : T0.heap = hh) (N0 : Fr n0 locs0) (Z0 : n0 ≤ hh.size) (hk : kS0 ≤ hh.size) (Ea : Exa Z hh a "com/example/redoubt/redoubt/policies/FirstFitQueue") (Fo : Fld Z hh a "com/example/redoubt/redoubt/policies/FirstFitQueue" "order" "[I" (.ref aO)) (Ao : Arv Z hh aO kO .int (3 : Int32) [(.int o0), (.int o1), (.int o2)] (.int (0 : Int32))) (Fr_ : Fld Z hh a "com/example/redoubt/redoubt/policies/FirstFitQueue" "rankOf" "[I" (.ref aR)) (Ar_ : Arv Z hh aR kR .int (3 : Int32) [(.int (rk o0 o1 (0 : Int32))), (.int (rk o0 o1 (1 : Int32))), (.int (rk o0 o1 (2 : Int32)))] (.int (0 : Int32))) (Fp : Fld Z hh a "com/example/redoubt/redoubt/policies/FirstFitQueue" "procs" "[I" (.ref aP)) (Ap : Arv Z hh aP kP .int (3 : Int32) [(.int (sel o0 p0 p1 p2)), (.int (sel o1 p0 p1 p2)), (.int (sel o2 p0 p1 p2))] (.int (0 : Int32))) (Fl_ : Fld Z hh a "com/example/redoubt/redoubt/policies/FirstFitQueue" "leaves" "I" (.int (4 : Int32))) (Ff : Fld Z hh a "com/example/redoubt/redoubt/policies/FirstFitQueue" "fewest" "[I" (.ref aF)) (Fh : Fld Z hh a "com/example/redoubt/redoubt/policies/FirstFitQueue" "shortest" "[D" .null) (VF : Arv Z hh aF kF .int (8 : Int32) (tr4 y0 y1 y2) (.int (0 : Int32))) (lF : n0 ≤ aF) (naF : a ≠ aF) (nPF : aP ≠ aF) (nOF : aO ≠ aF) (nRF : aR ≠ aF) (hp : Perm3 o0 o1 o2) (hy0 : y0 = (2147483647 : Int32)) (hy1 : y1 = (2147483647 : Int32)) (hy2 : y2 = (2147483647 : Int32)) :
    Goes p e below (EV s (QLw Z h0 n0) 56 4416) (T0.setTop (mkF m 334 #[iv ia, iv ib, iv ic, iv ifr, iv ifm, iv ish, rv pm, rv aO, iv (1 : Int32), iv p0, iv p1, iv p2, iv w0, iv w1, iv w2, iv (0 : Int32), iv (0 : Int32), iv (0 : Int32), rv aJ, rv a, .unset, .unset, .unset, .unset] [])) := by
  show Gs p e below _ T0 m 334 #[iv ia, iv ib, iv ic, iv ifr, iv ifm, iv ish, rv pm, rv aO, iv (1 : Int32), iv p0, iv p1, iv p2, iv w0, iv w1, iv w2, iv (0 : Int32), iv (0 : Int32), iv (0 : Int32), rv aJ, rv a, .unset, .unset, .unset, .unset] []
  refine giload X0 hx (hb hby at_334) rfl ?_
  by_cases c1 : w0 = (0 : Int32)
  · refine gifYes X0 hx (pc := 336) (pc' := 348) (hb hby at_336) ((if0 _ _).trans (teq c1).1) (by decide) (by decide) ?_
    show Gs p e below _ T0 m 348 #[iv ia, iv ib, iv ic, iv ifr, iv ifm, iv ish, rv pm, rv aO, iv (1 : Int32), iv p0, iv p1, iv p2, iv w0, iv w1, iv w2, iv (0 : Int32), iv (0 : Int32), iv (0 : Int32), rv aJ, rv a, .unset, .unset, .unset, .unset] []
    exact Seg348_4 Z a0 hw hx hby hlk hret hml hnm _ _ hS hown hZ ia ib ic ifr ifm ish pm aO aJ a aR aP aF kO kR kP kF o0 o1 o2 p0 p1 p2 w0 w1 w2 y0 y1 y2 h0 hh n0 T0 _ X0 e0 N0 Z0 hk Ea Fo Ao Fr_ Ar_ Fp Ap Fl_ Ff Fh VF lF naF nPF nOF nRF hp (own_w0 c1 hy0) (own_w0 c1 hy1) (own_w0 c1 hy2)
  · refine gifNo X0 hx (hb hby at_336) ((if0 _ _).trans (feq c1).1) ?_
    refine gaload X0 hx (hb hby at_339) rfl rfl ?_
    refine giconst X0 hx (hb hby at_341) ?_
    refine giload X0 hx (hb hby at_342) rfl ?_
    obtain ⟨cq2, kq2, qa2, qb2, qc2⟩ := isOf hZ e0 Ea
    obtain ⟨_, _, ⟨T2, L2, k2, n2⟩, -, X2, ⟨Lc2, hQ2, l2, y2, z2⟩, st2⟩ := X0.virtualBack hx (y := mN34) (z := mN34) hown (mvT hZ (hwk hw 203 rfl)) (mvT hZ (hwk hw 204 rfl)) (notFace_of_selects (args := #[]) (mvT hZ (hwk hw 206 rfl))) (mvT hZ (hwk hw 206 rfl)) (mvT hZ (hwk hw 205 rfl)) (by decide) (backOf (W := 0) (rmAd1 l Z a0 hw [] a aO aR aP aF kO kR kP kF o0 o1 o2 p0 p1 p2 (0 : Int32) y0 y1 y2 hh n0 Z0 Ea Fo Ao Fr_ Ar_ Fp Ap Fl_ Ff Fh VF lF naF nPF nOF nRF hp (by decide)) hZ (hwk hw 207 rfl) (hwk hw 146 rfl) (by decide) (by decide)) qa2 qc2 (g := (mkF m 344 #[iv ia, iv ib, iv ic, iv ifr, iv ifm, iv ish, rv pm, rv aO, iv (1 : Int32), iv p0, iv p1, iv p2, iv w0, iv w1, iv w2, iv (0 : Int32), iv (0 : Int32), iv (0 : Int32), rv aJ, rv a, .unset, .unset, .unset, .unset] [(.int (0 : Int32)), (.int (0 : Int32)), (.ref a)])) rfl (by rw [hml]; rfl) (Steps.refl _) (argsL := [(.int (0 : Int32)), (.int (0 : Int32))]) (rest := []) (lenOf pd__II_I_aae rfl) rfl (by show 2 * 0 + _ ≤ _; exact Nat.le_of_eq rfl) (hb hby at_344) (fun _ _ => ⟨rfl, e0, (by decide : 56 + 0 ≤ 56), (by decide : 4416 + 0 ≤ 4416)⟩)
    dsimp only [Pt.U, Pt.locs, Pt.cells, Pt.slots] at X2 l2 y2 z2 st2 hQ2
    subst l2 y2 z2
    obtain ⟨rfl, N2q, K2, VF2⟩ := hQ2
    have hk := Nat.le_trans hk K2.1
    have Z2 : n0 ≤ T2.heap.size := Nat.le_trans Z0 K2.1
    have N2 := Fr.app N0 N2q
    refine Goes.sts st2 ?_
    show Gs p e below _ T2 m 347 #[iv ia, iv ib, iv ic, iv ifr, iv ifm, iv ish, rv pm, rv aO, iv (1 : Int32), iv p0, iv p1, iv p2, iv w0, iv w1, iv w2, iv (0 : Int32), iv (0 : Int32), iv (0 : Int32), rv aJ, rv a, .unset, .unset, .unset, .unset] [(.int (((0 : Int32) * (3 : Int32)) + rk o0 o1 (0 : Int32)))]
    refine Goes.st (fun tg kg => XT.pop X2.here hx rfl (hb hby at_347) rfl rfl kg) ?_
    show Gs p e below _ T2 m 348 #[iv ia, iv ib, iv ic, iv ifr, iv ifm, iv ish, rv pm, rv aO, iv (1 : Int32), iv p0, iv p1, iv p2, iv w0, iv w1, iv w2, iv (0 : Int32), iv (0 : Int32), iv (0 : Int32), rv aJ, rv a, .unset, .unset, .unset, .unset] []
    have f4 := (Ea.keep K2)
    have f5 := (Fo.keep K2 (ninS naF nin0))
    have f6 := (Ao.keep K2 (ninS nOF nin0))
    have f7 := (Fr_.keep K2 (ninS naF nin0))
    have f8 := (Ar_.keep K2 (ninS nRF nin0))
    have f9 := (Fp.keep K2 (ninS naF nin0))
    have f10 := (Ap.keep K2 (ninS nPF nin0))
    have f11 := (Fl_.keep K2 (ninS naF nin0))
    have f12 := (Ff.keep K2 (ninS naF nin0))
    have f13 := (Fh.keep K2 (ninS naF nin0))
    exact Seg348_4 Z a0 hw hx hby hlk hret hml hnm _ _ hS hown hZ ia ib ic ifr ifm ish pm aO aJ a aR aP aF kO kR kP kF o0 o1 o2 p0 p1 p2 w0 w1 w2 (uu (((0 : Int32) * (3 : Int32)) + rk o0 o1 (0 : Int32)) (0 : Int32) (sel (0 : Int32) p0 p1 p2) y0) (uu (((0 : Int32) * (3 : Int32)) + rk o0 o1 (0 : Int32)) (1 : Int32) (sel (0 : Int32) p0 p1 p2) y1) (uu (((0 : Int32) * (3 : Int32)) + rk o0 o1 (0 : Int32)) (2 : Int32) (sel (0 : Int32) p0 p1 p2) y2) h0 T2.heap n0 T2 _ X2 rfl N2 Z2 hk f4 f5 f6 f7 f8 f9 f10 f11 f12 f13 VF2 lF naF nPF nOF nRF hp (own_wj0 c1 hy0) (own_wj0 c1 hy1) (own_wj0 c1 hy2)
set_option maxRecDepth 65536 in
set_option maxHeartbeats 40000000 in
theorem Seg376_8 {p : Program} {l : Launch} {e : Env} {s : State} {m : MethodId} {args : Array Value} {below : List Frame} {meth : Method} {c : Code}  (Z : State) (a0 : Array Value) (hw : ∀ d ∈ tables_1, d.before a0 Z = true) (hx : p.tables.exec = Jvm.exec) (hby : c.code = code) (hlk : meth.locks = false) (hret : meth.sig.returnType = some .boolean) (hml : c.maxLocals = 24) (hnm : meth.name = "law") (vm0 : Vm) (kS0 : Nat) (hS : s.Since vm0 kS0) (hown : (s.setVm vm0).vm.findClass "com/example/redoubt/redoubt/policies/FirstFitQueueFirstFittingPinLaw" = some m.cls) (hZ : Z.Warmed39 (s.setVm vm0).vm) (ia ib ic ifr ifm ish : Int32) (pm aO aJ a aR aP aF : Addr) (kO kR kP kF : ClassId) (o0 o1 o2 p0 p1 p2 w0 w1 w2 k0 k1 k2 y0 y1 y2 y3 y4 y5 : Int32) (h0 hh : Heap) (n0 : Nat) (T0 : State) (locs0 : List Loc) (X0 : Stand p l e room_1 (s.setVm vm0) m args below meth c T0 locs0 56 4416) (e0 : T0.heap = hh) (N0 : Fr n0 locs0) (Z0 : n0 ≤ hh.size) (hk : kS0 ≤ hh.size) (Ea : Exa Z hh a "com/example/redoubt/redoubt/policies/FirstFitQueue") (Fo : Fld Z hh a "com/example/redoubt/redoubt/policies/FirstFitQueue" "order" "[I" (.ref aO)) (Ao : Arv Z hh aO kO .int (3 : Int32) [(.int o0), (.int o1), (.int o2)] (.int (0 : Int32))) (Fr_ : Fld Z hh a "com/example/redoubt/redoubt/policies/FirstFitQueue" "rankOf" "[I" (.ref aR)) (Ar_ : Arv Z hh aR kR .int (3 : Int32) [(.int (rk o0 o1 (0 : Int32))), (.int (rk o0 o1 (1 : Int32))), (.int (rk o0 o1 (2 : Int32)))] (.int (0 : Int32))) (Fp : Fld Z hh a "com/example/redoubt/redoubt/policies/FirstFitQueue" "procs" "[I" (.ref aP)) (Ap : Arv Z hh aP kP .int (3 : Int32) [(.int (sel o0 p0 p1 p2)), (.int (sel o1 p0 p1 p2)), (.int (sel o2 p0 p1 p2))] (.int (0 : Int32))) (Fl_ : Fld Z hh a "com/example/redoubt/redoubt/policies/FirstFitQueue" "leaves" "I" (.int (8 : Int32))) (Ff : Fld Z hh a "com/example/redoubt/redoubt/policies/FirstFitQueue" "fewest" "[I" (.ref aF)) (Fh : Fld Z hh a "com/example/redoubt/redoubt/policies/FirstFitQueue" "shortest" "[D" .null) (VF : Arv Z hh aF kF .int (16 : Int32) (tr8 y0 y1 y2 y3 y4 y5) (.int (0 : Int32))) (lF : n0 ≤ aF) (naF : a ≠ aF) (nPF : aP ≠ aF) (nOF : aO ≠ aF) (nRF : aR ≠ aF) (hp : Perm3 o0 o1 o2) (hk0 : k0 = 0 ∨ k0 = 1) (hk1 : k1 = 0 ∨ k1 = 1) (hk2 : k2 = 0 ∨ k2 = 1) (hy0 : y0 = (ww w2 ((k2 * (3 : Int32)) + rk o0 o1 (2 : Int32)) (0 : Int32) p2 (ww w1 ((k1 * (3 : Int32)) + rk o0 o1 (1 : Int32)) (0 : Int32) p1 (ww w0 ((k0 * (3 : Int32)) + rk o0 o1 (0 : Int32)) (0 : Int32) p0 (2147483647 : Int32))))) (hy1 : y1 = (ww w2 ((k2 * (3 : Int32)) + rk o0 o1 (2 : Int32)) (1 : Int32) p2 (ww w1 ((k1 * (3 : Int32)) + rk o0 o1 (1 : Int32)) (1 : Int32) p1 (ww w0 ((k0 * (3 : Int32)) + rk o0 o1 (0 : Int32)) (1 : Int32) p0 (2147483647 : Int32))))) (hy2 : y2 = (ww w2 ((k2 * (3 : Int32)) + rk o0 o1 (2 : Int32)) (2 : Int32) p2 (ww w1 ((k1 * (3 : Int32)) + rk o0 o1 (1 : Int32)) (2 : Int32) p1 (ww w0 ((k0 * (3 : Int32)) + rk o0 o1 (0 : Int32)) (2 : Int32) p0 (2147483647 : Int32))))) (hy3 : y3 = (ww w2 ((k2 * (3 : Int32)) + rk o0 o1 (2 : Int32)) (3 : Int32) p2 (ww w1 ((k1 * (3 : Int32)) + rk o0 o1 (1 : Int32)) (3 : Int32) p1 (ww w0 ((k0 * (3 : Int32)) + rk o0 o1 (0 : Int32)) (3 : Int32) p0 (2147483647 : Int32))))) (hy4 : y4 = (ww w2 ((k2 * (3 : Int32)) + rk o0 o1 (2 : Int32)) (4 : Int32) p2 (ww w1 ((k1 * (3 : Int32)) + rk o0 o1 (1 : Int32)) (4 : Int32) p1 (ww w0 ((k0 * (3 : Int32)) + rk o0 o1 (0 : Int32)) (4 : Int32) p0 (2147483647 : Int32))))) (hy5 : y5 = (ww w2 ((k2 * (3 : Int32)) + rk o0 o1 (2 : Int32)) (5 : Int32) p2 (ww w1 ((k1 * (3 : Int32)) + rk o0 o1 (1 : Int32)) (5 : Int32) p1 (ww w0 ((k0 * (3 : Int32)) + rk o0 o1 (0 : Int32)) (5 : Int32) p0 (2147483647 : Int32))))) :
    Goes p e below (EV s (QLw Z h0 n0) 56 4416) (T0.setTop (mkF m 376 #[iv ia, iv ib, iv ic, iv ifr, iv ifm, iv ish, rv pm, rv aO, iv (2 : Int32), iv p0, iv p1, iv p2, iv w0, iv w1, iv w2, iv k0, iv k1, iv k2, rv aJ, rv a, .unset, .unset, .unset, .unset] [])) := by
  show Gs p e below _ T0 m 376 #[iv ia, iv ib, iv ic, iv ifr, iv ifm, iv ish, rv pm, rv aO, iv (2 : Int32), iv p0, iv p1, iv p2, iv w0, iv w1, iv w2, iv k0, iv k1, iv k2, rv aJ, rv a, .unset, .unset, .unset, .unset] []
  refine giloadN X0 hx (hb hby at_376) rfl ?_
  show Gs p e below _ T0 m 377 #[iv ia, iv ib, iv ic, iv ifr, iv ifm, iv ish, rv pm, rv aO, iv (2 : Int32), iv p0, iv p1, iv p2, iv w0, iv w1, iv w2, iv k0, iv k1, iv k2, rv aJ, rv a, .unset, .unset, .unset, .unset] [(.int ifr)]
  refine Goes.st (fun tg kg => X0.ldcInt hx hown (mvT hZ (hwk hw 230 rfl)) (g := (mkF m 377 #[iv ia, iv ib, iv ic, iv ifr, iv ifm, iv ish, rv pm, rv aO, iv (2 : Int32), iv p0, iv p1, iv p2, iv w0, iv w1, iv w2, iv k0, iv k1, iv k2, rv aJ, rv a, .unset, .unset, .unset, .unset] [(.int ifr)])) rfl (hb hby at_377) tg kg) ?_
  show Gs p e below _ T0 m 379 #[iv ia, iv ib, iv ic, iv ifr, iv ifm, iv ish, rv pm, rv aO, iv (2 : Int32), iv p0, iv p1, iv p2, iv w0, iv w1, iv w2, iv k0, iv k1, iv k2, rv aJ, rv a, .unset, .unset, .unset, .unset] [(.int (2147483646 : Int32)), (.int ifr)]
  obtain ⟨_, _, ⟨T1, L1, k1, n1⟩, -, X1, ⟨Lc1, hQ1, l1, y1, z1⟩, st1⟩ := Jvm.LawKit.callS X0 hx (y := mN1) hown (mvT hZ (hwk hw 231 rfl)) (mvT hZ (hwk hw 228 rfl)) (mvT hZ (hwk hw 7 rfl)) (mvT hZ (hwk hw 229 rfl)) (by decide) (backOf (W := 0) (rmMn l Z a0 hw [] ifr (2147483646 : Int32) hh n0 Z0 ) hZ (hwk hw 229 rfl) (hwk hw 7 rfl) (by decide) (by decide)) (g := (mkF m 379 #[iv ia, iv ib, iv ic, iv ifr, iv ifm, iv ish, rv pm, rv aO, iv (2 : Int32), iv p0, iv p1, iv p2, iv w0, iv w1, iv w2, iv k0, iv k1, iv k2, rv aJ, rv a, .unset, .unset, .unset, .unset] [(.int (2147483646 : Int32)), (.int ifr)])) rfl (by rw [hml]; rfl) (argsL := [(.int ifr), (.int (2147483646 : Int32))]) (rest := []) (lenOf pd__II_I_aae rfl) rfl (by show 2 * 0 + _ ≤ _; exact Nat.le_of_eq rfl) (hb hby at_379) (fun _ _ => ⟨rfl, e0, (by decide : 56 + 0 ≤ 56), (by decide : 4416 + 0 ≤ 4416)⟩)
  dsimp only [Pt.U, Pt.locs, Pt.cells, Pt.slots] at X1 l1 y1 z1 st1 hQ1
  subst l1 y1 z1
  obtain ⟨rfl, N1q, eh1⟩ := hQ1
  have N1 := Fr.app N0 N1q
  refine Goes.st st1 ?_
  show Gs p e below _ T1 m 382 #[iv ia, iv ib, iv ic, iv ifr, iv ifm, iv ish, rv pm, rv aO, iv (2 : Int32), iv p0, iv p1, iv p2, iv w0, iv w1, iv w2, iv k0, iv k1, iv k2, rv aJ, rv a, .unset, .unset, .unset, .unset] [(.int (imin ifr (2147483646 : Int32)))]
  obtain ⟨f, f_eq⟩ : ∃ z : Int32, z = (imin ifr (2147483646 : Int32)) := ⟨_, rfl⟩
  rw [← f_eq]
  show Gs p e below _ T1 m 382 #[iv ia, iv ib, iv ic, iv ifr, iv ifm, iv ish, rv pm, rv aO, iv (2 : Int32), iv p0, iv p1, iv p2, iv w0, iv w1, iv w2, iv k0, iv k1, iv k2, rv aJ, rv a, .unset, .unset, .unset, .unset] [(.int f)]
  have hf : f < (2147483647 : Int32) := by rw [f_eq]; exact own_iminM _
  refine gistore X1 hx (hb hby at_382) trivial (l' := #[iv ia, iv ib, iv ic, iv ifr, iv ifm, iv ish, rv pm, rv aO, iv (2 : Int32), iv p0, iv p1, iv p2, iv w0, iv w1, iv w2, iv k0, iv k1, iv k2, rv aJ, rv a, iv f, .unset, .unset, .unset]) rfl ?_
  refine giload X1 hx (hb hby at_384) rfl ?_
  refine Goes.st (fun tg kg => XS.bipush X1.here hx rfl (hb hby at_386) kg) ?_
  refine giand X1 hx (hb hby at_388) trivial ?_
  show Gs p e below _ T1 m 389 #[iv ia, iv ib, iv ic, iv ifr, iv ifm, iv ish, rv pm, rv aO, iv (2 : Int32), iv p0, iv p1, iv p2, iv w0, iv w1, iv w2, iv k0, iv k1, iv k2, rv aJ, rv a, iv f, .unset, .unset, .unset] [(.int (ifm &&& (16 : Int32)))]
  have J2 : ∀ (st : Int32) (hst : ¬ st < 0), Goes p e below (EV s (QLw Z h0 n0) 56 4416) (T1.setTop (mkF m 405 #[iv ia, iv ib, iv ic, iv ifr, iv ifm, iv ish, rv pm, rv aO, iv (2 : Int32), iv p0, iv p1, iv p2, iv w0, iv w1, iv w2, iv k0, iv k1, iv k2, rv aJ, rv a, iv f, .unset, .unset, .unset] [(.int st)])) := by
    intro st hst
    show Gs p e below _ T1 m 405 #[iv ia, iv ib, iv ic, iv ifr, iv ifm, iv ish, rv pm, rv aO, iv (2 : Int32), iv p0, iv p1, iv p2, iv w0, iv w1, iv w2, iv k0, iv k1, iv k2, rv aJ, rv a, iv f, .unset, .unset, .unset] [(.int st)]
    refine gistore X1 hx (hb hby at_405) trivial (l' := #[iv ia, iv ib, iv ic, iv ifr, iv ifm, iv ish, rv pm, rv aO, iv (2 : Int32), iv p0, iv p1, iv p2, iv w0, iv w1, iv w2, iv k0, iv k1, iv k2, rv aJ, rv a, iv f, iv st, .unset, .unset]) rfl ?_
    refine gaload X1 hx (hb hby at_407) rfl rfl ?_
    refine giload X1 hx (hb hby at_409) rfl ?_
    refine giload X1 hx (hb hby at_411) rfl ?_
    obtain ⟨cq3, kq3, qa3, qb3, qc3⟩ := isOf hZ eh1 Ea
    obtain ⟨_, _, ⟨T3, L3, k3, n3⟩, -, X3, ⟨Lc3, hQ3, l3, y3, z3⟩, st3⟩ := X1.virtualBack hx (y := mN35) (z := mN35) hown (mvT hZ (hwk hw 232 rfl)) (mvT hZ (hwk hw 233 rfl)) (notFace_of_selects (args := #[]) (mvT hZ (hwk hw 235 rfl))) (mvT hZ (hwk hw 235 rfl)) (mvT hZ (hwk hw 234 rfl)) (by decide) (backOf (W := 0) (rmFf2 l Z a0 hw [] a aF kF st f y0 y1 y2 y3 y4 y5 hh n0 Z0 Fl_ Ff VF hst) hZ (hwk hw 236 rfl) (hwk hw 146 rfl) (by decide) (by decide)) qa3 qc3 (g := (mkF m 413 #[iv ia, iv ib, iv ic, iv ifr, iv ifm, iv ish, rv pm, rv aO, iv (2 : Int32), iv p0, iv p1, iv p2, iv w0, iv w1, iv w2, iv k0, iv k1, iv k2, rv aJ, rv a, iv f, iv st, .unset, .unset] [(.int st), (.int f), (.ref a)])) rfl (by rw [hml]; rfl) (Steps.refl _) (argsL := [(.int f), (.int st)]) (rest := []) (lenOf pd__II_I_aae rfl) rfl (by show 2 * 0 + _ ≤ _; exact Nat.le_of_eq rfl) (hb hby at_413) (fun _ _ => ⟨rfl, eh1, (by decide : 56 + 0 ≤ 56), (by decide : 4416 + 0 ≤ 4416)⟩)
    dsimp only [Pt.U, Pt.locs, Pt.cells, Pt.slots] at X3 l3 y3 z3 st3 hQ3
    subst l3 y3 z3
    obtain ⟨rfl, N3q, eh3⟩ := hQ3
    have N3 := Fr.app N1 N3q
    refine Goes.sts st3 ?_
    show Gs p e below _ T3 m 416 #[iv ia, iv ib, iv ic, iv ifr, iv ifm, iv ish, rv pm, rv aO, iv (2 : Int32), iv p0, iv p1, iv p2, iv w0, iv w1, iv w2, iv k0, iv k1, iv k2, rv aJ, rv a, iv f, iv st, .unset, .unset] [(.int (ff8 st f y0 y1 y2 y3 y4 y5))]
    refine gistore X3 hx (hb hby at_416) trivial (l' := #[iv ia, iv ib, iv ic, iv ifr, iv ifm, iv ish, rv pm, rv aO, iv (2 : Int32), iv p0, iv p1, iv p2, iv w0, iv w1, iv w2, iv k0, iv k1, iv k2, rv aJ, rv a, iv f, iv st, iv (ff8 st f y0 y1 y2 y3 y4 y5), .unset]) rfl ?_
    refine giconst X3 hx (hb hby at_418) ?_
    refine gistore X3 hx (hb hby at_419) trivial (l' := #[iv ia, iv ib, iv ic, iv ifr, iv ifm, iv ish, rv pm, rv aO, iv (2 : Int32), iv p0, iv p1, iv p2, iv w0, iv w1, iv w2, iv k0, iv k1, iv k2, rv aJ, rv a, iv f, iv st, iv (ff8 st f y0 y1 y2 y3 y4 y5), iv (-1 : Int32)]) rfl ?_
    refine giload X3 hx (hb hby at_421) rfl ?_
    refine giload X3 hx (hb hby at_423) rfl ?_
    refine giload X3 hx (hb hby at_425) rfl ?_
    refine giload X3 hx (hb hby at_427) rfl ?_
    refine giconst X3 hx (hb hby at_429) ?_
    refine gimul X3 hx (hb hby at_430) trivial ?_
    show Gs p e below _ T3 m 431 #[iv ia, iv ib, iv ic, iv ifr, iv ifm, iv ish, rv pm, rv aO, iv (2 : Int32), iv p0, iv p1, iv p2, iv w0, iv w1, iv w2, iv k0, iv k1, iv k2, rv aJ, rv a, iv f, iv st, iv (ff8 st f y0 y1 y2 y3 y4 y5), iv (-1 : Int32)] [(.int (k0 * (3 : Int32))), (.int p0), (.int w0), (.int (-1 : Int32))]
    refine gaload X3 hx (hb hby at_431) rfl rfl ?_
    refine giconst X3 hx (hb hby at_433) ?_
    obtain ⟨_, _, ⟨T4, L4, k4, n4⟩, -, X4, ⟨Lc4, hQ4, l4, y4, z4⟩, st4⟩ := Jvm.LawKit.callS X3 hx (y := mN36) hown (mvT hZ (hwk hw 237 rfl)) (mvT hZ (hwk hw 238 rfl)) (mvT hZ (hwk hw 239 rfl)) (mvT hZ (hwk hw 240 rfl)) (by decide) (backOf (W := 4) (rmRk l Z a0 hw [] aO kO o0 o1 o2 (0 : Int32) hh n0 Z0 Ao) hZ (hwk hw 240 rfl) (hwk hw 239 rfl) (by decide) (by decide)) (g := (mkF m 434 #[iv ia, iv ib, iv ic, iv ifr, iv ifm, iv ish, rv pm, rv aO, iv (2 : Int32), iv p0, iv p1, iv p2, iv w0, iv w1, iv w2, iv k0, iv k1, iv k2, rv aJ, rv a, iv f, iv st, iv (ff8 st f y0 y1 y2 y3 y4 y5), iv (-1 : Int32)] [(.int (0 : Int32)), (.ref aO), (.int (k0 * (3 : Int32))), (.int p0), (.int w0), (.int (-1 : Int32))])) rfl (by rw [hml]; rfl) (argsL := [(.ref aO), (.int (0 : Int32))]) (rest := [(.int (k0 * (3 : Int32))), (.int p0), (.int w0), (.int (-1 : Int32))]) (lenOf pd___II_I_e8a rfl) rfl (by show 2 * 0 + _ ≤ _; exact Nat.le_of_eq rfl) (hb hby at_434) (fun _ _ => ⟨rfl, eh3, (by decide : 56 + 0 ≤ 56), (by decide : 4416 + 0 ≤ 4416)⟩)
    dsimp only [Pt.U, Pt.locs, Pt.cells, Pt.slots] at X4 l4 y4 z4 st4 hQ4
    subst l4 y4 z4
    obtain ⟨rfl, N4q, eh4⟩ := hQ4
    have N4 := Fr.app N3 N4q
    refine Goes.st st4 ?_
    show Gs p e below _ T4 m 437 #[iv ia, iv ib, iv ic, iv ifr, iv ifm, iv ish, rv pm, rv aO, iv (2 : Int32), iv p0, iv p1, iv p2, iv w0, iv w1, iv w2, iv k0, iv k1, iv k2, rv aJ, rv a, iv f, iv st, iv (ff8 st f y0 y1 y2 y3 y4 y5), iv (-1 : Int32)] [(.int (rk o0 o1 (0 : Int32))), (.int (k0 * (3 : Int32))), (.int p0), (.int w0), (.int (-1 : Int32))]
    refine giadd X4 hx (hb hby at_437) trivial ?_
    refine giload X4 hx (hb hby at_438) rfl ?_
    refine giload X4 hx (hb hby at_440) rfl ?_
    obtain ⟨_, _, ⟨T5, L5, k5, n5⟩, -, X5, ⟨Lc5, hQ5, l5, y5, z5⟩, st5⟩ := Jvm.LawKit.callS X4 hx (y := mN37) hown (mvT hZ (hwk hw 241 rfl)) (mvT hZ (hwk hw 242 rfl)) (mvT hZ (hwk hw 239 rfl)) (mvT hZ (hwk hw 243 rfl)) (by decide) (backOf (W := 0) (rmPk l Z a0 hw [] (-1 : Int32) w0 p0 ((k0 * (3 : Int32)) + (rk o0 o1 (0 : Int32))) f st hh n0 Z0 ) hZ (hwk hw 243 rfl) (hwk hw 239 rfl) (by decide) (by decide)) (g := (mkF m 442 #[iv ia, iv ib, iv ic, iv ifr, iv ifm, iv ish, rv pm, rv aO, iv (2 : Int32), iv p0, iv p1, iv p2, iv w0, iv w1, iv w2, iv k0, iv k1, iv k2, rv aJ, rv a, iv f, iv st, iv (ff8 st f y0 y1 y2 y3 y4 y5), iv (-1 : Int32)] [(.int st), (.int f), (.int ((k0 * (3 : Int32)) + (rk o0 o1 (0 : Int32)))), (.int p0), (.int w0), (.int (-1 : Int32))])) rfl (by rw [hml]; rfl) (argsL := [(.int (-1 : Int32)), (.int w0), (.int p0), (.int ((k0 * (3 : Int32)) + (rk o0 o1 (0 : Int32)))), (.int f), (.int st)]) (rest := []) (lenOf pd__IZIIII_I_1a2d rfl) rfl (by show 2 * 0 + _ ≤ _; exact Nat.le_of_eq rfl) (hb hby at_442) (fun _ _ => ⟨rfl, eh4, (by decide : 56 + 0 ≤ 56), (by decide : 4416 + 0 ≤ 4416)⟩)
    dsimp only [Pt.U, Pt.locs, Pt.cells, Pt.slots] at X5 l5 y5 z5 st5 hQ5
    subst l5 y5 z5
    obtain ⟨rfl, N5q, eh5⟩ := hQ5
    have N5 := Fr.app N4 N5q
    refine Goes.st st5 ?_
    show Gs p e below _ T5 m 445 #[iv ia, iv ib, iv ic, iv ifr, iv ifm, iv ish, rv pm, rv aO, iv (2 : Int32), iv p0, iv p1, iv p2, iv w0, iv w1, iv w2, iv k0, iv k1, iv k2, rv aJ, rv a, iv f, iv st, iv (ff8 st f y0 y1 y2 y3 y4 y5), iv (-1 : Int32)] [(.int (pk (-1 : Int32) w0 p0 ((k0 * (3 : Int32)) + (rk o0 o1 (0 : Int32))) f st))]
    refine gistore X5 hx (hb hby at_445) trivial (l' := #[iv ia, iv ib, iv ic, iv ifr, iv ifm, iv ish, rv pm, rv aO, iv (2 : Int32), iv p0, iv p1, iv p2, iv w0, iv w1, iv w2, iv k0, iv k1, iv k2, rv aJ, rv a, iv f, iv st, iv (ff8 st f y0 y1 y2 y3 y4 y5), iv (pk (-1 : Int32) w0 p0 ((k0 * (3 : Int32)) + (rk o0 o1 (0 : Int32))) f st)]) rfl ?_
    refine giload X5 hx (hb hby at_447) rfl ?_
    refine giload X5 hx (hb hby at_449) rfl ?_
    refine giload X5 hx (hb hby at_451) rfl ?_
    refine giload X5 hx (hb hby at_453) rfl ?_
    refine giconst X5 hx (hb hby at_455) ?_
    refine gimul X5 hx (hb hby at_456) trivial ?_
    show Gs p e below _ T5 m 457 #[iv ia, iv ib, iv ic, iv ifr, iv ifm, iv ish, rv pm, rv aO, iv (2 : Int32), iv p0, iv p1, iv p2, iv w0, iv w1, iv w2, iv k0, iv k1, iv k2, rv aJ, rv a, iv f, iv st, iv (ff8 st f y0 y1 y2 y3 y4 y5), iv (pk (-1 : Int32) w0 p0 ((k0 * (3 : Int32)) + (rk o0 o1 (0 : Int32))) f st)] [(.int (k1 * (3 : Int32))), (.int p1), (.int w1), (.int (pk (-1 : Int32) w0 p0 ((k0 * (3 : Int32)) + (rk o0 o1 (0 : Int32))) f st))]
    refine gaload X5 hx (hb hby at_457) rfl rfl ?_
    refine giconst X5 hx (hb hby at_459) ?_
    obtain ⟨_, _, ⟨T6, L6, k6, n6⟩, -, X6, ⟨Lc6, hQ6, l6, y6, z6⟩, st6⟩ := Jvm.LawKit.callS X5 hx (y := mN36) hown (mvT hZ (hwk hw 237 rfl)) (mvT hZ (hwk hw 238 rfl)) (mvT hZ (hwk hw 239 rfl)) (mvT hZ (hwk hw 240 rfl)) (by decide) (backOf (W := 4) (rmRk l Z a0 hw [] aO kO o0 o1 o2 (1 : Int32) hh n0 Z0 Ao) hZ (hwk hw 240 rfl) (hwk hw 239 rfl) (by decide) (by decide)) (g := (mkF m 460 #[iv ia, iv ib, iv ic, iv ifr, iv ifm, iv ish, rv pm, rv aO, iv (2 : Int32), iv p0, iv p1, iv p2, iv w0, iv w1, iv w2, iv k0, iv k1, iv k2, rv aJ, rv a, iv f, iv st, iv (ff8 st f y0 y1 y2 y3 y4 y5), iv (pk (-1 : Int32) w0 p0 ((k0 * (3 : Int32)) + (rk o0 o1 (0 : Int32))) f st)] [(.int (1 : Int32)), (.ref aO), (.int (k1 * (3 : Int32))), (.int p1), (.int w1), (.int (pk (-1 : Int32) w0 p0 ((k0 * (3 : Int32)) + (rk o0 o1 (0 : Int32))) f st))])) rfl (by rw [hml]; rfl) (argsL := [(.ref aO), (.int (1 : Int32))]) (rest := [(.int (k1 * (3 : Int32))), (.int p1), (.int w1), (.int (pk (-1 : Int32) w0 p0 ((k0 * (3 : Int32)) + (rk o0 o1 (0 : Int32))) f st))]) (lenOf pd___II_I_e8a rfl) rfl (by show 2 * 0 + _ ≤ _; exact Nat.le_of_eq rfl) (hb hby at_460) (fun _ _ => ⟨rfl, eh5, (by decide : 56 + 0 ≤ 56), (by decide : 4416 + 0 ≤ 4416)⟩)
    dsimp only [Pt.U, Pt.locs, Pt.cells, Pt.slots] at X6 l6 y6 z6 st6 hQ6
    subst l6 y6 z6
    obtain ⟨rfl, N6q, eh6⟩ := hQ6
    have N6 := Fr.app N5 N6q
    refine Goes.st st6 ?_
    show Gs p e below _ T6 m 463 #[iv ia, iv ib, iv ic, iv ifr, iv ifm, iv ish, rv pm, rv aO, iv (2 : Int32), iv p0, iv p1, iv p2, iv w0, iv w1, iv w2, iv k0, iv k1, iv k2, rv aJ, rv a, iv f, iv st, iv (ff8 st f y0 y1 y2 y3 y4 y5), iv (pk (-1 : Int32) w0 p0 ((k0 * (3 : Int32)) + (rk o0 o1 (0 : Int32))) f st)] [(.int (rk o0 o1 (1 : Int32))), (.int (k1 * (3 : Int32))), (.int p1), (.int w1), (.int (pk (-1 : Int32) w0 p0 ((k0 * (3 : Int32)) + (rk o0 o1 (0 : Int32))) f st))]
    refine giadd X6 hx (hb hby at_463) trivial ?_
    refine giload X6 hx (hb hby at_464) rfl ?_
    refine giload X6 hx (hb hby at_466) rfl ?_
    obtain ⟨_, _, ⟨T7, L7, k7, n7⟩, -, X7, ⟨Lc7, hQ7, l7, y7, z7⟩, st7⟩ := Jvm.LawKit.callS X6 hx (y := mN37) hown (mvT hZ (hwk hw 241 rfl)) (mvT hZ (hwk hw 242 rfl)) (mvT hZ (hwk hw 239 rfl)) (mvT hZ (hwk hw 243 rfl)) (by decide) (backOf (W := 0) (rmPk l Z a0 hw [] (pk (-1 : Int32) w0 p0 ((k0 * (3 : Int32)) + (rk o0 o1 (0 : Int32))) f st) w1 p1 ((k1 * (3 : Int32)) + (rk o0 o1 (1 : Int32))) f st hh n0 Z0 ) hZ (hwk hw 243 rfl) (hwk hw 239 rfl) (by decide) (by decide)) (g := (mkF m 468 #[iv ia, iv ib, iv ic, iv ifr, iv ifm, iv ish, rv pm, rv aO, iv (2 : Int32), iv p0, iv p1, iv p2, iv w0, iv w1, iv w2, iv k0, iv k1, iv k2, rv aJ, rv a, iv f, iv st, iv (ff8 st f y0 y1 y2 y3 y4 y5), iv (pk (-1 : Int32) w0 p0 ((k0 * (3 : Int32)) + (rk o0 o1 (0 : Int32))) f st)] [(.int st), (.int f), (.int ((k1 * (3 : Int32)) + (rk o0 o1 (1 : Int32)))), (.int p1), (.int w1), (.int (pk (-1 : Int32) w0 p0 ((k0 * (3 : Int32)) + (rk o0 o1 (0 : Int32))) f st))])) rfl (by rw [hml]; rfl) (argsL := [(.int (pk (-1 : Int32) w0 p0 ((k0 * (3 : Int32)) + (rk o0 o1 (0 : Int32))) f st)), (.int w1), (.int p1), (.int ((k1 * (3 : Int32)) + (rk o0 o1 (1 : Int32)))), (.int f), (.int st)]) (rest := []) (lenOf pd__IZIIII_I_1a2d rfl) rfl (by show 2 * 0 + _ ≤ _; exact Nat.le_of_eq rfl) (hb hby at_468) (fun _ _ => ⟨rfl, eh6, (by decide : 56 + 0 ≤ 56), (by decide : 4416 + 0 ≤ 4416)⟩)
    dsimp only [Pt.U, Pt.locs, Pt.cells, Pt.slots] at X7 l7 y7 z7 st7 hQ7
    subst l7 y7 z7
    obtain ⟨rfl, N7q, eh7⟩ := hQ7
    have N7 := Fr.app N6 N7q
    refine Goes.st st7 ?_
    show Gs p e below _ T7 m 471 #[iv ia, iv ib, iv ic, iv ifr, iv ifm, iv ish, rv pm, rv aO, iv (2 : Int32), iv p0, iv p1, iv p2, iv w0, iv w1, iv w2, iv k0, iv k1, iv k2, rv aJ, rv a, iv f, iv st, iv (ff8 st f y0 y1 y2 y3 y4 y5), iv (pk (-1 : Int32) w0 p0 ((k0 * (3 : Int32)) + (rk o0 o1 (0 : Int32))) f st)] [(.int (pk (pk (-1 : Int32) w0 p0 ((k0 * (3 : Int32)) + (rk o0 o1 (0 : Int32))) f st) w1 p1 ((k1 * (3 : Int32)) + (rk o0 o1 (1 : Int32))) f st))]
    refine gistore X7 hx (hb hby at_471) trivial (l' := #[iv ia, iv ib, iv ic, iv ifr, iv ifm, iv ish, rv pm, rv aO, iv (2 : Int32), iv p0, iv p1, iv p2, iv w0, iv w1, iv w2, iv k0, iv k1, iv k2, rv aJ, rv a, iv f, iv st, iv (ff8 st f y0 y1 y2 y3 y4 y5), iv (pk (pk (-1 : Int32) w0 p0 ((k0 * (3 : Int32)) + (rk o0 o1 (0 : Int32))) f st) w1 p1 ((k1 * (3 : Int32)) + (rk o0 o1 (1 : Int32))) f st)]) rfl ?_
    refine giload X7 hx (hb hby at_473) rfl ?_
    refine giload X7 hx (hb hby at_475) rfl ?_
    refine giload X7 hx (hb hby at_477) rfl ?_
    refine giload X7 hx (hb hby at_479) rfl ?_
    refine giconst X7 hx (hb hby at_481) ?_
    refine gimul X7 hx (hb hby at_482) trivial ?_
    show Gs p e below _ T7 m 483 #[iv ia, iv ib, iv ic, iv ifr, iv ifm, iv ish, rv pm, rv aO, iv (2 : Int32), iv p0, iv p1, iv p2, iv w0, iv w1, iv w2, iv k0, iv k1, iv k2, rv aJ, rv a, iv f, iv st, iv (ff8 st f y0 y1 y2 y3 y4 y5), iv (pk (pk (-1 : Int32) w0 p0 ((k0 * (3 : Int32)) + (rk o0 o1 (0 : Int32))) f st) w1 p1 ((k1 * (3 : Int32)) + (rk o0 o1 (1 : Int32))) f st)] [(.int (k2 * (3 : Int32))), (.int p2), (.int w2), (.int (pk (pk (-1 : Int32) w0 p0 ((k0 * (3 : Int32)) + (rk o0 o1 (0 : Int32))) f st) w1 p1 ((k1 * (3 : Int32)) + (rk o0 o1 (1 : Int32))) f st))]
    refine gaload X7 hx (hb hby at_483) rfl rfl ?_
    refine giconst X7 hx (hb hby at_485) ?_
    obtain ⟨_, _, ⟨T8, L8, k8, n8⟩, -, X8, ⟨Lc8, hQ8, l8, y8, z8⟩, st8⟩ := Jvm.LawKit.callS X7 hx (y := mN36) hown (mvT hZ (hwk hw 237 rfl)) (mvT hZ (hwk hw 238 rfl)) (mvT hZ (hwk hw 239 rfl)) (mvT hZ (hwk hw 240 rfl)) (by decide) (backOf (W := 4) (rmRk l Z a0 hw [] aO kO o0 o1 o2 (2 : Int32) hh n0 Z0 Ao) hZ (hwk hw 240 rfl) (hwk hw 239 rfl) (by decide) (by decide)) (g := (mkF m 486 #[iv ia, iv ib, iv ic, iv ifr, iv ifm, iv ish, rv pm, rv aO, iv (2 : Int32), iv p0, iv p1, iv p2, iv w0, iv w1, iv w2, iv k0, iv k1, iv k2, rv aJ, rv a, iv f, iv st, iv (ff8 st f y0 y1 y2 y3 y4 y5), iv (pk (pk (-1 : Int32) w0 p0 ((k0 * (3 : Int32)) + (rk o0 o1 (0 : Int32))) f st) w1 p1 ((k1 * (3 : Int32)) + (rk o0 o1 (1 : Int32))) f st)] [(.int (2 : Int32)), (.ref aO), (.int (k2 * (3 : Int32))), (.int p2), (.int w2), (.int (pk (pk (-1 : Int32) w0 p0 ((k0 * (3 : Int32)) + (rk o0 o1 (0 : Int32))) f st) w1 p1 ((k1 * (3 : Int32)) + (rk o0 o1 (1 : Int32))) f st))])) rfl (by rw [hml]; rfl) (argsL := [(.ref aO), (.int (2 : Int32))]) (rest := [(.int (k2 * (3 : Int32))), (.int p2), (.int w2), (.int (pk (pk (-1 : Int32) w0 p0 ((k0 * (3 : Int32)) + (rk o0 o1 (0 : Int32))) f st) w1 p1 ((k1 * (3 : Int32)) + (rk o0 o1 (1 : Int32))) f st))]) (lenOf pd___II_I_e8a rfl) rfl (by show 2 * 0 + _ ≤ _; exact Nat.le_of_eq rfl) (hb hby at_486) (fun _ _ => ⟨rfl, eh7, (by decide : 56 + 0 ≤ 56), (by decide : 4416 + 0 ≤ 4416)⟩)
    dsimp only [Pt.U, Pt.locs, Pt.cells, Pt.slots] at X8 l8 y8 z8 st8 hQ8
    subst l8 y8 z8
    obtain ⟨rfl, N8q, eh8⟩ := hQ8
    have N8 := Fr.app N7 N8q
    refine Goes.st st8 ?_
    show Gs p e below _ T8 m 489 #[iv ia, iv ib, iv ic, iv ifr, iv ifm, iv ish, rv pm, rv aO, iv (2 : Int32), iv p0, iv p1, iv p2, iv w0, iv w1, iv w2, iv k0, iv k1, iv k2, rv aJ, rv a, iv f, iv st, iv (ff8 st f y0 y1 y2 y3 y4 y5), iv (pk (pk (-1 : Int32) w0 p0 ((k0 * (3 : Int32)) + (rk o0 o1 (0 : Int32))) f st) w1 p1 ((k1 * (3 : Int32)) + (rk o0 o1 (1 : Int32))) f st)] [(.int (rk o0 o1 (2 : Int32))), (.int (k2 * (3 : Int32))), (.int p2), (.int w2), (.int (pk (pk (-1 : Int32) w0 p0 ((k0 * (3 : Int32)) + (rk o0 o1 (0 : Int32))) f st) w1 p1 ((k1 * (3 : Int32)) + (rk o0 o1 (1 : Int32))) f st))]
    refine giadd X8 hx (hb hby at_489) trivial ?_
    refine giload X8 hx (hb hby at_490) rfl ?_
    refine giload X8 hx (hb hby at_492) rfl ?_
    obtain ⟨_, _, ⟨T9, L9, k9, n9⟩, -, X9, ⟨Lc9, hQ9, l9, y9, z9⟩, st9⟩ := Jvm.LawKit.callS X8 hx (y := mN37) hown (mvT hZ (hwk hw 241 rfl)) (mvT hZ (hwk hw 242 rfl)) (mvT hZ (hwk hw 239 rfl)) (mvT hZ (hwk hw 243 rfl)) (by decide) (backOf (W := 0) (rmPk l Z a0 hw [] (pk (pk (-1 : Int32) w0 p0 ((k0 * (3 : Int32)) + (rk o0 o1 (0 : Int32))) f st) w1 p1 ((k1 * (3 : Int32)) + (rk o0 o1 (1 : Int32))) f st) w2 p2 ((k2 * (3 : Int32)) + (rk o0 o1 (2 : Int32))) f st hh n0 Z0 ) hZ (hwk hw 243 rfl) (hwk hw 239 rfl) (by decide) (by decide)) (g := (mkF m 494 #[iv ia, iv ib, iv ic, iv ifr, iv ifm, iv ish, rv pm, rv aO, iv (2 : Int32), iv p0, iv p1, iv p2, iv w0, iv w1, iv w2, iv k0, iv k1, iv k2, rv aJ, rv a, iv f, iv st, iv (ff8 st f y0 y1 y2 y3 y4 y5), iv (pk (pk (-1 : Int32) w0 p0 ((k0 * (3 : Int32)) + (rk o0 o1 (0 : Int32))) f st) w1 p1 ((k1 * (3 : Int32)) + (rk o0 o1 (1 : Int32))) f st)] [(.int st), (.int f), (.int ((k2 * (3 : Int32)) + (rk o0 o1 (2 : Int32)))), (.int p2), (.int w2), (.int (pk (pk (-1 : Int32) w0 p0 ((k0 * (3 : Int32)) + (rk o0 o1 (0 : Int32))) f st) w1 p1 ((k1 * (3 : Int32)) + (rk o0 o1 (1 : Int32))) f st))])) rfl (by rw [hml]; rfl) (argsL := [(.int (pk (pk (-1 : Int32) w0 p0 ((k0 * (3 : Int32)) + (rk o0 o1 (0 : Int32))) f st) w1 p1 ((k1 * (3 : Int32)) + (rk o0 o1 (1 : Int32))) f st)), (.int w2), (.int p2), (.int ((k2 * (3 : Int32)) + (rk o0 o1 (2 : Int32)))), (.int f), (.int st)]) (rest := []) (lenOf pd__IZIIII_I_1a2d rfl) rfl (by show 2 * 0 + _ ≤ _; exact Nat.le_of_eq rfl) (hb hby at_494) (fun _ _ => ⟨rfl, eh8, (by decide : 56 + 0 ≤ 56), (by decide : 4416 + 0 ≤ 4416)⟩)
    dsimp only [Pt.U, Pt.locs, Pt.cells, Pt.slots] at X9 l9 y9 z9 st9 hQ9
    subst l9 y9 z9
    obtain ⟨rfl, N9q, eh9⟩ := hQ9
    have N9 := Fr.app N8 N9q
    refine Goes.st st9 ?_
    show Gs p e below _ T9 m 497 #[iv ia, iv ib, iv ic, iv ifr, iv ifm, iv ish, rv pm, rv aO, iv (2 : Int32), iv p0, iv p1, iv p2, iv w0, iv w1, iv w2, iv k0, iv k1, iv k2, rv aJ, rv a, iv f, iv st, iv (ff8 st f y0 y1 y2 y3 y4 y5), iv (pk (pk (-1 : Int32) w0 p0 ((k0 * (3 : Int32)) + (rk o0 o1 (0 : Int32))) f st) w1 p1 ((k1 * (3 : Int32)) + (rk o0 o1 (1 : Int32))) f st)] [(.int (pk (pk (pk (-1 : Int32) w0 p0 ((k0 * (3 : Int32)) + (rk o0 o1 (0 : Int32))) f st) w1 p1 ((k1 * (3 : Int32)) + (rk o0 o1 (1 : Int32))) f st) w2 p2 ((k2 * (3 : Int32)) + (rk o0 o1 (2 : Int32))) f st))]
    refine gistore X9 hx (hb hby at_497) trivial (l' := #[iv ia, iv ib, iv ic, iv ifr, iv ifm, iv ish, rv pm, rv aO, iv (2 : Int32), iv p0, iv p1, iv p2, iv w0, iv w1, iv w2, iv k0, iv k1, iv k2, rv aJ, rv a, iv f, iv st, iv (ff8 st f y0 y1 y2 y3 y4 y5), iv (pk (pk (pk (-1 : Int32) w0 p0 ((k0 * (3 : Int32)) + (rk o0 o1 (0 : Int32))) f st) w1 p1 ((k1 * (3 : Int32)) + (rk o0 o1 (1 : Int32))) f st) w2 p2 ((k2 * (3 : Int32)) + (rk o0 o1 (2 : Int32))) f st)]) rfl ?_
    refine giload X9 hx (hb hby at_499) rfl ?_
    refine giload X9 hx (hb hby at_501) rfl ?_
    show Gs p e below _ T9 m 503 #[iv ia, iv ib, iv ic, iv ifr, iv ifm, iv ish, rv pm, rv aO, iv (2 : Int32), iv p0, iv p1, iv p2, iv w0, iv w1, iv w2, iv k0, iv k1, iv k2, rv aJ, rv a, iv f, iv st, iv (ff8 st f y0 y1 y2 y3 y4 y5), iv (pk (pk (pk (-1 : Int32) w0 p0 ((k0 * (3 : Int32)) + (rk o0 o1 (0 : Int32))) f st) w1 p1 ((k1 * (3 : Int32)) + (rk o0 o1 (1 : Int32))) f st) w2 p2 ((k2 * (3 : Int32)) + (rk o0 o1 (2 : Int32))) f st)] [(.int (pk (pk (pk (-1 : Int32) w0 p0 ((k0 * (3 : Int32)) + (rk o0 o1 (0 : Int32))) f st) w1 p1 ((k1 * (3 : Int32)) + (rk o0 o1 (1 : Int32))) f st) w2 p2 ((k2 * (3 : Int32)) + (rk o0 o1 (2 : Int32))) f st)), (.int (ff8 st f y0 y1 y2 y3 y4 y5))]
    refine gicmpNo X9 hx (hb hby at_503) (teq (own_law8 k0 k1 k2 hk0 hk1 hk2 hp hf hst hy0 hy1 hy2 hy3 hy4 hy5)).2 ?_
    refine giconst X9 hx (hb hby at_506) ?_
    refine ggoto X9 hx (pc := 507) (pc' := 511) (hb hby at_507) (by decide) (by decide) ?_
    refine Goes.retN X9 hx hret (by simp) (hb hby at_511) (by decide) (lvV X9 hlk hS (by rw [eh9]; exact hk) (vsome hret) ?_ (by decide) (by decide))
    rw [eh9]
    exact ⟨rfl, N9⟩
  by_cases c10 : (ifm &&& (16 : Int32)) = (0 : Int32)
  · refine gifYes X1 hx (pc := 389) (pc' := 400) (hb hby at_389) ((if0 _ _).trans (teq c10).1) (by decide) (by decide) ?_
    refine giload X1 hx (hb hby at_400) rfl ?_
    refine Goes.st (fun tg kg => XS.bipush X1.here hx rfl (hb hby at_402) kg) ?_
    refine giand X1 hx (hb hby at_404) trivial ?_
    show Gs p e below _ T1 m 405 #[iv ia, iv ib, iv ic, iv ifr, iv ifm, iv ish, rv pm, rv aO, iv (2 : Int32), iv p0, iv p1, iv p2, iv w0, iv w1, iv w2, iv k0, iv k1, iv k2, rv aJ, rv a, iv f, .unset, .unset, .unset] [(.int (ifm &&& (15 : Int32)))]
    exact J2 _ (own_andn _ _ (by decide))
  · refine gifNo X1 hx (hb hby at_389) ((if0 _ _).trans (feq c10).1) ?_
    refine giload X1 hx (hb hby at_392) rfl ?_
    show Gs p e below _ T1 m 394 #[iv ia, iv ib, iv ic, iv ifr, iv ifm, iv ish, rv pm, rv aO, iv (2 : Int32), iv p0, iv p1, iv p2, iv w0, iv w1, iv w2, iv k0, iv k1, iv k2, rv aJ, rv a, iv f, .unset, .unset, .unset] [(.int ifm)]
    refine Goes.st (fun tg kg => X1.ldcInt hx hown (mvT hZ (hwk hw 4 rfl)) (g := (mkF m 394 #[iv ia, iv ib, iv ic, iv ifr, iv ifm, iv ish, rv pm, rv aO, iv (2 : Int32), iv p0, iv p1, iv p2, iv w0, iv w1, iv w2, iv k0, iv k1, iv k2, rv aJ, rv a, iv f, .unset, .unset, .unset] [(.int ifm)])) rfl (hb hby at_394) tg kg) ?_
    show Gs p e below _ T1 m 396 #[iv ia, iv ib, iv ic, iv ifr, iv ifm, iv ish, rv pm, rv aO, iv (2 : Int32), iv p0, iv p1, iv p2, iv w0, iv w1, iv w2, iv k0, iv k1, iv k2, rv aJ, rv a, iv f, .unset, .unset, .unset] [(.int (2147483647 : Int32)), (.int ifm)]
    refine giand X1 hx (hb hby at_396) trivial ?_
    refine ggoto X1 hx (pc := 397) (pc' := 405) (hb hby at_397) (by decide) (by decide) ?_
    show Gs p e below _ T1 m 405 #[iv ia, iv ib, iv ic, iv ifr, iv ifm, iv ish, rv pm, rv aO, iv (2 : Int32), iv p0, iv p1, iv p2, iv w0, iv w1, iv w2, iv k0, iv k1, iv k2, rv aJ, rv a, iv f, .unset, .unset, .unset] [(.int (ifm &&& (2147483647 : Int32)))]
    exact J2 _ (own_andn _ _ (by decide))
set_option maxRecDepth 65536 in
set_option maxHeartbeats 40000000 in
theorem Seg362_8 {p : Program} {l : Launch} {e : Env} {s : State} {m : MethodId} {args : Array Value} {below : List Frame} {meth : Method} {c : Code}  (Z : State) (a0 : Array Value) (hw : ∀ d ∈ tables_1, d.before a0 Z = true) (hx : p.tables.exec = Jvm.exec) (hby : c.code = code) (hlk : meth.locks = false) (hret : meth.sig.returnType = some .boolean) (hml : c.maxLocals = 24) (hnm : meth.name = "law") (vm0 : Vm) (kS0 : Nat) (hS : s.Since vm0 kS0) (hown : (s.setVm vm0).vm.findClass "com/example/redoubt/redoubt/policies/FirstFitQueueFirstFittingPinLaw" = some m.cls) (hZ : Z.Warmed39 (s.setVm vm0).vm) (ia ib ic ifr ifm ish : Int32) (pm aO aJ a aR aP aF : Addr) (kO kR kP kF : ClassId) (o0 o1 o2 p0 p1 p2 w0 w1 w2 k0 k1 k2 y0 y1 y2 y3 y4 y5 : Int32) (h0 hh : Heap) (n0 : Nat) (T0 : State) (locs0 : List Loc) (X0 : Stand p l e room_1 (s.setVm vm0) m args below meth c T0 locs0 56 4416) (e0 : T0.heap = hh) (N0 : Fr n0 locs0) (Z0 : n0 ≤ hh.size) (hk : kS0 ≤ hh.size) (Ea : Exa Z hh a "com/example/redoubt/redoubt/policies/FirstFitQueue") (Fo : Fld Z hh a "com/example/redoubt/redoubt/policies/FirstFitQueue" "order" "[I" (.ref aO)) (Ao : Arv Z hh aO kO .int (3 : Int32) [(.int o0), (.int o1), (.int o2)] (.int (0 : Int32))) (Fr_ : Fld Z hh a "com/example/redoubt/redoubt/policies/FirstFitQueue" "rankOf" "[I" (.ref aR)) (Ar_ : Arv Z hh aR kR .int (3 : Int32) [(.int (rk o0 o1 (0 : Int32))), (.int (rk o0 o1 (1 : Int32))), (.int (rk o0 o1 (2 : Int32)))] (.int (0 : Int32))) (Fp : Fld Z hh a "com/example/redoubt/redoubt/policies/FirstFitQueue" "procs" "[I" (.ref aP)) (Ap : Arv Z hh aP kP .int (3 : Int32) [(.int (sel o0 p0 p1 p2)), (.int (sel o1 p0 p1 p2)), (.int (sel o2 p0 p1 p2))] (.int (0 : Int32))) (Fl_ : Fld Z hh a "com/example/redoubt/redoubt/policies/FirstFitQueue" "leaves" "I" (.int (8 : Int32))) (Ff : Fld Z hh a "com/example/redoubt/redoubt/policies/FirstFitQueue" "fewest" "[I" (.ref aF)) (Fh : Fld Z hh a "com/example/redoubt/redoubt/policies/FirstFitQueue" "shortest" "[D" .null) (VF : Arv Z hh aF kF .int (16 : Int32) (tr8 y0 y1 y2 y3 y4 y5) (.int (0 : Int32))) (lF : n0 ≤ aF) (naF : a ≠ aF) (nPF : aP ≠ aF) (nOF : aO ≠ aF) (nRF : aR ≠ aF) (hp : Perm3 o0 o1 o2) (hk0 : k0 = 0 ∨ k0 = 1) (hk1 : k1 = 0 ∨ k1 = 1) (hk2 : k2 = 0 ∨ k2 = 1) (hy0 : y0 = (ww w1 ((k1 * (3 : Int32)) + rk o0 o1 (1 : Int32)) (0 : Int32) p1 (ww w0 ((k0 * (3 : Int32)) + rk o0 o1 (0 : Int32)) (0 : Int32) p0 (2147483647 : Int32)))) (hy1 : y1 = (ww w1 ((k1 * (3 : Int32)) + rk o0 o1 (1 : Int32)) (1 : Int32) p1 (ww w0 ((k0 * (3 : Int32)) + rk o0 o1 (0 : Int32)) (1 : Int32) p0 (2147483647 : Int32)))) (hy2 : y2 = (ww w1 ((k1 * (3 : Int32)) + rk o0 o1 (1 : Int32)) (2 : Int32) p1 (ww w0 ((k0 * (3 : Int32)) + rk o0 o1 (0 : Int32)) (2 : Int32) p0 (2147483647 : Int32)))) (hy3 : y3 = (ww w1 ((k1 * (3 : Int32)) + rk o0 o1 (1 : Int32)) (3 : Int32) p1 (ww w0 ((k0 * (3 : Int32)) + rk o0 o1 (0 : Int32)) (3 : Int32) p0 (2147483647 : Int32)))) (hy4 : y4 = (ww w1 ((k1 * (3 : Int32)) + rk o0 o1 (1 : Int32)) (4 : Int32) p1 (ww w0 ((k0 * (3 : Int32)) + rk o0 o1 (0 : Int32)) (4 : Int32) p0 (2147483647 : Int32)))) (hy5 : y5 = (ww w1 ((k1 * (3 : Int32)) + rk o0 o1 (1 : Int32)) (5 : Int32) p1 (ww w0 ((k0 * (3 : Int32)) + rk o0 o1 (0 : Int32)) (5 : Int32) p0 (2147483647 : Int32)))) :
    Goes p e below (EV s (QLw Z h0 n0) 56 4416) (T0.setTop (mkF m 362 #[iv ia, iv ib, iv ic, iv ifr, iv ifm, iv ish, rv pm, rv aO, iv (2 : Int32), iv p0, iv p1, iv p2, iv w0, iv w1, iv w2, iv k0, iv k1, iv k2, rv aJ, rv a, .unset, .unset, .unset, .unset] [])) := by
  show Gs p e below _ T0 m 362 #[iv ia, iv ib, iv ic, iv ifr, iv ifm, iv ish, rv pm, rv aO, iv (2 : Int32), iv p0, iv p1, iv p2, iv w0, iv w1, iv w2, iv k0, iv k1, iv k2, rv aJ, rv a, .unset, .unset, .unset, .unset] []
  refine giload X0 hx (hb hby at_362) rfl ?_
  by_cases c1 : w2 = (0 : Int32)
  · refine gifYes X0 hx (pc := 364) (pc' := 376) (hb hby at_364) ((if0 _ _).trans (teq c1).1) (by decide) (by decide) ?_
    show Gs p e below _ T0 m 376 #[iv ia, iv ib, iv ic, iv ifr, iv ifm, iv ish, rv pm, rv aO, iv (2 : Int32), iv p0, iv p1, iv p2, iv w0, iv w1, iv w2, iv k0, iv k1, iv k2, rv aJ, rv a, .unset, .unset, .unset, .unset] []
    exact Seg376_8 Z a0 hw hx hby hlk hret hml hnm _ _ hS hown hZ ia ib ic ifr ifm ish pm aO aJ a aR aP aF kO kR kP kF o0 o1 o2 p0 p1 p2 w0 w1 w2 k0 k1 k2 y0 y1 y2 y3 y4 y5 h0 hh n0 T0 _ X0 e0 N0 Z0 hk Ea Fo Ao Fr_ Ar_ Fp Ap Fl_ Ff Fh VF lF naF nPF nOF nRF hp hk0 hk1 hk2 (own_w0 c1 hy0) (own_w0 c1 hy1) (own_w0 c1 hy2) (own_w0 c1 hy3) (own_w0 c1 hy4) (own_w0 c1 hy5)
  · refine gifNo X0 hx (hb hby at_364) ((if0 _ _).trans (feq c1).1) ?_
    refine gaload X0 hx (hb hby at_367) rfl rfl ?_
    refine giconst X0 hx (hb hby at_369) ?_
    refine giload X0 hx (hb hby at_370) rfl ?_
    obtain ⟨cq2, kq2, qa2, qb2, qc2⟩ := isOf hZ e0 Ea
    obtain ⟨_, _, ⟨T2, L2, k2, n2⟩, -, X2, ⟨Lc2, hQ2, l2, y2, z2⟩, st2⟩ := X0.virtualBack hx (y := mN34) (z := mN34) hown (mvT hZ (hwk hw 203 rfl)) (mvT hZ (hwk hw 204 rfl)) (notFace_of_selects (args := #[]) (mvT hZ (hwk hw 206 rfl))) (mvT hZ (hwk hw 206 rfl)) (mvT hZ (hwk hw 205 rfl)) (by decide) (backOf (W := 0) (rmAd2 l Z a0 hw [] a aO aR aP aF kO kR kP kF o0 o1 o2 p0 p1 p2 (2 : Int32) k2 y0 y1 y2 y3 y4 y5 hh n0 Z0 Ea Fo Ao Fr_ Ar_ Fp Ap Fl_ Ff Fh VF lF naF nPF nOF nRF hp (by decide) hk2) hZ (hwk hw 207 rfl) (hwk hw 146 rfl) (by decide) (by decide)) qa2 qc2 (g := (mkF m 372 #[iv ia, iv ib, iv ic, iv ifr, iv ifm, iv ish, rv pm, rv aO, iv (2 : Int32), iv p0, iv p1, iv p2, iv w0, iv w1, iv w2, iv k0, iv k1, iv k2, rv aJ, rv a, .unset, .unset, .unset, .unset] [(.int k2), (.int (2 : Int32)), (.ref a)])) rfl (by rw [hml]; rfl) (Steps.refl _) (argsL := [(.int (2 : Int32)), (.int k2)]) (rest := []) (lenOf pd__II_I_aae rfl) rfl (by show 2 * 0 + _ ≤ _; exact Nat.le_of_eq rfl) (hb hby at_372) (fun _ _ => ⟨rfl, e0, (by decide : 56 + 0 ≤ 56), (by decide : 4416 + 0 ≤ 4416)⟩)
    dsimp only [Pt.U, Pt.locs, Pt.cells, Pt.slots] at X2 l2 y2 z2 st2 hQ2
    subst l2 y2 z2
    obtain ⟨rfl, N2q, K2, VF2⟩ := hQ2
    have hk := Nat.le_trans hk K2.1
    have Z2 : n0 ≤ T2.heap.size := Nat.le_trans Z0 K2.1
    have N2 := Fr.app N0 N2q
    refine Goes.sts st2 ?_
    show Gs p e below _ T2 m 375 #[iv ia, iv ib, iv ic, iv ifr, iv ifm, iv ish, rv pm, rv aO, iv (2 : Int32), iv p0, iv p1, iv p2, iv w0, iv w1, iv w2, iv k0, iv k1, iv k2, rv aJ, rv a, .unset, .unset, .unset, .unset] [(.int ((k2 * (3 : Int32)) + rk o0 o1 (2 : Int32)))]
    refine Goes.st (fun tg kg => XT.pop X2.here hx rfl (hb hby at_375) rfl rfl kg) ?_
    show Gs p e below _ T2 m 376 #[iv ia, iv ib, iv ic, iv ifr, iv ifm, iv ish, rv pm, rv aO, iv (2 : Int32), iv p0, iv p1, iv p2, iv w0, iv w1, iv w2, iv k0, iv k1, iv k2, rv aJ, rv a, .unset, .unset, .unset, .unset] []
    have f4 := (Ea.keep K2)
    have f5 := (Fo.keep K2 (ninS naF nin0))
    have f6 := (Ao.keep K2 (ninS nOF nin0))
    have f7 := (Fr_.keep K2 (ninS naF nin0))
    have f8 := (Ar_.keep K2 (ninS nRF nin0))
    have f9 := (Fp.keep K2 (ninS naF nin0))
    have f10 := (Ap.keep K2 (ninS nPF nin0))
    have f11 := (Fl_.keep K2 (ninS naF nin0))
    have f12 := (Ff.keep K2 (ninS naF nin0))
    have f13 := (Fh.keep K2 (ninS naF nin0))
    exact Seg376_8 Z a0 hw hx hby hlk hret hml hnm _ _ hS hown hZ ia ib ic ifr ifm ish pm aO aJ a aR aP aF kO kR kP kF o0 o1 o2 p0 p1 p2 w0 w1 w2 k0 k1 k2 (uu ((k2 * (3 : Int32)) + rk o0 o1 (2 : Int32)) (0 : Int32) (sel (2 : Int32) p0 p1 p2) y0) (uu ((k2 * (3 : Int32)) + rk o0 o1 (2 : Int32)) (1 : Int32) (sel (2 : Int32) p0 p1 p2) y1) (uu ((k2 * (3 : Int32)) + rk o0 o1 (2 : Int32)) (2 : Int32) (sel (2 : Int32) p0 p1 p2) y2) (uu ((k2 * (3 : Int32)) + rk o0 o1 (2 : Int32)) (3 : Int32) (sel (2 : Int32) p0 p1 p2) y3) (uu ((k2 * (3 : Int32)) + rk o0 o1 (2 : Int32)) (4 : Int32) (sel (2 : Int32) p0 p1 p2) y4) (uu ((k2 * (3 : Int32)) + rk o0 o1 (2 : Int32)) (5 : Int32) (sel (2 : Int32) p0 p1 p2) y5) h0 T2.heap n0 T2 _ X2 rfl N2 Z2 hk f4 f5 f6 f7 f8 f9 f10 f11 f12 f13 VF2 lF naF nPF nOF nRF hp hk0 hk1 hk2 (own_wj2 c1 hy0) (own_wj2 c1 hy1) (own_wj2 c1 hy2) (own_wj2 c1 hy3) (own_wj2 c1 hy4) (own_wj2 c1 hy5)
set_option maxRecDepth 65536 in
set_option maxHeartbeats 40000000 in
theorem Seg348_8 {p : Program} {l : Launch} {e : Env} {s : State} {m : MethodId} {args : Array Value} {below : List Frame} {meth : Method} {c : Code}  (Z : State) (a0 : Array Value) (hw : ∀ d ∈ tables_1, d.before a0 Z = true) (hx : p.tables.exec = Jvm.exec) (hby : c.code = code) (hlk : meth.locks = false) (hret : meth.sig.returnType = some .boolean) (hml : c.maxLocals = 24) (hnm : meth.name = "law") (vm0 : Vm) (kS0 : Nat) (hS : s.Since vm0 kS0) (hown : (s.setVm vm0).vm.findClass "com/example/redoubt/redoubt/policies/FirstFitQueueFirstFittingPinLaw" = some m.cls) (hZ : Z.Warmed39 (s.setVm vm0).vm) (ia ib ic ifr ifm ish : Int32) (pm aO aJ a aR aP aF : Addr) (kO kR kP kF : ClassId) (o0 o1 o2 p0 p1 p2 w0 w1 w2 k0 k1 k2 y0 y1 y2 y3 y4 y5 : Int32) (h0 hh : Heap) (n0 : Nat) (T0 : State) (locs0 : List Loc) (X0 : Stand p l e room_1 (s.setVm vm0) m args below meth c T0 locs0 56 4416) (e0 : T0.heap = hh) (N0 : Fr n0 locs0) (Z0 : n0 ≤ hh.size) (hk : kS0 ≤ hh.size) (Ea : Exa Z hh a "com/example/redoubt/redoubt/policies/FirstFitQueue") (Fo : Fld Z hh a "com/example/redoubt/redoubt/policies/FirstFitQueue" "order" "[I" (.ref aO)) (Ao : Arv Z hh aO kO .int (3 : Int32) [(.int o0), (.int o1), (.int o2)] (.int (0 : Int32))) (Fr_ : Fld Z hh a "com/example/redoubt/redoubt/policies/FirstFitQueue" "rankOf" "[I" (.ref aR)) (Ar_ : Arv Z hh aR kR .int (3 : Int32) [(.int (rk o0 o1 (0 : Int32))), (.int (rk o0 o1 (1 : Int32))), (.int (rk o0 o1 (2 : Int32)))] (.int (0 : Int32))) (Fp : Fld Z hh a "com/example/redoubt/redoubt/policies/FirstFitQueue" "procs" "[I" (.ref aP)) (Ap : Arv Z hh aP kP .int (3 : Int32) [(.int (sel o0 p0 p1 p2)), (.int (sel o1 p0 p1 p2)), (.int (sel o2 p0 p1 p2))] (.int (0 : Int32))) (Fl_ : Fld Z hh a "com/example/redoubt/redoubt/policies/FirstFitQueue" "leaves" "I" (.int (8 : Int32))) (Ff : Fld Z hh a "com/example/redoubt/redoubt/policies/FirstFitQueue" "fewest" "[I" (.ref aF)) (Fh : Fld Z hh a "com/example/redoubt/redoubt/policies/FirstFitQueue" "shortest" "[D" .null) (VF : Arv Z hh aF kF .int (16 : Int32) (tr8 y0 y1 y2 y3 y4 y5) (.int (0 : Int32))) (lF : n0 ≤ aF) (naF : a ≠ aF) (nPF : aP ≠ aF) (nOF : aO ≠ aF) (nRF : aR ≠ aF) (hp : Perm3 o0 o1 o2) (hk0 : k0 = 0 ∨ k0 = 1) (hk1 : k1 = 0 ∨ k1 = 1) (hk2 : k2 = 0 ∨ k2 = 1) (hy0 : y0 = (ww w0 ((k0 * (3 : Int32)) + rk o0 o1 (0 : Int32)) (0 : Int32) p0 (2147483647 : Int32))) (hy1 : y1 = (ww w0 ((k0 * (3 : Int32)) + rk o0 o1 (0 : Int32)) (1 : Int32) p0 (2147483647 : Int32))) (hy2 : y2 = (ww w0 ((k0 * (3 : Int32)) + rk o0 o1 (0 : Int32)) (2 : Int32) p0 (2147483647 : Int32))) (hy3 : y3 = (ww w0 ((k0 * (3 : Int32)) + rk o0 o1 (0 : Int32)) (3 : Int32) p0 (2147483647 : Int32))) (hy4 : y4 = (ww w0 ((k0 * (3 : Int32)) + rk o0 o1 (0 : Int32)) (4 : Int32) p0 (2147483647 : Int32))) (hy5 : y5 = (ww w0 ((k0 * (3 : Int32)) + rk o0 o1 (0 : Int32)) (5 : Int32) p0 (2147483647 : Int32))) :
    Goes p e below (EV s (QLw Z h0 n0) 56 4416) (T0.setTop (mkF m 348 #[iv ia, iv ib, iv ic, iv ifr, iv ifm, iv ish, rv pm, rv aO, iv (2 : Int32), iv p0, iv p1, iv p2, iv w0, iv w1, iv w2, iv k0, iv k1, iv k2, rv aJ, rv a, .unset, .unset, .unset, .unset] [])) := by
  show Gs p e below _ T0 m 348 #[iv ia, iv ib, iv ic, iv ifr, iv ifm, iv ish, rv pm, rv aO, iv (2 : Int32), iv p0, iv p1, iv p2, iv w0, iv w1, iv w2, iv k0, iv k1, iv k2, rv aJ, rv a, .unset, .unset, .unset, .unset] []
  refine giload X0 hx (hb hby at_348) rfl ?_
  by_cases c1 : w1 = (0 : Int32)
  · refine gifYes X0 hx (pc := 350) (pc' := 362) (hb hby at_350) ((if0 _ _).trans (teq c1).1) (by decide) (by decide) ?_
    show Gs p e below _ T0 m 362 #[iv ia, iv ib, iv ic, iv ifr, iv ifm, iv ish, rv pm, rv aO, iv (2 : Int32), iv p0, iv p1, iv p2, iv w0, iv w1, iv w2, iv k0, iv k1, iv k2, rv aJ, rv a, .unset, .unset, .unset, .unset] []
    exact Seg362_8 Z a0 hw hx hby hlk hret hml hnm _ _ hS hown hZ ia ib ic ifr ifm ish pm aO aJ a aR aP aF kO kR kP kF o0 o1 o2 p0 p1 p2 w0 w1 w2 k0 k1 k2 y0 y1 y2 y3 y4 y5 h0 hh n0 T0 _ X0 e0 N0 Z0 hk Ea Fo Ao Fr_ Ar_ Fp Ap Fl_ Ff Fh VF lF naF nPF nOF nRF hp hk0 hk1 hk2 (own_w0 c1 hy0) (own_w0 c1 hy1) (own_w0 c1 hy2) (own_w0 c1 hy3) (own_w0 c1 hy4) (own_w0 c1 hy5)
  · refine gifNo X0 hx (hb hby at_350) ((if0 _ _).trans (feq c1).1) ?_
    refine gaload X0 hx (hb hby at_353) rfl rfl ?_
    refine giconst X0 hx (hb hby at_355) ?_
    refine giload X0 hx (hb hby at_356) rfl ?_
    obtain ⟨cq2, kq2, qa2, qb2, qc2⟩ := isOf hZ e0 Ea
    obtain ⟨_, _, ⟨T2, L2, k2, n2⟩, -, X2, ⟨Lc2, hQ2, l2, y2, z2⟩, st2⟩ := X0.virtualBack hx (y := mN34) (z := mN34) hown (mvT hZ (hwk hw 203 rfl)) (mvT hZ (hwk hw 204 rfl)) (notFace_of_selects (args := #[]) (mvT hZ (hwk hw 206 rfl))) (mvT hZ (hwk hw 206 rfl)) (mvT hZ (hwk hw 205 rfl)) (by decide) (backOf (W := 0) (rmAd2 l Z a0 hw [] a aO aR aP aF kO kR kP kF o0 o1 o2 p0 p1 p2 (1 : Int32) k1 y0 y1 y2 y3 y4 y5 hh n0 Z0 Ea Fo Ao Fr_ Ar_ Fp Ap Fl_ Ff Fh VF lF naF nPF nOF nRF hp (by decide) hk1) hZ (hwk hw 207 rfl) (hwk hw 146 rfl) (by decide) (by decide)) qa2 qc2 (g := (mkF m 358 #[iv ia, iv ib, iv ic, iv ifr, iv ifm, iv ish, rv pm, rv aO, iv (2 : Int32), iv p0, iv p1, iv p2, iv w0, iv w1, iv w2, iv k0, iv k1, iv k2, rv aJ, rv a, .unset, .unset, .unset, .unset] [(.int k1), (.int (1 : Int32)), (.ref a)])) rfl (by rw [hml]; rfl) (Steps.refl _) (argsL := [(.int (1 : Int32)), (.int k1)]) (rest := []) (lenOf pd__II_I_aae rfl) rfl (by show 2 * 0 + _ ≤ _; exact Nat.le_of_eq rfl) (hb hby at_358) (fun _ _ => ⟨rfl, e0, (by decide : 56 + 0 ≤ 56), (by decide : 4416 + 0 ≤ 4416)⟩)
    dsimp only [Pt.U, Pt.locs, Pt.cells, Pt.slots] at X2 l2 y2 z2 st2 hQ2
    subst l2 y2 z2
    obtain ⟨rfl, N2q, K2, VF2⟩ := hQ2
    have hk := Nat.le_trans hk K2.1
    have Z2 : n0 ≤ T2.heap.size := Nat.le_trans Z0 K2.1
    have N2 := Fr.app N0 N2q
    refine Goes.sts st2 ?_
    show Gs p e below _ T2 m 361 #[iv ia, iv ib, iv ic, iv ifr, iv ifm, iv ish, rv pm, rv aO, iv (2 : Int32), iv p0, iv p1, iv p2, iv w0, iv w1, iv w2, iv k0, iv k1, iv k2, rv aJ, rv a, .unset, .unset, .unset, .unset] [(.int ((k1 * (3 : Int32)) + rk o0 o1 (1 : Int32)))]
    refine Goes.st (fun tg kg => XT.pop X2.here hx rfl (hb hby at_361) rfl rfl kg) ?_
    show Gs p e below _ T2 m 362 #[iv ia, iv ib, iv ic, iv ifr, iv ifm, iv ish, rv pm, rv aO, iv (2 : Int32), iv p0, iv p1, iv p2, iv w0, iv w1, iv w2, iv k0, iv k1, iv k2, rv aJ, rv a, .unset, .unset, .unset, .unset] []
    have f4 := (Ea.keep K2)
    have f5 := (Fo.keep K2 (ninS naF nin0))
    have f6 := (Ao.keep K2 (ninS nOF nin0))
    have f7 := (Fr_.keep K2 (ninS naF nin0))
    have f8 := (Ar_.keep K2 (ninS nRF nin0))
    have f9 := (Fp.keep K2 (ninS naF nin0))
    have f10 := (Ap.keep K2 (ninS nPF nin0))
    have f11 := (Fl_.keep K2 (ninS naF nin0))
    have f12 := (Ff.keep K2 (ninS naF nin0))
    have f13 := (Fh.keep K2 (ninS naF nin0))
    exact Seg362_8 Z a0 hw hx hby hlk hret hml hnm _ _ hS hown hZ ia ib ic ifr ifm ish pm aO aJ a aR aP aF kO kR kP kF o0 o1 o2 p0 p1 p2 w0 w1 w2 k0 k1 k2 (uu ((k1 * (3 : Int32)) + rk o0 o1 (1 : Int32)) (0 : Int32) (sel (1 : Int32) p0 p1 p2) y0) (uu ((k1 * (3 : Int32)) + rk o0 o1 (1 : Int32)) (1 : Int32) (sel (1 : Int32) p0 p1 p2) y1) (uu ((k1 * (3 : Int32)) + rk o0 o1 (1 : Int32)) (2 : Int32) (sel (1 : Int32) p0 p1 p2) y2) (uu ((k1 * (3 : Int32)) + rk o0 o1 (1 : Int32)) (3 : Int32) (sel (1 : Int32) p0 p1 p2) y3) (uu ((k1 * (3 : Int32)) + rk o0 o1 (1 : Int32)) (4 : Int32) (sel (1 : Int32) p0 p1 p2) y4) (uu ((k1 * (3 : Int32)) + rk o0 o1 (1 : Int32)) (5 : Int32) (sel (1 : Int32) p0 p1 p2) y5) h0 T2.heap n0 T2 _ X2 rfl N2 Z2 hk f4 f5 f6 f7 f8 f9 f10 f11 f12 f13 VF2 lF naF nPF nOF nRF hp hk0 hk1 hk2 (own_wj1 c1 hy0) (own_wj1 c1 hy1) (own_wj1 c1 hy2) (own_wj1 c1 hy3) (own_wj1 c1 hy4) (own_wj1 c1 hy5)
set_option maxRecDepth 65536 in
set_option maxHeartbeats 40000000 in
theorem Seg334_8 {p : Program} {l : Launch} {e : Env} {s : State} {m : MethodId} {args : Array Value} {below : List Frame} {meth : Method} {c : Code}  (Z : State) (a0 : Array Value) (hw : ∀ d ∈ tables_1, d.before a0 Z = true) (hx : p.tables.exec = Jvm.exec) (hby : c.code = code) (hlk : meth.locks = false) (hret : meth.sig.returnType = some .boolean) (hml : c.maxLocals = 24) (hnm : meth.name = "law") (vm0 : Vm) (kS0 : Nat) (hS : s.Since vm0 kS0) (hown : (s.setVm vm0).vm.findClass "com/example/redoubt/redoubt/policies/FirstFitQueueFirstFittingPinLaw" = some m.cls) (hZ : Z.Warmed39 (s.setVm vm0).vm) (ia ib ic ifr ifm ish : Int32) (pm aO aJ a aR aP aF : Addr) (kO kR kP kF : ClassId) (o0 o1 o2 p0 p1 p2 w0 w1 w2 k0 k1 k2 y0 y1 y2 y3 y4 y5 : Int32) (h0 hh : Heap) (n0 : Nat) (T0 : State) (locs0 : List Loc) (X0 : Stand p l e room_1 (s.setVm vm0) m args below meth c T0 locs0 56 4416) (e0 : T0.heap = hh) (N0 : Fr n0 locs0) (Z0 : n0 ≤ hh.size) (hk : kS0 ≤ hh.size) (Ea : Exa Z hh a "com/example/redoubt/redoubt/policies/FirstFitQueue") (Fo : Fld Z hh a "com/example/redoubt/redoubt/policies/FirstFitQueue" "order" "[I" (.ref aO)) (Ao : Arv Z hh aO kO .int (3 : Int32) [(.int o0), (.int o1), (.int o2)] (.int (0 : Int32))) (Fr_ : Fld Z hh a "com/example/redoubt/redoubt/policies/FirstFitQueue" "rankOf" "[I" (.ref aR)) (Ar_ : Arv Z hh aR kR .int (3 : Int32) [(.int (rk o0 o1 (0 : Int32))), (.int (rk o0 o1 (1 : Int32))), (.int (rk o0 o1 (2 : Int32)))] (.int (0 : Int32))) (Fp : Fld Z hh a "com/example/redoubt/redoubt/policies/FirstFitQueue" "procs" "[I" (.ref aP)) (Ap : Arv Z hh aP kP .int (3 : Int32) [(.int (sel o0 p0 p1 p2)), (.int (sel o1 p0 p1 p2)), (.int (sel o2 p0 p1 p2))] (.int (0 : Int32))) (Fl_ : Fld Z hh a "com/example/redoubt/redoubt/policies/FirstFitQueue" "leaves" "I" (.int (8 : Int32))) (Ff : Fld Z hh a "com/example/redoubt/redoubt/policies/FirstFitQueue" "fewest" "[I" (.ref aF)) (Fh : Fld Z hh a "com/example/redoubt/redoubt/policies/FirstFitQueue" "shortest" "[D" .null) (VF : Arv Z hh aF kF .int (16 : Int32) (tr8 y0 y1 y2 y3 y4 y5) (.int (0 : Int32))) (lF : n0 ≤ aF) (naF : a ≠ aF) (nPF : aP ≠ aF) (nOF : aO ≠ aF) (nRF : aR ≠ aF) (hp : Perm3 o0 o1 o2) (hk0 : k0 = 0 ∨ k0 = 1) (hk1 : k1 = 0 ∨ k1 = 1) (hk2 : k2 = 0 ∨ k2 = 1) (hy0 : y0 = (2147483647 : Int32)) (hy1 : y1 = (2147483647 : Int32)) (hy2 : y2 = (2147483647 : Int32)) (hy3 : y3 = (2147483647 : Int32)) (hy4 : y4 = (2147483647 : Int32)) (hy5 : y5 = (2147483647 : Int32)) :
    Goes p e below (EV s (QLw Z h0 n0) 56 4416) (T0.setTop (mkF m 334 #[iv ia, iv ib, iv ic, iv ifr, iv ifm, iv ish, rv pm, rv aO, iv (2 : Int32), iv p0, iv p1, iv p2, iv w0, iv w1, iv w2, iv k0, iv k1, iv k2, rv aJ, rv a, .unset, .unset, .unset, .unset] [])) := by
  show Gs p e below _ T0 m 334 #[iv ia, iv ib, iv ic, iv ifr, iv ifm, iv ish, rv pm, rv aO, iv (2 : Int32), iv p0, iv p1, iv p2, iv w0, iv w1, iv w2, iv k0, iv k1, iv k2, rv aJ, rv a, .unset, .unset, .unset, .unset] []
  refine giload X0 hx (hb hby at_334) rfl ?_
  by_cases c1 : w0 = (0 : Int32)
  · refine gifYes X0 hx (pc := 336) (pc' := 348) (hb hby at_336) ((if0 _ _).trans (teq c1).1) (by decide) (by decide) ?_
    show Gs p e below _ T0 m 348 #[iv ia, iv ib, iv ic, iv ifr, iv ifm, iv ish, rv pm, rv aO, iv (2 : Int32), iv p0, iv p1, iv p2, iv w0, iv w1, iv w2, iv k0, iv k1, iv k2, rv aJ, rv a, .unset, .unset, .unset, .unset] []
    exact Seg348_8 Z a0 hw hx hby hlk hret hml hnm _ _ hS hown hZ ia ib ic ifr ifm ish pm aO aJ a aR aP aF kO kR kP kF o0 o1 o2 p0 p1 p2 w0 w1 w2 k0 k1 k2 y0 y1 y2 y3 y4 y5 h0 hh n0 T0 _ X0 e0 N0 Z0 hk Ea Fo Ao Fr_ Ar_ Fp Ap Fl_ Ff Fh VF lF naF nPF nOF nRF hp hk0 hk1 hk2 (own_w0 c1 hy0) (own_w0 c1 hy1) (own_w0 c1 hy2) (own_w0 c1 hy3) (own_w0 c1 hy4) (own_w0 c1 hy5)
  · refine gifNo X0 hx (hb hby at_336) ((if0 _ _).trans (feq c1).1) ?_
    refine gaload X0 hx (hb hby at_339) rfl rfl ?_
    refine giconst X0 hx (hb hby at_341) ?_
    refine giload X0 hx (hb hby at_342) rfl ?_
    obtain ⟨cq2, kq2, qa2, qb2, qc2⟩ := isOf hZ e0 Ea
    obtain ⟨_, _, ⟨T2, L2, k2, n2⟩, -, X2, ⟨Lc2, hQ2, l2, y2, z2⟩, st2⟩ := X0.virtualBack hx (y := mN34) (z := mN34) hown (mvT hZ (hwk hw 203 rfl)) (mvT hZ (hwk hw 204 rfl)) (notFace_of_selects (args := #[]) (mvT hZ (hwk hw 206 rfl))) (mvT hZ (hwk hw 206 rfl)) (mvT hZ (hwk hw 205 rfl)) (by decide) (backOf (W := 0) (rmAd2 l Z a0 hw [] a aO aR aP aF kO kR kP kF o0 o1 o2 p0 p1 p2 (0 : Int32) k0 y0 y1 y2 y3 y4 y5 hh n0 Z0 Ea Fo Ao Fr_ Ar_ Fp Ap Fl_ Ff Fh VF lF naF nPF nOF nRF hp (by decide) hk0) hZ (hwk hw 207 rfl) (hwk hw 146 rfl) (by decide) (by decide)) qa2 qc2 (g := (mkF m 344 #[iv ia, iv ib, iv ic, iv ifr, iv ifm, iv ish, rv pm, rv aO, iv (2 : Int32), iv p0, iv p1, iv p2, iv w0, iv w1, iv w2, iv k0, iv k1, iv k2, rv aJ, rv a, .unset, .unset, .unset, .unset] [(.int k0), (.int (0 : Int32)), (.ref a)])) rfl (by rw [hml]; rfl) (Steps.refl _) (argsL := [(.int (0 : Int32)), (.int k0)]) (rest := []) (lenOf pd__II_I_aae rfl) rfl (by show 2 * 0 + _ ≤ _; exact Nat.le_of_eq rfl) (hb hby at_344) (fun _ _ => ⟨rfl, e0, (by decide : 56 + 0 ≤ 56), (by decide : 4416 + 0 ≤ 4416)⟩)
    dsimp only [Pt.U, Pt.locs, Pt.cells, Pt.slots] at X2 l2 y2 z2 st2 hQ2
    subst l2 y2 z2
    obtain ⟨rfl, N2q, K2, VF2⟩ := hQ2
    have hk := Nat.le_trans hk K2.1
    have Z2 : n0 ≤ T2.heap.size := Nat.le_trans Z0 K2.1
    have N2 := Fr.app N0 N2q
    refine Goes.sts st2 ?_
    show Gs p e below _ T2 m 347 #[iv ia, iv ib, iv ic, iv ifr, iv ifm, iv ish, rv pm, rv aO, iv (2 : Int32), iv p0, iv p1, iv p2, iv w0, iv w1, iv w2, iv k0, iv k1, iv k2, rv aJ, rv a, .unset, .unset, .unset, .unset] [(.int ((k0 * (3 : Int32)) + rk o0 o1 (0 : Int32)))]
    refine Goes.st (fun tg kg => XT.pop X2.here hx rfl (hb hby at_347) rfl rfl kg) ?_
    show Gs p e below _ T2 m 348 #[iv ia, iv ib, iv ic, iv ifr, iv ifm, iv ish, rv pm, rv aO, iv (2 : Int32), iv p0, iv p1, iv p2, iv w0, iv w1, iv w2, iv k0, iv k1, iv k2, rv aJ, rv a, .unset, .unset, .unset, .unset] []
    have f4 := (Ea.keep K2)
    have f5 := (Fo.keep K2 (ninS naF nin0))
    have f6 := (Ao.keep K2 (ninS nOF nin0))
    have f7 := (Fr_.keep K2 (ninS naF nin0))
    have f8 := (Ar_.keep K2 (ninS nRF nin0))
    have f9 := (Fp.keep K2 (ninS naF nin0))
    have f10 := (Ap.keep K2 (ninS nPF nin0))
    have f11 := (Fl_.keep K2 (ninS naF nin0))
    have f12 := (Ff.keep K2 (ninS naF nin0))
    have f13 := (Fh.keep K2 (ninS naF nin0))
    exact Seg348_8 Z a0 hw hx hby hlk hret hml hnm _ _ hS hown hZ ia ib ic ifr ifm ish pm aO aJ a aR aP aF kO kR kP kF o0 o1 o2 p0 p1 p2 w0 w1 w2 k0 k1 k2 (uu ((k0 * (3 : Int32)) + rk o0 o1 (0 : Int32)) (0 : Int32) (sel (0 : Int32) p0 p1 p2) y0) (uu ((k0 * (3 : Int32)) + rk o0 o1 (0 : Int32)) (1 : Int32) (sel (0 : Int32) p0 p1 p2) y1) (uu ((k0 * (3 : Int32)) + rk o0 o1 (0 : Int32)) (2 : Int32) (sel (0 : Int32) p0 p1 p2) y2) (uu ((k0 * (3 : Int32)) + rk o0 o1 (0 : Int32)) (3 : Int32) (sel (0 : Int32) p0 p1 p2) y3) (uu ((k0 * (3 : Int32)) + rk o0 o1 (0 : Int32)) (4 : Int32) (sel (0 : Int32) p0 p1 p2) y4) (uu ((k0 * (3 : Int32)) + rk o0 o1 (0 : Int32)) (5 : Int32) (sel (0 : Int32) p0 p1 p2) y5) h0 T2.heap n0 T2 _ X2 rfl N2 Z2 hk f4 f5 f6 f7 f8 f9 f10 f11 f12 f13 VF2 lF naF nPF nOF nRF hp hk0 hk1 hk2 (own_wj0 c1 hy0) (own_wj0 c1 hy1) (own_wj0 c1 hy2) (own_wj0 c1 hy3) (own_wj0 c1 hy4) (own_wj0 c1 hy5)
theorem pd__Ljava_lang_String_ID_V_8b4f : parseMethodDescriptor "(Ljava/lang/String;ID)V" = some ⟨[(.object "java/lang/String"), .int, .double], none⟩ := by decide +kernel
theorem pd__Ljava_lang_Object__Z_79ae : parseMethodDescriptor "(Ljava/lang/Object;)Z" = some ⟨[(.object "java/lang/Object")], some .boolean⟩ := by decide +kernel
theorem pd__Ljava_util_List__II_V_8093 : parseMethodDescriptor "(Ljava/util/List;[II)V" = some ⟨[(.object "java/util/List"), (.array .int), .int], none⟩ := by decide +kernel
set_option maxRecDepth 65536 in
set_option maxHeartbeats 40000000 in
theorem Seg256 {p : Program} {l : Launch} {e : Env} {s : State} {m : MethodId} {args : Array Value} {below : List Frame} {meth : Method} {c : Code}  (Z : State) (a0 : Array Value) (hw : ∀ d ∈ tables_1, d.before a0 Z = true) (hx : p.tables.exec = Jvm.exec) (hby : c.code = code) (hlk : meth.locks = false) (hret : meth.sig.returnType = some .boolean) (hml : c.maxLocals = 24) (hnm : meth.name = "law") (vm0 : Vm) (kS0 : Nat) (hS : s.Since vm0 kS0) (hown : (s.setVm vm0).vm.findClass "com/example/redoubt/redoubt/policies/FirstFitQueueFirstFittingPinLaw" = some m.cls) (hZ : Z.Warmed39 (s.setVm vm0).vm) (ia ib ic ifr ifm ish : Int32) (pm aO : Addr) (kO : ClassId) (cl o0 o1 o2 p0 p1 p2 w0 w1 w2 k0 k1 k2 : Int32) (dE : Addr) (kD : ClassId) (cs : Int32) (fm : Value) (h0 hh : Heap) (n0 : Nat) (T0 : State) (locs0 : List Loc) (X0 : Stand p l e room_1 (s.setVm vm0) m args below meth c T0 locs0 7 24) (e0 : T0.heap = hh) (N0 : Fr n0 locs0) (Z0 : n0 ≤ hh.size) (hk : kS0 ≤ hh.size) (hH : CHv Z ELs vm0 hh) (Scs : Sta Z hh "java/lang/String" "COMPACT_STRINGS" "Z" (.int cs)) (hcs : ¬ cs = (0 : Int32)) (Sfm : Sta Z hh "jdk/internal/util/Preconditions" "SIOOBE_FORMATTER" "Ljava/util/function/BiFunction;" fm) (hfm : fm.isRef = true) (Sde : Sta Z hh "java/util/ArrayList" "DEFAULTCAPACITY_EMPTY_ELEMENTDATA" "[Ljava/lang/Object;" (.ref dE)) (Ade : Arv Z hh dE kD (.object "java/lang/Object") (0 : Int32) [] .null) (Ao : Arv Z hh aO kO .int (3 : Int32) [(.int o0), (.int o1), (.int o2)] (.int (0 : Int32))) (hp : Perm3 o0 o1 o2) (hq0 : ¬ p0 < (1 : Int32)) (hq1 : ¬ p1 < (1 : Int32)) (hq2 : ¬ p2 < (1 : Int32)) (hcl : (cl = 1 ∧ k0 = 0 ∧ k1 = 0 ∧ k2 = 0) ∨ (cl = 2 ∧ (k0 = 0 ∨ k0 = 1) ∧ (k1 = 0 ∨ k1 = 1) ∧ (k2 = 0 ∨ k2 = 1))) :
    Goes p e below (EV s (QLw Z h0 n0) 56 4416) (T0.setTop (mkF m 256 #[iv ia, iv ib, iv ic, iv ifr, iv ifm, iv ish, rv pm, rv aO, iv cl, iv p0, iv p1, iv p2, iv w0, iv w1, iv w2, iv k0, iv k1, iv k2, .unset, .unset, .unset, .unset, .unset, .unset] [])) := by
  have hR := CHr.refl hH
  show Gs p e below _ T0 m 256 #[iv ia, iv ib, iv ic, iv ifr, iv ifm, iv ish, rv pm, rv aO, iv cl, iv p0, iv p1, iv p2, iv w0, iv w1, iv w2, iv k0, iv k1, iv k2, .unset, .unset, .unset, .unset, .unset, .unset] []
  obtain ⟨T1, h1, X1, e1, E1, A1, D1, -, st1⟩ := newO X0 hx hZ hown (hwk hw 9 rfl) (hwk hw 10 rfl) (hwk hw 11 rfl) e0 (g := (mkF m 256 #[iv ia, iv ib, iv ic, iv ifr, iv ifm, iv ish, rv pm, rv aO, iv cl, iv p0, iv p1, iv p2, iv w0, iv w1, iv w2, iv k0, iv k1, iv k2, .unset, .unset, .unset, .unset, .unset, .unset] [])) rfl (hb hby at_256) (by decide) (by decide)
  obtain ⟨b1, g1⟩ : ∃ z, z = hh.size := ⟨_, rfl⟩
  rw [← g1] at A1 D1 st1
  have ne_dE_b1 : dE ≠ b1 := Nat.ne_of_lt (Nat.lt_of_lt_of_le Ade.lt (Nat.le_of_eq g1.symm))
  have ne_aO_b1 : aO ≠ b1 := Nat.ne_of_lt (Nat.lt_of_lt_of_le Ao.lt (Nat.le_of_eq g1.symm))
  have lo_b1 : n0 ≤ b1 := by have := Z0; omega
  refine Goes.st st1 ?_
  have hk := Nat.le_trans hk E1.1
  have hR := hR.trans (CHr.ext E1 hR.1)
  have Z1 : n0 ≤ h1.size := Nat.le_trans Z0 E1.1
  have F1_modCount : Fld Z h1 b1 "java/util/AbstractList" "modCount" "I" (.int (0 : Int32)) := D1 (Or.inl (hwk hw 31 rfl)) (ty := .int) (by decide)
  have F1_elementData : Fld Z h1 b1 "java/util/ArrayList" "elementData" "[Ljava/lang/Object;" .null := D1 (Or.inl (hwk hw 34 rfl)) (ty := (.array (.object "java/lang/Object"))) (by decide)
  have F1_size : Fld Z h1 b1 "java/util/ArrayList" "size" "I" (.int (0 : Int32)) := D1 (Or.inl (hwk hw 122 rfl)) (ty := .int) (by decide)
  show Gs p e below _ T1 m 259 #[iv ia, iv ib, iv ic, iv ifr, iv ifm, iv ish, rv pm, rv aO, iv cl, iv p0, iv p1, iv p2, iv w0, iv w1, iv w2, iv k0, iv k1, iv k2, .unset, .unset, .unset, .unset, .unset, .unset] [(.ref b1)]
  refine gdup X1 hx (hb hby at_259) trivial rfl ?_
  have f3 := (Sde.ext E1)
  obtain ⟨_, _, ⟨T4, L4, k4, n4⟩, -, X4, ⟨Lc4, hQ4, l4, y4, z4⟩, st4⟩ := X1.specialBack hx (y := mN4) rfl hown (mvT hZ (hwk hw 12 rfl)) (mvT hZ (hwk hw 13 rfl)) (mvT hZ (hwk hw 14 rfl)) (by decide) (backOf (W := 1) (rmAi l Z a0 hw [] b1 dE h1 n0 Z1 A1 lo_b1 F1_modCount F1_elementData F1_size f3) hZ (hwk hw 14 rfl) (hwk hw 11 rfl) (by decide) (by decide)) (g := (mkF m 260 #[iv ia, iv ib, iv ic, iv ifr, iv ifm, iv ish, rv pm, rv aO, iv cl, iv p0, iv p1, iv p2, iv w0, iv w1, iv w2, iv k0, iv k1, iv k2, .unset, .unset, .unset, .unset, .unset, .unset] [(.ref b1), (.ref b1)])) rfl (by rw [hml]; rfl) (Steps.refl _) (a := b1) (argsL := []) (rest := [(.ref b1)]) (lenOf pd___V_566 rfl) rfl (by show 2 * 0 + _ ≤ _; exact Nat.le_of_eq rfl) (hb hby at_260) (fun _ _ => ⟨rfl, e1, (by decide : 8 + 0 ≤ 56), (by decide : 27 + 0 ≤ 4416)⟩)
  dsimp only [Pt.U, Pt.locs, Pt.cells, Pt.slots] at X4 l4 y4 z4 st4 hQ4
  subst l4 y4 z4
  obtain ⟨rfl, N4q, K4, R4_0, R4_1, R4_2⟩ := hQ4
  have hk := Nat.le_trans hk K4.1
  have hR := hR.trans (CHr.keep K4 (sfS (Safe.exa hZ.alike A1 (by decide) (by decide)) sf0) hR.1)
  have Z4 : n0 ≤ T4.heap.size := Nat.le_trans Z1 K4.1
  have N4 := Fr.app N0 N4q
  refine Goes.sts st4 ?_
  show Gs p e below _ T4 m 263 #[iv ia, iv ib, iv ic, iv ifr, iv ifm, iv ish, rv pm, rv aO, iv cl, iv p0, iv p1, iv p2, iv w0, iv w1, iv w2, iv k0, iv k1, iv k2, .unset, .unset, .unset, .unset, .unset, .unset] [(.ref b1)]
  refine gastore X4 hx (hb hby at_263) trivial rfl (l' := #[iv ia, iv ib, iv ic, iv ifr, iv ifm, iv ish, rv pm, rv aO, iv cl, iv p0, iv p1, iv p2, iv w0, iv w1, iv w2, iv k0, iv k1, iv k2, rv b1, .unset, .unset, .unset, .unset, .unset]) rfl ?_
  refine gaload X4 hx (hb hby at_265) rfl rfl ?_
  obtain ⟨T6, h6, X6, e6, E6, A6, D6, -, st6⟩ := newO X4 hx hZ hown (hwk hw 35 rfl) (hwk hw 36 rfl) (hwk hw 37 rfl) rfl (g := (mkF m 267 #[iv ia, iv ib, iv ic, iv ifr, iv ifm, iv ish, rv pm, rv aO, iv cl, iv p0, iv p1, iv p2, iv w0, iv w1, iv w2, iv k0, iv k1, iv k2, rv b1, .unset, .unset, .unset, .unset, .unset] [(.ref b1)])) rfl (hb hby at_267) (by decide) (by decide)
  obtain ⟨b6, g6⟩ : ∃ z, z = T4.heap.size := ⟨_, rfl⟩
  rw [← g6] at A6 D6 st6
  have f7 := ((Ade.ext E1).keep K4 (ninS ne_dE_b1 nin0))
  have ne_dE_b6 : dE ≠ b6 := Nat.ne_of_lt (Nat.lt_of_lt_of_le f7.lt (Nat.le_of_eq g6.symm))
  have f8 := ((Ao.ext E1).keep K4 (ninS ne_aO_b1 nin0))
  have ne_aO_b6 : aO ≠ b6 := Nat.ne_of_lt (Nat.lt_of_lt_of_le f8.lt (Nat.le_of_eq g6.symm))
  have f9 := (A1.keep K4)
  have ne_b1_b6 : b1 ≠ b6 := Nat.ne_of_lt (Nat.lt_of_lt_of_le f9.lt (Nat.le_of_eq g6.symm))
  have lo_b6 : n0 ≤ b6 := by have := Z4; omega
  refine Goes.st st6 ?_
  have hk := Nat.le_trans hk E6.1
  have hR := hR.trans (CHr.ext E6 hR.1)
  have Z6 : n0 ≤ h6.size := Nat.le_trans Z4 E6.1
  have F6_id : Fld Z h6 b6 "com/example/redoubt/redoubt/engine/Job" "id" "Ljava/lang/String;" .null := D6 (Or.inr (hwk hw 109 rfl)) (ty := (.object "java/lang/String")) (by decide)
  have F6_procs : Fld Z h6 b6 "com/example/redoubt/redoubt/engine/Job" "procs" "I" (.int (0 : Int32)) := D6 (Or.inr (hwk hw 111 rfl)) (ty := .int) (by decide)
  have F6_time : Fld Z h6 b6 "com/example/redoubt/redoubt/engine/Job" "time" "D" (.double (0 : UInt64)) := D6 (Or.inr (hwk hw 113 rfl)) (ty := .double) (by decide)
  show Gs p e below _ T6 m 270 #[iv ia, iv ib, iv ic, iv ifr, iv ifm, iv ish, rv pm, rv aO, iv cl, iv p0, iv p1, iv p2, iv w0, iv w1, iv w2, iv k0, iv k1, iv k2, rv b1, .unset, .unset, .unset, .unset, .unset] [(.ref b6), (.ref b1)]
  refine gdup X6 hx (hb hby at_270) trivial rfl ?_
  show Gs p e below _ T6 m 271 #[iv ia, iv ib, iv ic, iv ifr, iv ifm, iv ish, rv pm, rv aO, iv cl, iv p0, iv p1, iv p2, iv w0, iv w1, iv w2, iv k0, iv k1, iv k2, rv b1, .unset, .unset, .unset, .unset, .unset] [(.ref b6), (.ref b6), (.ref b1)]
  obtain ⟨b11, T11, h11, kk11, bb11, kb11, X11, e11, E11, hS, hk, hZ, hown, LE11, LC11, LV11, LA11, la11, lb11, hCr11, Li11, hSf11, st11⟩ := ldcCH X6 hx hZ hown (hwk hw 38 rfl) (strW (hwk hw 39 rfl) (hwk hw 40 rfl) (hwk hw 41 rfl) (hwk hw 42 rfl) (hwk hw 43 rfl) (hwk hw 44 rfl) (hwk hw 45 rfl)) e6 hS hk (hELs hw) (by decide) hR.1 (vs := [(.int (97 : Int32))]) (z := (1 : Int32)) (by decide) (by decide) (by decide) (g := (mkF m 271 #[iv ia, iv ib, iv ic, iv ifr, iv ifm, iv ish, rv pm, rv aO, iv cl, iv p0, iv p1, iv p2, iv w0, iv w1, iv w2, iv k0, iv k1, iv k2, rv b1, .unset, .unset, .unset, .unset, .unset] [(.ref b6), (.ref b6), (.ref b1)])) rfl (hb hby at_271) (n := 4) (by decide) (by decide) (by decide) (by decide)
  have hR := hR.trans hCr11
  refine Goes.st st11 ?_
  have Z11 : n0 ≤ h11.size := Nat.le_trans Z6 E11.1
  show Gs p e below _ T11 m 273 #[iv ia, iv ib, iv ic, iv ifr, iv ifm, iv ish, rv pm, rv aO, iv cl, iv p0, iv p1, iv p2, iv w0, iv w1, iv w2, iv k0, iv k1, iv k2, rv b1, .unset, .unset, .unset, .unset, .unset] [(.ref b11), (.ref b6), (.ref b6), (.ref b1)]
  refine giload X11 hx (hb hby at_273) rfl ?_
  refine Goes.st (fun tg kg => XS.dconst1 X11.here hx rfl (hb hby at_275) (v := FP.dconst1) rfl kg) ?_
  have f13 := (A6.ext E11)
  have f14 := (F6_id.ext E11)
  have f15 := (F6_procs.ext E11)
  have f16 := (F6_time.ext E11)
  have f17 := ((((Scs.ext E1).kept K4 (nsS (Exa.nostat A1) ns0)).ext E6).ext E11)
  have f18 := ((((Sfm.ext E1).kept K4 (nsS (Exa.nostat A1) ns0)).ext E6).ext E11)
  obtain ⟨_, _, ⟨T19, L19, k19, n19⟩, -, X19, hS19, hg19, ⟨Lc19, hQ19, l19, y19, z19, hCr19⟩, st19⟩ := X11.specialBackS hx (y := mN17) rfl hown (mvT hZ (hwk hw 46 rfl)) (mvT hZ (hwk hw 47 rfl)) (mvT hZ (hwk hw 48 rfl)) (by decide) (backOfSH (W := 2) (rmJo l Z a0 hw [] b6 b11 bb11 kb11 (97 : Int32) p0 cs fm h11 n0 Z11 f13 lo_b6 f14 f15 f16 f17 hcs LE11 LV11 LC11 LA11 f18 hfm (by decide) (by decide) (by decide) (by decide) hq0) hZ (hwk hw 48 rfl) (hwk hw 37 rfl) (by decide) (by decide) (hELs hw) hR.1) (g := (mkF m 276 #[iv ia, iv ib, iv ic, iv ifr, iv ifm, iv ish, rv pm, rv aO, iv cl, iv p0, iv p1, iv p2, iv w0, iv w1, iv w2, iv k0, iv k1, iv k2, rv b1, .unset, .unset, .unset, .unset, .unset] [(.double FP.dconst1), (.int p0), (.ref b11), (.ref b6), (.ref b6), (.ref b1)])) rfl (by rw [hml]; rfl) (Steps.refl _) (a := b6) (argsL := [(.ref b11), (.int p0), (.double FP.dconst1)]) (rest := [(.ref b6), (.ref b1)]) (lenOf pd__Ljava_lang_String_ID_V_8b4f rfl) rfl (by show 2 * 0 + _ ≤ _; exact Nat.le_of_eq rfl) (hb hby at_276) (fun _ _ => ⟨rfl, e11, (by decide : 11 + 2 ≤ 56), (by decide : 38 + 12 ≤ 4416)⟩)
  dsimp only [Pt.U, Pt.locs, Pt.cells, Pt.slots] at X19 l19 y19 z19 st19 hQ19 hS19 hg19 hCr19
  subst l19 y19 z19
  obtain ⟨X19, hS, hZ, hown⟩ := rebS hS (by rw [e11]; exact hk) X19 hS19 hg19 hZ hown
  have hk := Nat.le_refl T19.heap.size
  have hR := hR.trans hCr19
  obtain ⟨rfl, N19q, K19, R19_0, R19_1⟩ := hQ19
  have Z19 : n0 ≤ T19.heap.size := Nat.le_trans Z11 K19.1
  have N19 := Fr.app N4 N19q
  refine Goes.sts st19 ?_
  show Gs p e below _ T19 m 279 #[iv ia, iv ib, iv ic, iv ifr, iv ifm, iv ish, rv pm, rv aO, iv cl, iv p0, iv p1, iv p2, iv w0, iv w1, iv w2, iv k0, iv k1, iv k2, rv b1, .unset, .unset, .unset, .unset, .unset] [(.ref b6), (.ref b1)]
  have f21 := (((f9.ext E6).ext E11).keep K19)
  have f22 := (((R4_0.ext E6).ext E11).keep K19 (ninS ne_b1_b6 nin0))
  have f23 := (((R4_1.ext E6).ext E11).keep K19 (ninS ne_b1_b6 nin0))
  have f24 := (((R4_2.ext E6).ext E11).keep K19 (ninS ne_b1_b6 nin0))
  have f25 := ((((f3.kept K4 (nsS (Exa.nostat A1) ns0)).ext E6).ext E11).kept K19 (nsS (Exa.nostat f13) ns0))
  have f26 := (((f7.ext E6).ext E11).keep K19 (ninS ne_dE_b6 nin0))
  have f27 := (f13.keep K19)
  have lt28 : dE < T19.heap.size := f26.lt
  have f30 := (((f8.ext E6).ext E11).keep K19 (ninS ne_aO_b6 nin0))
  have lt29 : aO < T19.heap.size := f30.lt
  have lt31 : b1 < T19.heap.size := f21.lt
  have lt32 : b6 < T19.heap.size := f27.lt
  have f34 := (((f9.ext E6).ext E11).keep K19)
  obtain ⟨cq33, kq33, qa33, qb33, qc33⟩ := isOf hZ rfl f34
  obtain ⟨_, _, ⟨T33, L33, k33, n33⟩, -, X33, ⟨Lc33, hQ33, l33, y33, z33⟩, st33⟩ := X19.virtualBack hx (y := mN21) (z := mN21) hown (mvT hZ (hwk hw 114 rfl)) (mvT hZ (hwk hw 115 rfl)) (notFace_of_selects (args := #[]) (mvT hZ (hwk hw 117 rfl))) (mvT hZ (hwk hw 117 rfl)) (mvT hZ (hwk hw 116 rfl)) (by decide) (backOf (W := 0) (rmA10 l Z a0 hw [] b1 dE kD (0 : Int32) b6 T19.heap n0 Z19 f21 lo_b1 f22 f23 f24 f25 f26 (Ne.symm ne_dE_b1) f27) hZ (hwk hw 118 rfl) (hwk hw 11 rfl) (by decide) (by decide)) qa33 qc33 (g := (mkF m 279 #[iv ia, iv ib, iv ic, iv ifr, iv ifm, iv ish, rv pm, rv aO, iv cl, iv p0, iv p1, iv p2, iv w0, iv w1, iv w2, iv k0, iv k1, iv k2, rv b1, .unset, .unset, .unset, .unset, .unset] [(.ref b6), (.ref b1)])) rfl (by rw [hml]; rfl) (Steps.refl _) (argsL := [(.ref b6)]) (rest := []) (lenOf pd__Ljava_lang_Object__Z_79ae rfl) rfl (by show 2 * 0 + _ ≤ _; exact Nat.le_of_eq rfl) (hb hby at_279) (fun _ _ => ⟨rfl, rfl, (by decide : 13 + 1 ≤ 56), (by decide : 50 + 10 ≤ 4416)⟩)
  dsimp only [Pt.U, Pt.locs, Pt.cells, Pt.slots] at X33 l33 y33 z33 st33 hQ33
  subst l33 y33 z33
  obtain ⟨bE33, kE33, rfl, N33q, K33, szq33, loq33, R33_0, R33_1, R33_2, VE33, OE33⟩ := hQ33
  have hk := Nat.le_trans hk K33.1
  have hR := hR.trans (CHr.keep K33 (sfS (Safe.exa hZ.alike f21 (by decide) (by decide)) sf0) hR.1)
  have ne_dE_bE33 : dE ≠ bE33 := Nat.ne_of_lt (Nat.lt_of_lt_of_le lt28 szq33)
  have ne_aO_bE33 : aO ≠ bE33 := Nat.ne_of_lt (Nat.lt_of_lt_of_le lt29 szq33)
  have ne_b1_bE33 : b1 ≠ bE33 := Nat.ne_of_lt (Nat.lt_of_lt_of_le lt31 szq33)
  have ne_b6_bE33 : b6 ≠ bE33 := Nat.ne_of_lt (Nat.lt_of_lt_of_le lt32 szq33)
  have Z33 : n0 ≤ T33.heap.size := Nat.le_trans Z19 K33.1
  have N33 := Fr.app N19 N33q
  refine Goes.sts st33 ?_
  show Gs p e below _ T33 m 282 #[iv ia, iv ib, iv ic, iv ifr, iv ifm, iv ish, rv pm, rv aO, iv cl, iv p0, iv p1, iv p2, iv w0, iv w1, iv w2, iv k0, iv k1, iv k2, rv b1, .unset, .unset, .unset, .unset, .unset] [(.int (1 : Int32))]
  refine Goes.st (fun tg kg => XT.pop X33.here hx rfl (hb hby at_282) rfl rfl kg) ?_
  show Gs p e below _ T33 m 283 #[iv ia, iv ib, iv ic, iv ifr, iv ifm, iv ish, rv pm, rv aO, iv cl, iv p0, iv p1, iv p2, iv w0, iv w1, iv w2, iv k0, iv k1, iv k2, rv b1, .unset, .unset, .unset, .unset, .unset] []
  refine gaload X33 hx (hb hby at_283) rfl rfl ?_
  obtain ⟨T36, h36, X36, e36, E36, A36, D36, -, st36⟩ := newO X33 hx hZ hown (hwk hw 35 rfl) (hwk hw 36 rfl) (hwk hw 37 rfl) rfl (g := (mkF m 285 #[iv ia, iv ib, iv ic, iv ifr, iv ifm, iv ish, rv pm, rv aO, iv cl, iv p0, iv p1, iv p2, iv w0, iv w1, iv w2, iv k0, iv k1, iv k2, rv b1, .unset, .unset, .unset, .unset, .unset] [(.ref b1)])) rfl (hb hby at_285) (by decide) (by decide)
  obtain ⟨b36, g36⟩ : ∃ z, z = T33.heap.size := ⟨_, rfl⟩
  rw [← g36] at A36 D36 st36
  have f37 := (f26.keep K33 (ninS ne_dE_b1 nin0))
  have ne_dE_b36 : dE ≠ b36 := Nat.ne_of_lt (Nat.lt_of_lt_of_le f37.lt (Nat.le_of_eq g36.symm))
  have f38 := (f30.keep K33 (ninS ne_aO_b1 nin0))
  have ne_aO_b36 : aO ≠ b36 := Nat.ne_of_lt (Nat.lt_of_lt_of_le f38.lt (Nat.le_of_eq g36.symm))
  have f39 := (f21.keep K33)
  have ne_b1_b36 : b1 ≠ b36 := Nat.ne_of_lt (Nat.lt_of_lt_of_le f39.lt (Nat.le_of_eq g36.symm))
  have f40 := (f27.keep K33)
  have ne_b6_b36 : b6 ≠ b36 := Nat.ne_of_lt (Nat.lt_of_lt_of_le f40.lt (Nat.le_of_eq g36.symm))
  have ne_bE33_b36 : bE33 ≠ b36 := Nat.ne_of_lt (Nat.lt_of_lt_of_le VE33.lt (Nat.le_of_eq g36.symm))
  have lo_b36 : n0 ≤ b36 := by have := Z33; omega
  refine Goes.st st36 ?_
  have hk := Nat.le_trans hk E36.1
  have hR := hR.trans (CHr.ext E36 hR.1)
  have Z36 : n0 ≤ h36.size := Nat.le_trans Z33 E36.1
  have F36_id : Fld Z h36 b36 "com/example/redoubt/redoubt/engine/Job" "id" "Ljava/lang/String;" .null := D36 (Or.inr (hwk hw 109 rfl)) (ty := (.object "java/lang/String")) (by decide)
  have F36_procs : Fld Z h36 b36 "com/example/redoubt/redoubt/engine/Job" "procs" "I" (.int (0 : Int32)) := D36 (Or.inr (hwk hw 111 rfl)) (ty := .int) (by decide)
  have F36_time : Fld Z h36 b36 "com/example/redoubt/redoubt/engine/Job" "time" "D" (.double (0 : UInt64)) := D36 (Or.inr (hwk hw 113 rfl)) (ty := .double) (by decide)
  show Gs p e below _ T36 m 288 #[iv ia, iv ib, iv ic, iv ifr, iv ifm, iv ish, rv pm, rv aO, iv cl, iv p0, iv p1, iv p2, iv w0, iv w1, iv w2, iv k0, iv k1, iv k2, rv b1, .unset, .unset, .unset, .unset, .unset] [(.ref b36), (.ref b1)]
  refine gdup X36 hx (hb hby at_288) trivial rfl ?_
  show Gs p e below _ T36 m 289 #[iv ia, iv ib, iv ic, iv ifr, iv ifm, iv ish, rv pm, rv aO, iv cl, iv p0, iv p1, iv p2, iv w0, iv w1, iv w2, iv k0, iv k1, iv k2, rv b1, .unset, .unset, .unset, .unset, .unset] [(.ref b36), (.ref b36), (.ref b1)]
  obtain ⟨b42, T42, h42, kk42, bb42, kb42, X42, e42, E42, hS, hk, hZ, hown, LE42, LC42, LV42, LA42, la42, lb42, hCr42, Li42, hSf42, st42⟩ := ldcCH X36 hx hZ hown (hwk hw 142 rfl) (strW (hwk hw 39 rfl) (hwk hw 40 rfl) (hwk hw 41 rfl) (hwk hw 42 rfl) (hwk hw 43 rfl) (hwk hw 44 rfl) (hwk hw 45 rfl)) e36 hS hk (hELs hw) (by decide) hR.1 (vs := [(.int (98 : Int32))]) (z := (1 : Int32)) (by decide) (by decide) (by decide) (g := (mkF m 289 #[iv ia, iv ib, iv ic, iv ifr, iv ifm, iv ish, rv pm, rv aO, iv cl, iv p0, iv p1, iv p2, iv w0, iv w1, iv w2, iv k0, iv k1, iv k2, rv b1, .unset, .unset, .unset, .unset, .unset] [(.ref b36), (.ref b36), (.ref b1)])) rfl (hb hby at_289) (n := 4) (by decide) (by decide) (by decide) (by decide)
  have hR := hR.trans hCr42
  refine Goes.st st42 ?_
  have Z42 : n0 ≤ h42.size := Nat.le_trans Z36 E42.1
  show Gs p e below _ T42 m 291 #[iv ia, iv ib, iv ic, iv ifr, iv ifm, iv ish, rv pm, rv aO, iv cl, iv p0, iv p1, iv p2, iv w0, iv w1, iv w2, iv k0, iv k1, iv k2, rv b1, .unset, .unset, .unset, .unset, .unset] [(.ref b42), (.ref b36), (.ref b36), (.ref b1)]
  refine giload X42 hx (hb hby at_291) rfl ?_
  refine Goes.st (fun tg kg => XS.dconst1 X42.here hx rfl (hb hby at_293) (v := FP.dconst1) rfl kg) ?_
  have f44 := (A36.ext E42)
  have f45 := (F36_id.ext E42)
  have f46 := (F36_procs.ext E42)
  have f47 := (F36_time.ext E42)
  have f48 := ((((f17.kept K19 (nsS (Exa.nostat f13) ns0)).kept K33 (nsS (Exa.nostat f21) ns0)).ext E36).ext E42)
  have f49 := ((((f18.kept K19 (nsS (Exa.nostat f13) ns0)).kept K33 (nsS (Exa.nostat f21) ns0)).ext E36).ext E42)
  obtain ⟨_, _, ⟨T50, L50, k50, n50⟩, -, X50, hS50, hg50, ⟨Lc50, hQ50, l50, y50, z50, hCr50⟩, st50⟩ := X42.specialBackS hx (y := mN17) rfl hown (mvT hZ (hwk hw 46 rfl)) (mvT hZ (hwk hw 47 rfl)) (mvT hZ (hwk hw 48 rfl)) (by decide) (backOfSH (W := 2) (rmJo l Z a0 hw [] b36 b42 bb42 kb42 (98 : Int32) p1 cs fm h42 n0 Z42 f44 lo_b36 f45 f46 f47 f48 hcs LE42 LV42 LC42 LA42 f49 hfm (by decide) (by decide) (by decide) (by decide) hq1) hZ (hwk hw 48 rfl) (hwk hw 37 rfl) (by decide) (by decide) (hELs hw) hR.1) (g := (mkF m 294 #[iv ia, iv ib, iv ic, iv ifr, iv ifm, iv ish, rv pm, rv aO, iv cl, iv p0, iv p1, iv p2, iv w0, iv w1, iv w2, iv k0, iv k1, iv k2, rv b1, .unset, .unset, .unset, .unset, .unset] [(.double FP.dconst1), (.int p1), (.ref b42), (.ref b36), (.ref b36), (.ref b1)])) rfl (by rw [hml]; rfl) (Steps.refl _) (a := b36) (argsL := [(.ref b42), (.int p1), (.double FP.dconst1)]) (rest := [(.ref b36), (.ref b1)]) (lenOf pd__Ljava_lang_String_ID_V_8b4f rfl) rfl (by show 2 * 0 + _ ≤ _; exact Nat.le_of_eq rfl) (hb hby at_294) (fun _ _ => ⟨rfl, e42, (by decide : 17 + 2 ≤ 56), (by decide : 71 + 12 ≤ 4416)⟩)
  dsimp only [Pt.U, Pt.locs, Pt.cells, Pt.slots] at X50 l50 y50 z50 st50 hQ50 hS50 hg50 hCr50
  subst l50 y50 z50
  obtain ⟨X50, hS, hZ, hown⟩ := rebS hS (by rw [e42]; exact hk) X50 hS50 hg50 hZ hown
  have hk := Nat.le_refl T50.heap.size
  have hR := hR.trans hCr50
  obtain ⟨rfl, N50q, K50, R50_0, R50_1⟩ := hQ50
  have Z50 : n0 ≤ T50.heap.size := Nat.le_trans Z42 K50.1
  have N50 := Fr.app N33 N50q
  refine Goes.sts st50 ?_
  show Gs p e below _ T50 m 297 #[iv ia, iv ib, iv ic, iv ifr, iv ifm, iv ish, rv pm, rv aO, iv cl, iv p0, iv p1, iv p2, iv w0, iv w1, iv w2, iv k0, iv k1, iv k2, rv b1, .unset, .unset, .unset, .unset, .unset] [(.ref b36), (.ref b1)]
  have f52 := (((f39.ext E36).ext E42).keep K50)
  have f53 := (((R33_0.ext E36).ext E42).keep K50 (ninS ne_b1_b36 nin0))
  have f54 := (((R33_1.ext E36).ext E42).keep K50 (ninS ne_b1_b36 nin0))
  have f55 := (((R33_2.ext E36).ext E42).keep K50 (ninS ne_b1_b36 nin0))
  have f56 := (((VE33.ext E36).ext E42).keep K50 (ninS ne_bE33_b36 nin0))
  have f57 := (f44.keep K50)
  have f59 := (((f39.ext E36).ext E42).keep K50)
  obtain ⟨cq58, kq58, qa58, qb58, qc58⟩ := isOf hZ rfl f59
  obtain ⟨_, _, ⟨T58, L58, k58, n58⟩, -, X58, ⟨Lc58, hQ58, l58, y58, z58⟩, st58⟩ := X50.virtualBack hx (y := mN21) (z := mN21) hown (mvT hZ (hwk hw 114 rfl)) (mvT hZ (hwk hw 115 rfl)) (notFace_of_selects (args := #[]) (mvT hZ (hwk hw 117 rfl))) (mvT hZ (hwk hw 117 rfl)) (mvT hZ (hwk hw 116 rfl)) (by decide) (backOf (W := 0) (rmA11 l Z a0 hw [] b1 bE33 kE33 ((0 : Int32) + (1 : Int32)) b6 b36 T50.heap n0 Z50 f52 lo_b1 f53 f54 f55 f56 OE33 loq33 ne_b1_bE33 f57) hZ (hwk hw 118 rfl) (hwk hw 11 rfl) (by decide) (by decide)) qa58 qc58 (g := (mkF m 297 #[iv ia, iv ib, iv ic, iv ifr, iv ifm, iv ish, rv pm, rv aO, iv cl, iv p0, iv p1, iv p2, iv w0, iv w1, iv w2, iv k0, iv k1, iv k2, rv b1, .unset, .unset, .unset, .unset, .unset] [(.ref b36), (.ref b1)])) rfl (by rw [hml]; rfl) (Steps.refl _) (argsL := [(.ref b36)]) (rest := []) (lenOf pd__Ljava_lang_Object__Z_79ae rfl) rfl (by show 2 * 0 + _ ≤ _; exact Nat.le_of_eq rfl) (hb hby at_297) (fun _ _ => ⟨rfl, rfl, (by decide : 19 + 0 ≤ 56), (by decide : 83 + 0 ≤ 4416)⟩)
  dsimp only [Pt.U, Pt.locs, Pt.cells, Pt.slots] at X58 l58 y58 z58 st58 hQ58
  subst l58 y58 z58
  obtain ⟨rfl, N58q, K58, R58_0, R58_1, R58_2, VE58⟩ := hQ58
  have hk := Nat.le_trans hk K58.1
  have hR := hR.trans (CHr.keep K58 (sfS (Safe.exa hZ.alike f52 (by decide) (by decide)) (sfS (Safe.arv hZ.alike f56 (by decide)) sf0)) hR.1)
  have Z58 : n0 ≤ T58.heap.size := Nat.le_trans Z50 K58.1
  have N58 := Fr.app N50 N58q
  refine Goes.sts st58 ?_
  show Gs p e below _ T58 m 300 #[iv ia, iv ib, iv ic, iv ifr, iv ifm, iv ish, rv pm, rv aO, iv cl, iv p0, iv p1, iv p2, iv w0, iv w1, iv w2, iv k0, iv k1, iv k2, rv b1, .unset, .unset, .unset, .unset, .unset] [(.int (1 : Int32))]
  refine Goes.st (fun tg kg => XT.pop X58.here hx rfl (hb hby at_300) rfl rfl kg) ?_
  show Gs p e below _ T58 m 301 #[iv ia, iv ib, iv ic, iv ifr, iv ifm, iv ish, rv pm, rv aO, iv cl, iv p0, iv p1, iv p2, iv w0, iv w1, iv w2, iv k0, iv k1, iv k2, rv b1, .unset, .unset, .unset, .unset, .unset] []
  refine gaload X58 hx (hb hby at_301) rfl rfl ?_
  obtain ⟨T61, h61, X61, e61, E61, A61, D61, -, st61⟩ := newO X58 hx hZ hown (hwk hw 35 rfl) (hwk hw 36 rfl) (hwk hw 37 rfl) rfl (g := (mkF m 303 #[iv ia, iv ib, iv ic, iv ifr, iv ifm, iv ish, rv pm, rv aO, iv cl, iv p0, iv p1, iv p2, iv w0, iv w1, iv w2, iv k0, iv k1, iv k2, rv b1, .unset, .unset, .unset, .unset, .unset] [(.ref b1)])) rfl (hb hby at_303) (by decide) (by decide)
  obtain ⟨b61, g61⟩ : ∃ z, z = T58.heap.size := ⟨_, rfl⟩
  rw [← g61] at A61 D61 st61
  have f62 := ((((f37.ext E36).ext E42).keep K50 (ninS ne_dE_b36 nin0)).keep K58 (ninS ne_dE_b1 (ninS ne_dE_bE33 nin0)))
  have ne_dE_b61 : dE ≠ b61 := Nat.ne_of_lt (Nat.lt_of_lt_of_le f62.lt (Nat.le_of_eq g61.symm))
  have f63 := ((((f38.ext E36).ext E42).keep K50 (ninS ne_aO_b36 nin0)).keep K58 (ninS ne_aO_b1 (ninS ne_aO_bE33 nin0)))
  have ne_aO_b61 : aO ≠ b61 := Nat.ne_of_lt (Nat.lt_of_lt_of_le f63.lt (Nat.le_of_eq g61.symm))
  have f64 := (f52.keep K58)
  have ne_b1_b61 : b1 ≠ b61 := Nat.ne_of_lt (Nat.lt_of_lt_of_le f64.lt (Nat.le_of_eq g61.symm))
  have f65 := ((((f40.ext E36).ext E42).keep K50).keep K58)
  have ne_b6_b61 : b6 ≠ b61 := Nat.ne_of_lt (Nat.lt_of_lt_of_le f65.lt (Nat.le_of_eq g61.symm))
  have f66 := (f57.keep K58)
  have ne_b36_b61 : b36 ≠ b61 := Nat.ne_of_lt (Nat.lt_of_lt_of_le f66.lt (Nat.le_of_eq g61.symm))
  have ne_bE33_b61 : bE33 ≠ b61 := Nat.ne_of_lt (Nat.lt_of_lt_of_le VE58.lt (Nat.le_of_eq g61.symm))
  have lo_b61 : n0 ≤ b61 := by have := Z58; omega
  refine Goes.st st61 ?_
  have hk := Nat.le_trans hk E61.1
  have hR := hR.trans (CHr.ext E61 hR.1)
  have Z61 : n0 ≤ h61.size := Nat.le_trans Z58 E61.1
  have F61_id : Fld Z h61 b61 "com/example/redoubt/redoubt/engine/Job" "id" "Ljava/lang/String;" .null := D61 (Or.inr (hwk hw 109 rfl)) (ty := (.object "java/lang/String")) (by decide)
  have F61_procs : Fld Z h61 b61 "com/example/redoubt/redoubt/engine/Job" "procs" "I" (.int (0 : Int32)) := D61 (Or.inr (hwk hw 111 rfl)) (ty := .int) (by decide)
  have F61_time : Fld Z h61 b61 "com/example/redoubt/redoubt/engine/Job" "time" "D" (.double (0 : UInt64)) := D61 (Or.inr (hwk hw 113 rfl)) (ty := .double) (by decide)
  show Gs p e below _ T61 m 306 #[iv ia, iv ib, iv ic, iv ifr, iv ifm, iv ish, rv pm, rv aO, iv cl, iv p0, iv p1, iv p2, iv w0, iv w1, iv w2, iv k0, iv k1, iv k2, rv b1, .unset, .unset, .unset, .unset, .unset] [(.ref b61), (.ref b1)]
  refine gdup X61 hx (hb hby at_306) trivial rfl ?_
  show Gs p e below _ T61 m 307 #[iv ia, iv ib, iv ic, iv ifr, iv ifm, iv ish, rv pm, rv aO, iv cl, iv p0, iv p1, iv p2, iv w0, iv w1, iv w2, iv k0, iv k1, iv k2, rv b1, .unset, .unset, .unset, .unset, .unset] [(.ref b61), (.ref b61), (.ref b1)]
  obtain ⟨b68, T68, h68, kk68, bb68, kb68, X68, e68, E68, hS, hk, hZ, hown, LE68, LC68, LV68, LA68, la68, lb68, hCr68, Li68, hSf68, st68⟩ := ldcCH X61 hx hZ hown (hwk hw 143 rfl) (strW (hwk hw 39 rfl) (hwk hw 40 rfl) (hwk hw 41 rfl) (hwk hw 42 rfl) (hwk hw 43 rfl) (hwk hw 44 rfl) (hwk hw 45 rfl)) e61 hS hk (hELs hw) (by decide) hR.1 (vs := [(.int (99 : Int32))]) (z := (1 : Int32)) (by decide) (by decide) (by decide) (g := (mkF m 307 #[iv ia, iv ib, iv ic, iv ifr, iv ifm, iv ish, rv pm, rv aO, iv cl, iv p0, iv p1, iv p2, iv w0, iv w1, iv w2, iv k0, iv k1, iv k2, rv b1, .unset, .unset, .unset, .unset, .unset] [(.ref b61), (.ref b61), (.ref b1)])) rfl (hb hby at_307) (n := 4) (by decide) (by decide) (by decide) (by decide)
  have hR := hR.trans hCr68
  refine Goes.st st68 ?_
  have Z68 : n0 ≤ h68.size := Nat.le_trans Z61 E68.1
  show Gs p e below _ T68 m 309 #[iv ia, iv ib, iv ic, iv ifr, iv ifm, iv ish, rv pm, rv aO, iv cl, iv p0, iv p1, iv p2, iv w0, iv w1, iv w2, iv k0, iv k1, iv k2, rv b1, .unset, .unset, .unset, .unset, .unset] [(.ref b68), (.ref b61), (.ref b61), (.ref b1)]
  refine giload X68 hx (hb hby at_309) rfl ?_
  refine Goes.st (fun tg kg => XS.dconst1 X68.here hx rfl (hb hby at_311) (v := FP.dconst1) rfl kg) ?_
  have f70 := (A61.ext E68)
  have f71 := (F61_id.ext E68)
  have f72 := (F61_procs.ext E68)
  have f73 := (F61_time.ext E68)
  have f74 := ((((f48.kept K50 (nsS (Exa.nostat f44) ns0)).kept K58 (nsS (Exa.nostat f52) (nsS (Arv.nostat f56) ns0))).ext E61).ext E68)
  have f75 := ((((f49.kept K50 (nsS (Exa.nostat f44) ns0)).kept K58 (nsS (Exa.nostat f52) (nsS (Arv.nostat f56) ns0))).ext E61).ext E68)
  obtain ⟨_, _, ⟨T76, L76, k76, n76⟩, -, X76, hS76, hg76, ⟨Lc76, hQ76, l76, y76, z76, hCr76⟩, st76⟩ := X68.specialBackS hx (y := mN17) rfl hown (mvT hZ (hwk hw 46 rfl)) (mvT hZ (hwk hw 47 rfl)) (mvT hZ (hwk hw 48 rfl)) (by decide) (backOfSH (W := 2) (rmJo l Z a0 hw [] b61 b68 bb68 kb68 (99 : Int32) p2 cs fm h68 n0 Z68 f70 lo_b61 f71 f72 f73 f74 hcs LE68 LV68 LC68 LA68 f75 hfm (by decide) (by decide) (by decide) (by decide) hq2) hZ (hwk hw 48 rfl) (hwk hw 37 rfl) (by decide) (by decide) (hELs hw) hR.1) (g := (mkF m 312 #[iv ia, iv ib, iv ic, iv ifr, iv ifm, iv ish, rv pm, rv aO, iv cl, iv p0, iv p1, iv p2, iv w0, iv w1, iv w2, iv k0, iv k1, iv k2, rv b1, .unset, .unset, .unset, .unset, .unset] [(.double FP.dconst1), (.int p2), (.ref b68), (.ref b61), (.ref b61), (.ref b1)])) rfl (by rw [hml]; rfl) (Steps.refl _) (a := b61) (argsL := [(.ref b68), (.int p2), (.double FP.dconst1)]) (rest := [(.ref b61), (.ref b1)]) (lenOf pd__Ljava_lang_String_ID_V_8b4f rfl) rfl (by show 2 * 0 + _ ≤ _; exact Nat.le_of_eq rfl) (hb hby at_312) (fun _ _ => ⟨rfl, e68, (by decide : 22 + 2 ≤ 56), (by decide : 94 + 12 ≤ 4416)⟩)
  dsimp only [Pt.U, Pt.locs, Pt.cells, Pt.slots] at X76 l76 y76 z76 st76 hQ76 hS76 hg76 hCr76
  subst l76 y76 z76
  obtain ⟨X76, hS, hZ, hown⟩ := rebS hS (by rw [e68]; exact hk) X76 hS76 hg76 hZ hown
  have hk := Nat.le_refl T76.heap.size
  have hR := hR.trans hCr76
  obtain ⟨rfl, N76q, K76, R76_0, R76_1⟩ := hQ76
  have Z76 : n0 ≤ T76.heap.size := Nat.le_trans Z68 K76.1
  have N76 := Fr.app N58 N76q
  refine Goes.sts st76 ?_
  show Gs p e below _ T76 m 315 #[iv ia, iv ib, iv ic, iv ifr, iv ifm, iv ish, rv pm, rv aO, iv cl, iv p0, iv p1, iv p2, iv w0, iv w1, iv w2, iv k0, iv k1, iv k2, rv b1, .unset, .unset, .unset, .unset, .unset] [(.ref b61), (.ref b1)]
  have f78 := (((f64.ext E61).ext E68).keep K76)
  have f79 := (((R58_0.ext E61).ext E68).keep K76 (ninS ne_b1_b61 nin0))
  have f80 := (((R58_1.ext E61).ext E68).keep K76 (ninS ne_b1_b61 nin0))
  have f81 := (((R58_2.ext E61).ext E68).keep K76 (ninS ne_b1_b61 nin0))
  have f82 := (((VE58.ext E61).ext E68).keep K76 (ninS ne_bE33_b61 nin0))
  have f83 := (f70.keep K76)
  have f85 := (((f64.ext E61).ext E68).keep K76)
  obtain ⟨cq84, kq84, qa84, qb84, qc84⟩ := isOf hZ rfl f85
  obtain ⟨_, _, ⟨T84, L84, k84, n84⟩, -, X84, ⟨Lc84, hQ84, l84, y84, z84⟩, st84⟩ := X76.virtualBack hx (y := mN21) (z := mN21) hown (mvT hZ (hwk hw 114 rfl)) (mvT hZ (hwk hw 115 rfl)) (notFace_of_selects (args := #[]) (mvT hZ (hwk hw 117 rfl))) (mvT hZ (hwk hw 117 rfl)) (mvT hZ (hwk hw 116 rfl)) (by decide) (backOf (W := 0) (rmA12 l Z a0 hw [] b1 bE33 kE33 (((0 : Int32) + (1 : Int32)) + (1 : Int32)) b6 b36 b61 T76.heap n0 Z76 f78 lo_b1 f79 f80 f81 f82 OE33 loq33 ne_b1_bE33 f83) hZ (hwk hw 118 rfl) (hwk hw 11 rfl) (by decide) (by decide)) qa84 qc84 (g := (mkF m 315 #[iv ia, iv ib, iv ic, iv ifr, iv ifm, iv ish, rv pm, rv aO, iv cl, iv p0, iv p1, iv p2, iv w0, iv w1, iv w2, iv k0, iv k1, iv k2, rv b1, .unset, .unset, .unset, .unset, .unset] [(.ref b61), (.ref b1)])) rfl (by rw [hml]; rfl) (Steps.refl _) (argsL := [(.ref b61)]) (rest := []) (lenOf pd__Ljava_lang_Object__Z_79ae rfl) rfl (by show 2 * 0 + _ ≤ _; exact Nat.le_of_eq rfl) (hb hby at_315) (fun _ _ => ⟨rfl, rfl, (by decide : 24 + 0 ≤ 56), (by decide : 106 + 0 ≤ 4416)⟩)
  dsimp only [Pt.U, Pt.locs, Pt.cells, Pt.slots] at X84 l84 y84 z84 st84 hQ84
  subst l84 y84 z84
  obtain ⟨rfl, N84q, K84, R84_0, R84_1, R84_2, VE84⟩ := hQ84
  have hk := Nat.le_trans hk K84.1
  have hR := hR.trans (CHr.keep K84 (sfS (Safe.exa hZ.alike f78 (by decide) (by decide)) (sfS (Safe.arv hZ.alike f82 (by decide)) sf0)) hR.1)
  have Z84 : n0 ≤ T84.heap.size := Nat.le_trans Z76 K84.1
  have N84 := Fr.app N76 N84q
  refine Goes.sts st84 ?_
  show Gs p e below _ T84 m 318 #[iv ia, iv ib, iv ic, iv ifr, iv ifm, iv ish, rv pm, rv aO, iv cl, iv p0, iv p1, iv p2, iv w0, iv w1, iv w2, iv k0, iv k1, iv k2, rv b1, .unset, .unset, .unset, .unset, .unset] [(.int (1 : Int32))]
  refine Goes.st (fun tg kg => XT.pop X84.here hx rfl (hb hby at_318) rfl rfl kg) ?_
  show Gs p e below _ T84 m 319 #[iv ia, iv ib, iv ic, iv ifr, iv ifm, iv ish, rv pm, rv aO, iv cl, iv p0, iv p1, iv p2, iv w0, iv w1, iv w2, iv k0, iv k1, iv k2, rv b1, .unset, .unset, .unset, .unset, .unset] []
  obtain ⟨T87, h87, X87, e87, E87, A87, D87, -, st87⟩ := newO X84 hx hZ hown (hwk hw 144 rfl) (hwk hw 145 rfl) (hwk hw 146 rfl) rfl (g := (mkF m 319 #[iv ia, iv ib, iv ic, iv ifr, iv ifm, iv ish, rv pm, rv aO, iv cl, iv p0, iv p1, iv p2, iv w0, iv w1, iv w2, iv k0, iv k1, iv k2, rv b1, .unset, .unset, .unset, .unset, .unset] [])) rfl (hb hby at_319) (by decide) (by decide)
  obtain ⟨b87, g87⟩ : ∃ z, z = T84.heap.size := ⟨_, rfl⟩
  rw [← g87] at A87 D87 st87
  have f88 := ((((f62.ext E61).ext E68).keep K76 (ninS ne_dE_b61 nin0)).keep K84 (ninS ne_dE_b1 (ninS ne_dE_bE33 nin0)))
  have ne_dE_b87 : dE ≠ b87 := Nat.ne_of_lt (Nat.lt_of_lt_of_le f88.lt (Nat.le_of_eq g87.symm))
  have f89 := ((((f63.ext E61).ext E68).keep K76 (ninS ne_aO_b61 nin0)).keep K84 (ninS ne_aO_b1 (ninS ne_aO_bE33 nin0)))
  have ne_aO_b87 : aO ≠ b87 := Nat.ne_of_lt (Nat.lt_of_lt_of_le f89.lt (Nat.le_of_eq g87.symm))
  have f90 := (f78.keep K84)
  have ne_b1_b87 : b1 ≠ b87 := Nat.ne_of_lt (Nat.lt_of_lt_of_le f90.lt (Nat.le_of_eq g87.symm))
  have f91 := ((((f65.ext E61).ext E68).keep K76).keep K84)
  have ne_b6_b87 : b6 ≠ b87 := Nat.ne_of_lt (Nat.lt_of_lt_of_le f91.lt (Nat.le_of_eq g87.symm))
  have f92 := ((((f66.ext E61).ext E68).keep K76).keep K84)
  have ne_b36_b87 : b36 ≠ b87 := Nat.ne_of_lt (Nat.lt_of_lt_of_le f92.lt (Nat.le_of_eq g87.symm))
  have f93 := (f83.keep K84)
  have ne_b61_b87 : b61 ≠ b87 := Nat.ne_of_lt (Nat.lt_of_lt_of_le f93.lt (Nat.le_of_eq g87.symm))
  have ne_bE33_b87 : bE33 ≠ b87 := Nat.ne_of_lt (Nat.lt_of_lt_of_le VE84.lt (Nat.le_of_eq g87.symm))
  have lo_b87 : n0 ≤ b87 := by have := Z84; omega
  refine Goes.st st87 ?_
  have hk := Nat.le_trans hk E87.1
  have hR := hR.trans (CHr.ext E87 hR.1)
  have Z87 : n0 ≤ h87.size := Nat.le_trans Z84 E87.1
  have F87_stale : Fld Z h87 b87 "com/example/redoubt/redoubt/policies/FirstFitQueue" "stale" "[I" .null := D87 (Or.inl (hwk hw 152 rfl)) (ty := (.array .int)) (by decide)
  have F87_order : Fld Z h87 b87 "com/example/redoubt/redoubt/policies/FirstFitQueue" "order" "[I" .null := D87 (Or.inr (hwk hw 154 rfl)) (ty := (.array .int)) (by decide)
  have F87_rankOf : Fld Z h87 b87 "com/example/redoubt/redoubt/policies/FirstFitQueue" "rankOf" "[I" .null := D87 (Or.inr (hwk hw 156 rfl)) (ty := (.array .int)) (by decide)
  have F87_procs : Fld Z h87 b87 "com/example/redoubt/redoubt/policies/FirstFitQueue" "procs" "[I" .null := D87 (Or.inr (hwk hw 158 rfl)) (ty := (.array .int)) (by decide)
  have F87_times : Fld Z h87 b87 "com/example/redoubt/redoubt/policies/FirstFitQueue" "times" "[D" .null := D87 (Or.inr (hwk hw 161 rfl)) (ty := (.array .double)) (by decide)
  have F87_places : Fld Z h87 b87 "com/example/redoubt/redoubt/policies/FirstFitQueue" "places" "I" (.int (0 : Int32)) := D87 (Or.inr (hwk hw 193 rfl)) (ty := .int) (by decide)
  have F87_leaves : Fld Z h87 b87 "com/example/redoubt/redoubt/policies/FirstFitQueue" "leaves" "I" (.int (0 : Int32)) := D87 (Or.inr (hwk hw 195 rfl)) (ty := .int) (by decide)
  have F87_fewest : Fld Z h87 b87 "com/example/redoubt/redoubt/policies/FirstFitQueue" "fewest" "[I" .null := D87 (Or.inr (hwk hw 197 rfl)) (ty := (.array .int)) (by decide)
  have F87_shortest : Fld Z h87 b87 "com/example/redoubt/redoubt/policies/FirstFitQueue" "shortest" "[D" .null := D87 (Or.inl (hwk hw 222 rfl)) (ty := (.array .double)) (by decide)
  show Gs p e below _ T87 m 322 #[iv ia, iv ib, iv ic, iv ifr, iv ifm, iv ish, rv pm, rv aO, iv cl, iv p0, iv p1, iv p2, iv w0, iv w1, iv w2, iv k0, iv k1, iv k2, rv b1, .unset, .unset, .unset, .unset, .unset] [(.ref b87)]
  refine gdup X87 hx (hb hby at_322) trivial rfl ?_
  refine gaload X87 hx (hb hby at_323) rfl rfl ?_
  refine gaload X87 hx (hb hby at_325) rfl rfl ?_
  refine giload X87 hx (hb hby at_327) rfl ?_
  have f95 := (f90.ext E87)
  have f96 := (R84_2.ext E87)
  have f97 := (R84_1.ext E87)
  have f98 := (VE84.ext E87)
  have f99 := (f91.ext E87)
  have f100 := (f92.ext E87)
  have f101 := (f93.ext E87)
  have f102 := ((((((((((R19_0.keep K33 (ninS (Ne.symm ne_b1_b6) nin0)).ext E36).ext E42).keep K50 (ninS ne_b6_b36 nin0)).keep K58 (ninS (Ne.symm ne_b1_b6) (ninS ne_b6_bE33 nin0))).ext E61).ext E68).keep K76 (ninS ne_b6_b61 nin0)).keep K84 (ninS (Ne.symm ne_b1_b6) (ninS ne_b6_bE33 nin0))).ext E87)
  have f103 := ((((((R50_0.keep K58 (ninS (Ne.symm ne_b1_b36) (ninS (Ne.symm ne_bE33_b36) nin0))).ext E61).ext E68).keep K76 (ninS ne_b36_b61 nin0)).keep K84 (ninS (Ne.symm ne_b1_b36) (ninS (Ne.symm ne_bE33_b36) nin0))).ext E87)
  have f104 := ((R76_0.keep K84 (ninS (Ne.symm ne_b1_b61) (ninS (Ne.symm ne_bE33_b61) nin0))).ext E87)
  have f105 := ((((((((((R19_1.keep K33 (ninS (Ne.symm ne_b1_b6) nin0)).ext E36).ext E42).keep K50 (ninS ne_b6_b36 nin0)).keep K58 (ninS (Ne.symm ne_b1_b6) (ninS ne_b6_bE33 nin0))).ext E61).ext E68).keep K76 (ninS ne_b6_b61 nin0)).keep K84 (ninS (Ne.symm ne_b1_b6) (ninS ne_b6_bE33 nin0))).ext E87)
  have f106 := ((((((R50_1.keep K58 (ninS (Ne.symm ne_b1_b36) (ninS (Ne.symm ne_bE33_b36) nin0))).ext E61).ext E68).keep K76 (ninS ne_b36_b61 nin0)).keep K84 (ninS (Ne.symm ne_b1_b36) (ninS (Ne.symm ne_bE33_b36) nin0))).ext E87)
  have f107 := ((R76_1.keep K84 (ninS (Ne.symm ne_b1_b61) (ninS (Ne.symm ne_bE33_b61) nin0))).ext E87)
  have f108 := (f89.ext E87)
  have lt109 : b87 < h87.size := A87.lt
  have lt110 : aO < h87.size := f108.lt
  obtain ⟨_, _, ⟨T111, L111, k111, n111⟩, -, X111, ⟨Lc111, hQ111, l111, y111, z111⟩, st111⟩ := X87.specialBack hx (y := mN29) rfl hown (mvT hZ (hwk hw 147 rfl)) (mvT hZ (hwk hw 148 rfl)) (mvT hZ (hwk hw 149 rfl)) (by decide) (backOf (W := 1) (rmIn l Z a0 hw [] b87 b1 bE33 b6 b36 b61 aO kE33 kO cl o0 o1 o2 p0 p1 p2 h87 n0 Z87 A87 lo_b87 F87_stale F87_order F87_rankOf F87_procs F87_times F87_places F87_leaves F87_fewest F87_shortest f95 f96 f97 f98 f99 f100 f101 f102 f103 f104 f105 f106 f107 f108 hp (Ne.symm ne_b1_b87) (Ne.symm ne_bE33_b87) (Ne.symm ne_b6_b87) (Ne.symm ne_b36_b87) (Ne.symm ne_b61_b87) (Ne.symm ne_aO_b87) (hcl.elim (fun q => Or.inl q.1) (fun q => Or.inr q.1))) hZ (hwk hw 149 rfl) (hwk hw 146 rfl) (by decide) (by decide)) (g := (mkF m 329 #[iv ia, iv ib, iv ic, iv ifr, iv ifm, iv ish, rv pm, rv aO, iv cl, iv p0, iv p1, iv p2, iv w0, iv w1, iv w2, iv k0, iv k1, iv k2, rv b1, .unset, .unset, .unset, .unset, .unset] [(.int cl), (.ref aO), (.ref b1), (.ref b87), (.ref b87)])) rfl (by rw [hml]; rfl) (Steps.refl _) (a := b87) (argsL := [(.ref b1), (.ref aO), (.int cl)]) (rest := [(.ref b87)]) (lenOf pd__Ljava_util_List__II_V_8093 rfl) rfl (by show 2 * 0 + _ ≤ _; exact Nat.le_of_eq rfl) (hb hby at_329) (fun _ _ => ⟨rfl, e87, (by decide : 25 + 5 ≤ 56), (by decide : 117 + 41 ≤ 4416)⟩)
  dsimp only [Pt.U, Pt.locs, Pt.cells, Pt.slots] at X111 l111 y111 z111 st111 hQ111
  subst l111 y111 z111
  obtain ⟨aR, aP, aF, kR, kP, kF, rfl, N111q, K111, szR, szP, szF, lF, nFR, nFP, I_0, I_1, I_2, I_3, I_4, I_5, VR, VP, VF⟩ := hQ111
  have hk := Nat.le_trans hk K111.1
  have hR := hR.trans (CHr.keep K111 (sfS (Safe.exa hZ.alike A87 (by decide) (by decide)) sf0) hR.1)
  have Z111 : n0 ≤ T111.heap.size := Nat.le_trans Z87 K111.1
  have naF : b87 ≠ aF := Nat.ne_of_lt (Nat.lt_of_lt_of_le lt109 szF)
  have nOF : aO ≠ aF := Nat.ne_of_lt (Nat.lt_of_lt_of_le lt110 szF)
  have N111 := Fr.app N84 N111q
  refine Goes.sts st111 ?_
  show Gs p e below _ T111 m 332 #[iv ia, iv ib, iv ic, iv ifr, iv ifm, iv ish, rv pm, rv aO, iv cl, iv p0, iv p1, iv p2, iv w0, iv w1, iv w2, iv k0, iv k1, iv k2, rv b1, .unset, .unset, .unset, .unset, .unset] [(.ref b87)]
  refine gastore X111 hx (hb hby at_332) trivial rfl (l' := #[iv ia, iv ib, iv ic, iv ifr, iv ifm, iv ish, rv pm, rv aO, iv cl, iv p0, iv p1, iv p2, iv w0, iv w1, iv w2, iv k0, iv k1, iv k2, rv b1, rv b87, .unset, .unset, .unset, .unset]) rfl ?_
  show Gs p e below _ T111 m 334 #[iv ia, iv ib, iv ic, iv ifr, iv ifm, iv ish, rv pm, rv aO, iv cl, iv p0, iv p1, iv p2, iv w0, iv w1, iv w2, iv k0, iv k1, iv k2, rv b1, rv b87, .unset, .unset, .unset, .unset] []
  have f113 := (A87.keep K111)
  have f114 := (f108.keep K111 (ninS ne_aO_b87 nin0))
  rcases hcl with ⟨rfl, rfl, rfl, rfl⟩ | ⟨rfl, hk0, hk1, hk2⟩
  · exact Seg334_4 Z a0 hw hx hby hlk hret hml hnm _ _ hS hown hZ ia ib ic ifr ifm ish pm aO b1 b87 aR aP aF kO kR kP kF o0 o1 o2 p0 p1 p2 w0 w1 w2 (2147483647 : Int32) (2147483647 : Int32) (2147483647 : Int32) h0 T111.heap n0 T111 _ (X111.more (by decide : 30 ≤ 56) (by decide : 158 ≤ 4416)) rfl N111 Z111 hk f113 I_0 f114 I_1 VR I_2 VP I_3 I_4 I_5 VF lF naF (Ne.symm nFP) nOF (Ne.symm nFR) hp rfl rfl rfl
  · exact Seg334_8 Z a0 hw hx hby hlk hret hml hnm _ _ hS hown hZ ia ib ic ifr ifm ish pm aO b1 b87 aR aP aF kO kR kP kF o0 o1 o2 p0 p1 p2 w0 w1 w2 k0 k1 k2 (2147483647 : Int32) (2147483647 : Int32) (2147483647 : Int32) (2147483647 : Int32) (2147483647 : Int32) (2147483647 : Int32) h0 T111.heap n0 T111 _ (X111.more (by decide : 30 ≤ 56) (by decide : 158 ≤ 4416)) rfl N111 Z111 hk f113 I_0 f114 I_1 VR I_2 VP I_3 I_4 I_5 VF lF naF (Ne.symm nFP) nOF (Ne.symm nFR) hp hk0 hk1 hk2 rfl rfl rfl rfl rfl rfl
set_option maxRecDepth 65536 in
set_option maxHeartbeats 40000000 in
theorem Seg128 {p : Program} {l : Launch} {e : Env} {s : State} {m : MethodId} {args : Array Value} {below : List Frame} {meth : Method} {c : Code}  (Z : State) (a0 : Array Value) (hw : ∀ d ∈ tables_1, d.before a0 Z = true) (hx : p.tables.exec = Jvm.exec) (hby : c.code = code) (hlk : meth.locks = false) (hret : meth.sig.returnType = some .boolean) (hml : c.maxLocals = 24) (hnm : meth.name = "law") (vm0 : Vm) (kS0 : Nat) (hS : s.Since vm0 kS0) (hown : (s.setVm vm0).vm.findClass "com/example/redoubt/redoubt/policies/FirstFitQueueFirstFittingPinLaw" = some m.cls) (hZ : Z.Warmed39 (s.setVm vm0).vm) (ia ib ic ifr ifm ish : Int32) (pm aO : Addr) (kO : ClassId) (o0 o1 o2 : Int32) (dE : Addr) (kD : ClassId) (cs : Int32) (fm : Value) (h0 hh : Heap) (n0 : Nat) (T0 : State) (locs0 : List Loc) (X0 : Stand p l e room_1 (s.setVm vm0) m args below meth c T0 locs0 7 24) (e0 : T0.heap = hh) (N0 : Fr n0 locs0) (Z0 : n0 ≤ hh.size) (hk : kS0 ≤ hh.size) (hH : CHv Z ELs vm0 hh) (Scs : Sta Z hh "java/lang/String" "COMPACT_STRINGS" "Z" (.int cs)) (hcs : ¬ cs = (0 : Int32)) (Sfm : Sta Z hh "jdk/internal/util/Preconditions" "SIOOBE_FORMATTER" "Ljava/util/function/BiFunction;" fm) (hfm : fm.isRef = true) (Sde : Sta Z hh "java/util/ArrayList" "DEFAULTCAPACITY_EMPTY_ELEMENTDATA" "[Ljava/lang/Object;" (.ref dE)) (Ade : Arv Z hh dE kD (.object "java/lang/Object") (0 : Int32) [] .null) (Ao : Arv Z hh aO kO .int (3 : Int32) [(.int o0), (.int o1), (.int o2)] (.int (0 : Int32))) (hp : Perm3 o0 o1 o2) :
    Goes p e below (EV s (QLw Z h0 n0) 56 4416) (T0.setTop (mkF m 128 #[iv ia, iv ib, iv ic, iv ifr, iv ifm, iv ish, rv pm, rv aO, .unset, .unset, .unset, .unset, .unset, .unset, .unset, .unset, .unset, .unset, .unset, .unset, .unset, .unset, .unset, .unset] [])) := by
  have hR := CHr.refl hH
  show Gs p e below _ T0 m 128 #[iv ia, iv ib, iv ic, iv ifr, iv ifm, iv ish, rv pm, rv aO, .unset, .unset, .unset, .unset, .unset, .unset, .unset, .unset, .unset, .unset, .unset, .unset, .unset, .unset, .unset, .unset] []
  refine giconst X0 hx (hb hby at_128) ?_
  refine giload X0 hx (hb hby at_129) rfl ?_
  refine Goes.st (fun tg kg => XS.bipush X0.here hx rfl (hb hby at_131) kg) ?_
  refine Goes.st (fun tg kg => XT.iushr X0.here hx rfl (hb hby at_133) rfl kg) ?_
  show Gs p e below _ T0 m 134 #[iv ia, iv ib, iv ic, iv ifr, iv ifm, iv ish, rv pm, rv aO, .unset, .unset, .unset, .unset, .unset, .unset, .unset, .unset, .unset, .unset, .unset, .unset, .unset, .unset, .unset, .unset] [(.int (XT.ushr ish (8 : Int32))), (.int (1 : Int32))]
  refine giconst X0 hx (hb hby at_134) ?_
  refine giand X0 hx (hb hby at_135) trivial ?_
  show Gs p e below _ T0 m 136 #[iv ia, iv ib, iv ic, iv ifr, iv ifm, iv ish, rv pm, rv aO, .unset, .unset, .unset, .unset, .unset, .unset, .unset, .unset, .unset, .unset, .unset, .unset, .unset, .unset, .unset, .unset] [(.int ((XT.ushr ish (8 : Int32)) &&& (1 : Int32))), (.int (1 : Int32))]
  rcases own_and1 (XT.ushr ish (8 : Int32)) with qc | qc
  · rw [qc]
    show Gs p e below _ T0 m 136 #[iv ia, iv ib, iv ic, iv ifr, iv ifm, iv ish, rv pm, rv aO, .unset, .unset, .unset, .unset, .unset, .unset, .unset, .unset, .unset, .unset, .unset, .unset, .unset, .unset, .unset, .unset] [(.int (0 : Int32)), (.int (1 : Int32))]
    refine giadd X0 hx (hb hby at_136) trivial ?_
    show Gs p e below _ T0 m 137 #[iv ia, iv ib, iv ic, iv ifr, iv ifm, iv ish, rv pm, rv aO, .unset, .unset, .unset, .unset, .unset, .unset, .unset, .unset, .unset, .unset, .unset, .unset, .unset, .unset, .unset, .unset] [(.int ((1 : Int32) + (0 : Int32)))]
    rw [show ((1 : Int32) + (0 : Int32)) = (1 : Int32) from by decide]
    show Gs p e below _ T0 m 137 #[iv ia, iv ib, iv ic, iv ifr, iv ifm, iv ish, rv pm, rv aO, .unset, .unset, .unset, .unset, .unset, .unset, .unset, .unset, .unset, .unset, .unset, .unset, .unset, .unset, .unset, .unset] [(.int (1 : Int32))]
    refine gistore X0 hx (hb hby at_137) trivial (l' := #[iv ia, iv ib, iv ic, iv ifr, iv ifm, iv ish, rv pm, rv aO, iv (1 : Int32), .unset, .unset, .unset, .unset, .unset, .unset, .unset, .unset, .unset, .unset, .unset, .unset, .unset, .unset, .unset]) rfl ?_
    refine giconst X0 hx (hb hby at_139) ?_
    refine giloadN X0 hx (hb hby at_140) rfl ?_
    refine giconst X0 hx (hb hby at_141) ?_
    refine Goes.st (fun tg kg => XT.iushr X0.here hx rfl (hb hby at_142) rfl kg) ?_
    show Gs p e below _ T0 m 143 #[iv ia, iv ib, iv ic, iv ifr, iv ifm, iv ish, rv pm, rv aO, iv (1 : Int32), .unset, .unset, .unset, .unset, .unset, .unset, .unset, .unset, .unset, .unset, .unset, .unset, .unset, .unset, .unset] [(.int (XT.ushr ia (2 : Int32))), (.int (1 : Int32))]
    obtain ⟨_, _, ⟨T1, L1, k1, n1⟩, -, X1, ⟨Lc1, hQ1, l1, y1, z1⟩, st1⟩ := Jvm.LawKit.callS X0 hx (y := mN0) hown (mvT hZ (hwk hw 5 rfl)) (mvT hZ (hwk hw 6 rfl)) (mvT hZ (hwk hw 7 rfl)) (mvT hZ (hwk hw 8 rfl)) (by decide) (backOf (W := 0) (rmMx l Z a0 hw [] (1 : Int32) (XT.ushr ia (2 : Int32)) hh n0 Z0 ) hZ (hwk hw 8 rfl) (hwk hw 7 rfl) (by decide) (by decide)) (g := (mkF m 143 #[iv ia, iv ib, iv ic, iv ifr, iv ifm, iv ish, rv pm, rv aO, iv (1 : Int32), .unset, .unset, .unset, .unset, .unset, .unset, .unset, .unset, .unset, .unset, .unset, .unset, .unset, .unset, .unset] [(.int (XT.ushr ia (2 : Int32))), (.int (1 : Int32))])) rfl (by rw [hml]; rfl) (argsL := [(.int (1 : Int32)), (.int (XT.ushr ia (2 : Int32)))]) (rest := []) (lenOf pd__II_I_aae rfl) rfl (by show 2 * 0 + _ ≤ _; exact Nat.le_of_eq rfl) (hb hby at_143) (fun _ _ => ⟨rfl, e0, (by decide : 7 + 0 ≤ 56), (by decide : 24 + 0 ≤ 4416)⟩)
    dsimp only [Pt.U, Pt.locs, Pt.cells, Pt.slots] at X1 l1 y1 z1 st1 hQ1
    subst l1 y1 z1
    obtain ⟨rfl, N1q, eh1⟩ := hQ1
    have N1 := Fr.app N0 N1q
    refine Goes.st st1 ?_
    show Gs p e below _ T1 m 146 #[iv ia, iv ib, iv ic, iv ifr, iv ifm, iv ish, rv pm, rv aO, iv (1 : Int32), .unset, .unset, .unset, .unset, .unset, .unset, .unset, .unset, .unset, .unset, .unset, .unset, .unset, .unset, .unset] [(.int (imax (1 : Int32) (XT.ushr ia (2 : Int32))))]
    obtain ⟨p0, p0_eq⟩ : ∃ z : Int32, z = (imax (1 : Int32) (XT.ushr ia (2 : Int32))) := ⟨_, rfl⟩
    rw [← p0_eq]
    show Gs p e below _ T1 m 146 #[iv ia, iv ib, iv ic, iv ifr, iv ifm, iv ish, rv pm, rv aO, iv (1 : Int32), .unset, .unset, .unset, .unset, .unset, .unset, .unset, .unset, .unset, .unset, .unset, .unset, .unset, .unset, .unset] [(.int p0)]
    have hq0 : ¬ p0 < (1 : Int32) := by rw [p0_eq]; exact own_imax1 _
    refine gistore X1 hx (hb hby at_146) trivial (l' := #[iv ia, iv ib, iv ic, iv ifr, iv ifm, iv ish, rv pm, rv aO, iv (1 : Int32), iv p0, .unset, .unset, .unset, .unset, .unset, .unset, .unset, .unset, .unset, .unset, .unset, .unset, .unset, .unset]) rfl ?_
    refine giconst X1 hx (hb hby at_148) ?_
    refine giloadN X1 hx (hb hby at_149) rfl ?_
    refine giconst X1 hx (hb hby at_150) ?_
    refine Goes.st (fun tg kg => XT.iushr X1.here hx rfl (hb hby at_151) rfl kg) ?_
    show Gs p e below _ T1 m 152 #[iv ia, iv ib, iv ic, iv ifr, iv ifm, iv ish, rv pm, rv aO, iv (1 : Int32), iv p0, .unset, .unset, .unset, .unset, .unset, .unset, .unset, .unset, .unset, .unset, .unset, .unset, .unset, .unset] [(.int (XT.ushr ib (2 : Int32))), (.int (1 : Int32))]
    obtain ⟨_, _, ⟨T2, L2, k2, n2⟩, -, X2, ⟨Lc2, hQ2, l2, y2, z2⟩, st2⟩ := Jvm.LawKit.callS X1 hx (y := mN0) hown (mvT hZ (hwk hw 5 rfl)) (mvT hZ (hwk hw 6 rfl)) (mvT hZ (hwk hw 7 rfl)) (mvT hZ (hwk hw 8 rfl)) (by decide) (backOf (W := 0) (rmMx l Z a0 hw [] (1 : Int32) (XT.ushr ib (2 : Int32)) hh n0 Z0 ) hZ (hwk hw 8 rfl) (hwk hw 7 rfl) (by decide) (by decide)) (g := (mkF m 152 #[iv ia, iv ib, iv ic, iv ifr, iv ifm, iv ish, rv pm, rv aO, iv (1 : Int32), iv p0, .unset, .unset, .unset, .unset, .unset, .unset, .unset, .unset, .unset, .unset, .unset, .unset, .unset, .unset] [(.int (XT.ushr ib (2 : Int32))), (.int (1 : Int32))])) rfl (by rw [hml]; rfl) (argsL := [(.int (1 : Int32)), (.int (XT.ushr ib (2 : Int32)))]) (rest := []) (lenOf pd__II_I_aae rfl) rfl (by show 2 * 0 + _ ≤ _; exact Nat.le_of_eq rfl) (hb hby at_152) (fun _ _ => ⟨rfl, eh1, (by decide : 7 + 0 ≤ 56), (by decide : 24 + 0 ≤ 4416)⟩)
    dsimp only [Pt.U, Pt.locs, Pt.cells, Pt.slots] at X2 l2 y2 z2 st2 hQ2
    subst l2 y2 z2
    obtain ⟨rfl, N2q, eh2⟩ := hQ2
    have N2 := Fr.app N1 N2q
    refine Goes.st st2 ?_
    show Gs p e below _ T2 m 155 #[iv ia, iv ib, iv ic, iv ifr, iv ifm, iv ish, rv pm, rv aO, iv (1 : Int32), iv p0, .unset, .unset, .unset, .unset, .unset, .unset, .unset, .unset, .unset, .unset, .unset, .unset, .unset, .unset] [(.int (imax (1 : Int32) (XT.ushr ib (2 : Int32))))]
    obtain ⟨p1, p1_eq⟩ : ∃ z : Int32, z = (imax (1 : Int32) (XT.ushr ib (2 : Int32))) := ⟨_, rfl⟩
    rw [← p1_eq]
    show Gs p e below _ T2 m 155 #[iv ia, iv ib, iv ic, iv ifr, iv ifm, iv ish, rv pm, rv aO, iv (1 : Int32), iv p0, .unset, .unset, .unset, .unset, .unset, .unset, .unset, .unset, .unset, .unset, .unset, .unset, .unset, .unset] [(.int p1)]
    have hq1 : ¬ p1 < (1 : Int32) := by rw [p1_eq]; exact own_imax1 _
    refine gistore X2 hx (hb hby at_155) trivial (l' := #[iv ia, iv ib, iv ic, iv ifr, iv ifm, iv ish, rv pm, rv aO, iv (1 : Int32), iv p0, iv p1, .unset, .unset, .unset, .unset, .unset, .unset, .unset, .unset, .unset, .unset, .unset, .unset, .unset]) rfl ?_
    refine giconst X2 hx (hb hby at_157) ?_
    refine giloadN X2 hx (hb hby at_158) rfl ?_
    refine giconst X2 hx (hb hby at_159) ?_
    refine Goes.st (fun tg kg => XT.iushr X2.here hx rfl (hb hby at_160) rfl kg) ?_
    show Gs p e below _ T2 m 161 #[iv ia, iv ib, iv ic, iv ifr, iv ifm, iv ish, rv pm, rv aO, iv (1 : Int32), iv p0, iv p1, .unset, .unset, .unset, .unset, .unset, .unset, .unset, .unset, .unset, .unset, .unset, .unset, .unset] [(.int (XT.ushr ic (2 : Int32))), (.int (1 : Int32))]
    obtain ⟨_, _, ⟨T3, L3, k3, n3⟩, -, X3, ⟨Lc3, hQ3, l3, y3, z3⟩, st3⟩ := Jvm.LawKit.callS X2 hx (y := mN0) hown (mvT hZ (hwk hw 5 rfl)) (mvT hZ (hwk hw 6 rfl)) (mvT hZ (hwk hw 7 rfl)) (mvT hZ (hwk hw 8 rfl)) (by decide) (backOf (W := 0) (rmMx l Z a0 hw [] (1 : Int32) (XT.ushr ic (2 : Int32)) hh n0 Z0 ) hZ (hwk hw 8 rfl) (hwk hw 7 rfl) (by decide) (by decide)) (g := (mkF m 161 #[iv ia, iv ib, iv ic, iv ifr, iv ifm, iv ish, rv pm, rv aO, iv (1 : Int32), iv p0, iv p1, .unset, .unset, .unset, .unset, .unset, .unset, .unset, .unset, .unset, .unset, .unset, .unset, .unset] [(.int (XT.ushr ic (2 : Int32))), (.int (1 : Int32))])) rfl (by rw [hml]; rfl) (argsL := [(.int (1 : Int32)), (.int (XT.ushr ic (2 : Int32)))]) (rest := []) (lenOf pd__II_I_aae rfl) rfl (by show 2 * 0 + _ ≤ _; exact Nat.le_of_eq rfl) (hb hby at_161) (fun _ _ => ⟨rfl, eh2, (by decide : 7 + 0 ≤ 56), (by decide : 24 + 0 ≤ 4416)⟩)
    dsimp only [Pt.U, Pt.locs, Pt.cells, Pt.slots] at X3 l3 y3 z3 st3 hQ3
    subst l3 y3 z3
    obtain ⟨rfl, N3q, eh3⟩ := hQ3
    have N3 := Fr.app N2 N3q
    refine Goes.st st3 ?_
    show Gs p e below _ T3 m 164 #[iv ia, iv ib, iv ic, iv ifr, iv ifm, iv ish, rv pm, rv aO, iv (1 : Int32), iv p0, iv p1, .unset, .unset, .unset, .unset, .unset, .unset, .unset, .unset, .unset, .unset, .unset, .unset, .unset] [(.int (imax (1 : Int32) (XT.ushr ic (2 : Int32))))]
    obtain ⟨p2, p2_eq⟩ : ∃ z : Int32, z = (imax (1 : Int32) (XT.ushr ic (2 : Int32))) := ⟨_, rfl⟩
    rw [← p2_eq]
    show Gs p e below _ T3 m 164 #[iv ia, iv ib, iv ic, iv ifr, iv ifm, iv ish, rv pm, rv aO, iv (1 : Int32), iv p0, iv p1, .unset, .unset, .unset, .unset, .unset, .unset, .unset, .unset, .unset, .unset, .unset, .unset, .unset] [(.int p2)]
    have hq2 : ¬ p2 < (1 : Int32) := by rw [p2_eq]; exact own_imax1 _
    refine gistore X3 hx (hb hby at_164) trivial (l' := #[iv ia, iv ib, iv ic, iv ifr, iv ifm, iv ish, rv pm, rv aO, iv (1 : Int32), iv p0, iv p1, iv p2, .unset, .unset, .unset, .unset, .unset, .unset, .unset, .unset, .unset, .unset, .unset, .unset]) rfl ?_
    refine giloadN X3 hx (hb hby at_166) rfl ?_
    refine giconst X3 hx (hb hby at_167) ?_
    refine giand X3 hx (hb hby at_168) trivial ?_
    show Gs p e below _ T3 m 169 #[iv ia, iv ib, iv ic, iv ifr, iv ifm, iv ish, rv pm, rv aO, iv (1 : Int32), iv p0, iv p1, iv p2, .unset, .unset, .unset, .unset, .unset, .unset, .unset, .unset, .unset, .unset, .unset, .unset] [(.int (ia &&& (1 : Int32)))]
    have J4 : ∀ (w0 : Int32), Goes p e below (EV s (QLw Z h0 n0) 56 4416) (T3.setTop (mkF m 177 #[iv ia, iv ib, iv ic, iv ifr, iv ifm, iv ish, rv pm, rv aO, iv (1 : Int32), iv p0, iv p1, iv p2, .unset, .unset, .unset, .unset, .unset, .unset, .unset, .unset, .unset, .unset, .unset, .unset] [(.int w0)])) := by
      intro w0
      show Gs p e below _ T3 m 177 #[iv ia, iv ib, iv ic, iv ifr, iv ifm, iv ish, rv pm, rv aO, iv (1 : Int32), iv p0, iv p1, iv p2, .unset, .unset, .unset, .unset, .unset, .unset, .unset, .unset, .unset, .unset, .unset, .unset] [(.int w0)]
      refine gistore X3 hx (hb hby at_177) trivial (l' := #[iv ia, iv ib, iv ic, iv ifr, iv ifm, iv ish, rv pm, rv aO, iv (1 : Int32), iv p0, iv p1, iv p2, iv w0, .unset, .unset, .unset, .unset, .unset, .unset, .unset, .unset, .unset, .unset, .unset]) rfl ?_
      refine giloadN X3 hx (hb hby at_179) rfl ?_
      refine giconst X3 hx (hb hby at_180) ?_
      refine giand X3 hx (hb hby at_181) trivial ?_
      show Gs p e below _ T3 m 182 #[iv ia, iv ib, iv ic, iv ifr, iv ifm, iv ish, rv pm, rv aO, iv (1 : Int32), iv p0, iv p1, iv p2, iv w0, .unset, .unset, .unset, .unset, .unset, .unset, .unset, .unset, .unset, .unset, .unset] [(.int (ib &&& (1 : Int32)))]
      have J5 : ∀ (w1 : Int32), Goes p e below (EV s (QLw Z h0 n0) 56 4416) (T3.setTop (mkF m 190 #[iv ia, iv ib, iv ic, iv ifr, iv ifm, iv ish, rv pm, rv aO, iv (1 : Int32), iv p0, iv p1, iv p2, iv w0, .unset, .unset, .unset, .unset, .unset, .unset, .unset, .unset, .unset, .unset, .unset] [(.int w1)])) := by
        intro w1
        show Gs p e below _ T3 m 190 #[iv ia, iv ib, iv ic, iv ifr, iv ifm, iv ish, rv pm, rv aO, iv (1 : Int32), iv p0, iv p1, iv p2, iv w0, .unset, .unset, .unset, .unset, .unset, .unset, .unset, .unset, .unset, .unset, .unset] [(.int w1)]
        refine gistore X3 hx (hb hby at_190) trivial (l' := #[iv ia, iv ib, iv ic, iv ifr, iv ifm, iv ish, rv pm, rv aO, iv (1 : Int32), iv p0, iv p1, iv p2, iv w0, iv w1, .unset, .unset, .unset, .unset, .unset, .unset, .unset, .unset, .unset, .unset]) rfl ?_
        refine giloadN X3 hx (hb hby at_192) rfl ?_
        refine giconst X3 hx (hb hby at_193) ?_
        refine giand X3 hx (hb hby at_194) trivial ?_
        show Gs p e below _ T3 m 195 #[iv ia, iv ib, iv ic, iv ifr, iv ifm, iv ish, rv pm, rv aO, iv (1 : Int32), iv p0, iv p1, iv p2, iv w0, iv w1, .unset, .unset, .unset, .unset, .unset, .unset, .unset, .unset, .unset, .unset] [(.int (ic &&& (1 : Int32)))]
        have J6 : ∀ (w2 : Int32), Goes p e below (EV s (QLw Z h0 n0) 56 4416) (T3.setTop (mkF m 203 #[iv ia, iv ib, iv ic, iv ifr, iv ifm, iv ish, rv pm, rv aO, iv (1 : Int32), iv p0, iv p1, iv p2, iv w0, iv w1, .unset, .unset, .unset, .unset, .unset, .unset, .unset, .unset, .unset, .unset] [(.int w2)])) := by
          intro w2
          show Gs p e below _ T3 m 203 #[iv ia, iv ib, iv ic, iv ifr, iv ifm, iv ish, rv pm, rv aO, iv (1 : Int32), iv p0, iv p1, iv p2, iv w0, iv w1, .unset, .unset, .unset, .unset, .unset, .unset, .unset, .unset, .unset, .unset] [(.int w2)]
          refine gistore X3 hx (hb hby at_203) trivial (l' := #[iv ia, iv ib, iv ic, iv ifr, iv ifm, iv ish, rv pm, rv aO, iv (1 : Int32), iv p0, iv p1, iv p2, iv w0, iv w1, iv w2, .unset, .unset, .unset, .unset, .unset, .unset, .unset, .unset, .unset]) rfl ?_
          refine giload X3 hx (hb hby at_205) rfl ?_
          refine giconst X3 hx (hb hby at_207) ?_
          refine gicmpYes X3 hx (pc := 208) (pc' := 219) (hb hby at_208) (by decide) (by decide) (by decide) ?_
          refine giconst X3 hx (hb hby at_219) ?_
          show Gs p e below _ T3 m 220 #[iv ia, iv ib, iv ic, iv ifr, iv ifm, iv ish, rv pm, rv aO, iv (1 : Int32), iv p0, iv p1, iv p2, iv w0, iv w1, iv w2, .unset, .unset, .unset, .unset, .unset, .unset, .unset, .unset, .unset] [(.int (0 : Int32))]
          refine gistore X3 hx (hb hby at_220) trivial (l' := #[iv ia, iv ib, iv ic, iv ifr, iv ifm, iv ish, rv pm, rv aO, iv (1 : Int32), iv p0, iv p1, iv p2, iv w0, iv w1, iv w2, iv (0 : Int32), .unset, .unset, .unset, .unset, .unset, .unset, .unset, .unset]) rfl ?_
          refine giload X3 hx (hb hby at_222) rfl ?_
          refine giconst X3 hx (hb hby at_224) ?_
          refine gicmpYes X3 hx (pc := 225) (pc' := 236) (hb hby at_225) (by decide) (by decide) (by decide) ?_
          refine giconst X3 hx (hb hby at_236) ?_
          show Gs p e below _ T3 m 237 #[iv ia, iv ib, iv ic, iv ifr, iv ifm, iv ish, rv pm, rv aO, iv (1 : Int32), iv p0, iv p1, iv p2, iv w0, iv w1, iv w2, iv (0 : Int32), .unset, .unset, .unset, .unset, .unset, .unset, .unset, .unset] [(.int (0 : Int32))]
          refine gistore X3 hx (hb hby at_237) trivial (l' := #[iv ia, iv ib, iv ic, iv ifr, iv ifm, iv ish, rv pm, rv aO, iv (1 : Int32), iv p0, iv p1, iv p2, iv w0, iv w1, iv w2, iv (0 : Int32), iv (0 : Int32), .unset, .unset, .unset, .unset, .unset, .unset, .unset]) rfl ?_
          refine giload X3 hx (hb hby at_239) rfl ?_
          refine giconst X3 hx (hb hby at_241) ?_
          refine gicmpYes X3 hx (pc := 242) (pc' := 253) (hb hby at_242) (by decide) (by decide) (by decide) ?_
          refine giconst X3 hx (hb hby at_253) ?_
          show Gs p e below _ T3 m 254 #[iv ia, iv ib, iv ic, iv ifr, iv ifm, iv ish, rv pm, rv aO, iv (1 : Int32), iv p0, iv p1, iv p2, iv w0, iv w1, iv w2, iv (0 : Int32), iv (0 : Int32), .unset, .unset, .unset, .unset, .unset, .unset, .unset] [(.int (0 : Int32))]
          refine gistore X3 hx (hb hby at_254) trivial (l' := #[iv ia, iv ib, iv ic, iv ifr, iv ifm, iv ish, rv pm, rv aO, iv (1 : Int32), iv p0, iv p1, iv p2, iv w0, iv w1, iv w2, iv (0 : Int32), iv (0 : Int32), iv (0 : Int32), .unset, .unset, .unset, .unset, .unset, .unset]) rfl ?_
          show Gs p e below _ T3 m 256 #[iv ia, iv ib, iv ic, iv ifr, iv ifm, iv ish, rv pm, rv aO, iv (1 : Int32), iv p0, iv p1, iv p2, iv w0, iv w1, iv w2, iv (0 : Int32), iv (0 : Int32), iv (0 : Int32), .unset, .unset, .unset, .unset, .unset, .unset] []
          exact Seg256 Z a0 hw hx hby hlk hret hml hnm _ _ hS hown hZ ia ib ic ifr ifm ish pm aO kO (1 : Int32) o0 o1 o2 p0 p1 p2 w0 w1 w2 (0 : Int32) (0 : Int32) (0 : Int32) dE kD cs fm h0 hh n0 T3 _ X3 eh3 N3 Z0 hk hR.1 Scs hcs Sfm hfm Sde Ade Ao hp hq0 hq1 hq2 (Or.inl ⟨rfl, rfl, rfl, rfl⟩)
        by_cases c7 : (ic &&& (1 : Int32)) = (0 : Int32)
        · refine gifYes X3 hx (pc := 195) (pc' := 202) (hb hby at_195) ((if0 _ _).trans (teq c7).1) (by decide) (by decide) ?_
          refine giconst X3 hx (hb hby at_202) ?_
          show Gs p e below _ T3 m 203 #[iv ia, iv ib, iv ic, iv ifr, iv ifm, iv ish, rv pm, rv aO, iv (1 : Int32), iv p0, iv p1, iv p2, iv w0, iv w1, .unset, .unset, .unset, .unset, .unset, .unset, .unset, .unset, .unset, .unset] [(.int (0 : Int32))]
          exact J6 _
        · refine gifNo X3 hx (hb hby at_195) ((if0 _ _).trans (feq c7).1) ?_
          refine giconst X3 hx (hb hby at_198) ?_
          refine ggoto X3 hx (pc := 199) (pc' := 203) (hb hby at_199) (by decide) (by decide) ?_
          show Gs p e below _ T3 m 203 #[iv ia, iv ib, iv ic, iv ifr, iv ifm, iv ish, rv pm, rv aO, iv (1 : Int32), iv p0, iv p1, iv p2, iv w0, iv w1, .unset, .unset, .unset, .unset, .unset, .unset, .unset, .unset, .unset, .unset] [(.int (1 : Int32))]
          exact J6 _
      by_cases c8 : (ib &&& (1 : Int32)) = (0 : Int32)
      · refine gifYes X3 hx (pc := 182) (pc' := 189) (hb hby at_182) ((if0 _ _).trans (teq c8).1) (by decide) (by decide) ?_
        refine giconst X3 hx (hb hby at_189) ?_
        show Gs p e below _ T3 m 190 #[iv ia, iv ib, iv ic, iv ifr, iv ifm, iv ish, rv pm, rv aO, iv (1 : Int32), iv p0, iv p1, iv p2, iv w0, .unset, .unset, .unset, .unset, .unset, .unset, .unset, .unset, .unset, .unset, .unset] [(.int (0 : Int32))]
        exact J5 _
      · refine gifNo X3 hx (hb hby at_182) ((if0 _ _).trans (feq c8).1) ?_
        refine giconst X3 hx (hb hby at_185) ?_
        refine ggoto X3 hx (pc := 186) (pc' := 190) (hb hby at_186) (by decide) (by decide) ?_
        show Gs p e below _ T3 m 190 #[iv ia, iv ib, iv ic, iv ifr, iv ifm, iv ish, rv pm, rv aO, iv (1 : Int32), iv p0, iv p1, iv p2, iv w0, .unset, .unset, .unset, .unset, .unset, .unset, .unset, .unset, .unset, .unset, .unset] [(.int (1 : Int32))]
        exact J5 _
    by_cases c9 : (ia &&& (1 : Int32)) = (0 : Int32)
    · refine gifYes X3 hx (pc := 169) (pc' := 176) (hb hby at_169) ((if0 _ _).trans (teq c9).1) (by decide) (by decide) ?_
      refine giconst X3 hx (hb hby at_176) ?_
      show Gs p e below _ T3 m 177 #[iv ia, iv ib, iv ic, iv ifr, iv ifm, iv ish, rv pm, rv aO, iv (1 : Int32), iv p0, iv p1, iv p2, .unset, .unset, .unset, .unset, .unset, .unset, .unset, .unset, .unset, .unset, .unset, .unset] [(.int (0 : Int32))]
      exact J4 _
    · refine gifNo X3 hx (hb hby at_169) ((if0 _ _).trans (feq c9).1) ?_
      refine giconst X3 hx (hb hby at_172) ?_
      refine ggoto X3 hx (pc := 173) (pc' := 177) (hb hby at_173) (by decide) (by decide) ?_
      show Gs p e below _ T3 m 177 #[iv ia, iv ib, iv ic, iv ifr, iv ifm, iv ish, rv pm, rv aO, iv (1 : Int32), iv p0, iv p1, iv p2, .unset, .unset, .unset, .unset, .unset, .unset, .unset, .unset, .unset, .unset, .unset, .unset] [(.int (1 : Int32))]
      exact J4 _
  · rw [qc]
    show Gs p e below _ T0 m 136 #[iv ia, iv ib, iv ic, iv ifr, iv ifm, iv ish, rv pm, rv aO, .unset, .unset, .unset, .unset, .unset, .unset, .unset, .unset, .unset, .unset, .unset, .unset, .unset, .unset, .unset, .unset] [(.int (1 : Int32)), (.int (1 : Int32))]
    refine giadd X0 hx (hb hby at_136) trivial ?_
    show Gs p e below _ T0 m 137 #[iv ia, iv ib, iv ic, iv ifr, iv ifm, iv ish, rv pm, rv aO, .unset, .unset, .unset, .unset, .unset, .unset, .unset, .unset, .unset, .unset, .unset, .unset, .unset, .unset, .unset, .unset] [(.int ((1 : Int32) + (1 : Int32)))]
    rw [show ((1 : Int32) + (1 : Int32)) = (2 : Int32) from by decide]
    show Gs p e below _ T0 m 137 #[iv ia, iv ib, iv ic, iv ifr, iv ifm, iv ish, rv pm, rv aO, .unset, .unset, .unset, .unset, .unset, .unset, .unset, .unset, .unset, .unset, .unset, .unset, .unset, .unset, .unset, .unset] [(.int (2 : Int32))]
    refine gistore X0 hx (hb hby at_137) trivial (l' := #[iv ia, iv ib, iv ic, iv ifr, iv ifm, iv ish, rv pm, rv aO, iv (2 : Int32), .unset, .unset, .unset, .unset, .unset, .unset, .unset, .unset, .unset, .unset, .unset, .unset, .unset, .unset, .unset]) rfl ?_
    refine giconst X0 hx (hb hby at_139) ?_
    refine giloadN X0 hx (hb hby at_140) rfl ?_
    refine giconst X0 hx (hb hby at_141) ?_
    refine Goes.st (fun tg kg => XT.iushr X0.here hx rfl (hb hby at_142) rfl kg) ?_
    show Gs p e below _ T0 m 143 #[iv ia, iv ib, iv ic, iv ifr, iv ifm, iv ish, rv pm, rv aO, iv (2 : Int32), .unset, .unset, .unset, .unset, .unset, .unset, .unset, .unset, .unset, .unset, .unset, .unset, .unset, .unset, .unset] [(.int (XT.ushr ia (2 : Int32))), (.int (1 : Int32))]
    obtain ⟨_, _, ⟨T10, L10, k10, n10⟩, -, X10, ⟨Lc10, hQ10, l10, y10, z10⟩, st10⟩ := Jvm.LawKit.callS X0 hx (y := mN0) hown (mvT hZ (hwk hw 5 rfl)) (mvT hZ (hwk hw 6 rfl)) (mvT hZ (hwk hw 7 rfl)) (mvT hZ (hwk hw 8 rfl)) (by decide) (backOf (W := 0) (rmMx l Z a0 hw [] (1 : Int32) (XT.ushr ia (2 : Int32)) hh n0 Z0 ) hZ (hwk hw 8 rfl) (hwk hw 7 rfl) (by decide) (by decide)) (g := (mkF m 143 #[iv ia, iv ib, iv ic, iv ifr, iv ifm, iv ish, rv pm, rv aO, iv (2 : Int32), .unset, .unset, .unset, .unset, .unset, .unset, .unset, .unset, .unset, .unset, .unset, .unset, .unset, .unset, .unset] [(.int (XT.ushr ia (2 : Int32))), (.int (1 : Int32))])) rfl (by rw [hml]; rfl) (argsL := [(.int (1 : Int32)), (.int (XT.ushr ia (2 : Int32)))]) (rest := []) (lenOf pd__II_I_aae rfl) rfl (by show 2 * 0 + _ ≤ _; exact Nat.le_of_eq rfl) (hb hby at_143) (fun _ _ => ⟨rfl, e0, (by decide : 7 + 0 ≤ 56), (by decide : 24 + 0 ≤ 4416)⟩)
    dsimp only [Pt.U, Pt.locs, Pt.cells, Pt.slots] at X10 l10 y10 z10 st10 hQ10
    subst l10 y10 z10
    obtain ⟨rfl, N10q, eh10⟩ := hQ10
    have N10 := Fr.app N0 N10q
    refine Goes.st st10 ?_
    show Gs p e below _ T10 m 146 #[iv ia, iv ib, iv ic, iv ifr, iv ifm, iv ish, rv pm, rv aO, iv (2 : Int32), .unset, .unset, .unset, .unset, .unset, .unset, .unset, .unset, .unset, .unset, .unset, .unset, .unset, .unset, .unset] [(.int (imax (1 : Int32) (XT.ushr ia (2 : Int32))))]
    obtain ⟨p0, p0_eq⟩ : ∃ z : Int32, z = (imax (1 : Int32) (XT.ushr ia (2 : Int32))) := ⟨_, rfl⟩
    rw [← p0_eq]
    show Gs p e below _ T10 m 146 #[iv ia, iv ib, iv ic, iv ifr, iv ifm, iv ish, rv pm, rv aO, iv (2 : Int32), .unset, .unset, .unset, .unset, .unset, .unset, .unset, .unset, .unset, .unset, .unset, .unset, .unset, .unset, .unset] [(.int p0)]
    have hq0 : ¬ p0 < (1 : Int32) := by rw [p0_eq]; exact own_imax1 _
    refine gistore X10 hx (hb hby at_146) trivial (l' := #[iv ia, iv ib, iv ic, iv ifr, iv ifm, iv ish, rv pm, rv aO, iv (2 : Int32), iv p0, .unset, .unset, .unset, .unset, .unset, .unset, .unset, .unset, .unset, .unset, .unset, .unset, .unset, .unset]) rfl ?_
    refine giconst X10 hx (hb hby at_148) ?_
    refine giloadN X10 hx (hb hby at_149) rfl ?_
    refine giconst X10 hx (hb hby at_150) ?_
    refine Goes.st (fun tg kg => XT.iushr X10.here hx rfl (hb hby at_151) rfl kg) ?_
    show Gs p e below _ T10 m 152 #[iv ia, iv ib, iv ic, iv ifr, iv ifm, iv ish, rv pm, rv aO, iv (2 : Int32), iv p0, .unset, .unset, .unset, .unset, .unset, .unset, .unset, .unset, .unset, .unset, .unset, .unset, .unset, .unset] [(.int (XT.ushr ib (2 : Int32))), (.int (1 : Int32))]
    obtain ⟨_, _, ⟨T11, L11, k11, n11⟩, -, X11, ⟨Lc11, hQ11, l11, y11, z11⟩, st11⟩ := Jvm.LawKit.callS X10 hx (y := mN0) hown (mvT hZ (hwk hw 5 rfl)) (mvT hZ (hwk hw 6 rfl)) (mvT hZ (hwk hw 7 rfl)) (mvT hZ (hwk hw 8 rfl)) (by decide) (backOf (W := 0) (rmMx l Z a0 hw [] (1 : Int32) (XT.ushr ib (2 : Int32)) hh n0 Z0 ) hZ (hwk hw 8 rfl) (hwk hw 7 rfl) (by decide) (by decide)) (g := (mkF m 152 #[iv ia, iv ib, iv ic, iv ifr, iv ifm, iv ish, rv pm, rv aO, iv (2 : Int32), iv p0, .unset, .unset, .unset, .unset, .unset, .unset, .unset, .unset, .unset, .unset, .unset, .unset, .unset, .unset] [(.int (XT.ushr ib (2 : Int32))), (.int (1 : Int32))])) rfl (by rw [hml]; rfl) (argsL := [(.int (1 : Int32)), (.int (XT.ushr ib (2 : Int32)))]) (rest := []) (lenOf pd__II_I_aae rfl) rfl (by show 2 * 0 + _ ≤ _; exact Nat.le_of_eq rfl) (hb hby at_152) (fun _ _ => ⟨rfl, eh10, (by decide : 7 + 0 ≤ 56), (by decide : 24 + 0 ≤ 4416)⟩)
    dsimp only [Pt.U, Pt.locs, Pt.cells, Pt.slots] at X11 l11 y11 z11 st11 hQ11
    subst l11 y11 z11
    obtain ⟨rfl, N11q, eh11⟩ := hQ11
    have N11 := Fr.app N10 N11q
    refine Goes.st st11 ?_
    show Gs p e below _ T11 m 155 #[iv ia, iv ib, iv ic, iv ifr, iv ifm, iv ish, rv pm, rv aO, iv (2 : Int32), iv p0, .unset, .unset, .unset, .unset, .unset, .unset, .unset, .unset, .unset, .unset, .unset, .unset, .unset, .unset] [(.int (imax (1 : Int32) (XT.ushr ib (2 : Int32))))]
    obtain ⟨p1, p1_eq⟩ : ∃ z : Int32, z = (imax (1 : Int32) (XT.ushr ib (2 : Int32))) := ⟨_, rfl⟩
    rw [← p1_eq]
    show Gs p e below _ T11 m 155 #[iv ia, iv ib, iv ic, iv ifr, iv ifm, iv ish, rv pm, rv aO, iv (2 : Int32), iv p0, .unset, .unset, .unset, .unset, .unset, .unset, .unset, .unset, .unset, .unset, .unset, .unset, .unset, .unset] [(.int p1)]
    have hq1 : ¬ p1 < (1 : Int32) := by rw [p1_eq]; exact own_imax1 _
    refine gistore X11 hx (hb hby at_155) trivial (l' := #[iv ia, iv ib, iv ic, iv ifr, iv ifm, iv ish, rv pm, rv aO, iv (2 : Int32), iv p0, iv p1, .unset, .unset, .unset, .unset, .unset, .unset, .unset, .unset, .unset, .unset, .unset, .unset, .unset]) rfl ?_
    refine giconst X11 hx (hb hby at_157) ?_
    refine giloadN X11 hx (hb hby at_158) rfl ?_
    refine giconst X11 hx (hb hby at_159) ?_
    refine Goes.st (fun tg kg => XT.iushr X11.here hx rfl (hb hby at_160) rfl kg) ?_
    show Gs p e below _ T11 m 161 #[iv ia, iv ib, iv ic, iv ifr, iv ifm, iv ish, rv pm, rv aO, iv (2 : Int32), iv p0, iv p1, .unset, .unset, .unset, .unset, .unset, .unset, .unset, .unset, .unset, .unset, .unset, .unset, .unset] [(.int (XT.ushr ic (2 : Int32))), (.int (1 : Int32))]
    obtain ⟨_, _, ⟨T12, L12, k12, n12⟩, -, X12, ⟨Lc12, hQ12, l12, y12, z12⟩, st12⟩ := Jvm.LawKit.callS X11 hx (y := mN0) hown (mvT hZ (hwk hw 5 rfl)) (mvT hZ (hwk hw 6 rfl)) (mvT hZ (hwk hw 7 rfl)) (mvT hZ (hwk hw 8 rfl)) (by decide) (backOf (W := 0) (rmMx l Z a0 hw [] (1 : Int32) (XT.ushr ic (2 : Int32)) hh n0 Z0 ) hZ (hwk hw 8 rfl) (hwk hw 7 rfl) (by decide) (by decide)) (g := (mkF m 161 #[iv ia, iv ib, iv ic, iv ifr, iv ifm, iv ish, rv pm, rv aO, iv (2 : Int32), iv p0, iv p1, .unset, .unset, .unset, .unset, .unset, .unset, .unset, .unset, .unset, .unset, .unset, .unset, .unset] [(.int (XT.ushr ic (2 : Int32))), (.int (1 : Int32))])) rfl (by rw [hml]; rfl) (argsL := [(.int (1 : Int32)), (.int (XT.ushr ic (2 : Int32)))]) (rest := []) (lenOf pd__II_I_aae rfl) rfl (by show 2 * 0 + _ ≤ _; exact Nat.le_of_eq rfl) (hb hby at_161) (fun _ _ => ⟨rfl, eh11, (by decide : 7 + 0 ≤ 56), (by decide : 24 + 0 ≤ 4416)⟩)
    dsimp only [Pt.U, Pt.locs, Pt.cells, Pt.slots] at X12 l12 y12 z12 st12 hQ12
    subst l12 y12 z12
    obtain ⟨rfl, N12q, eh12⟩ := hQ12
    have N12 := Fr.app N11 N12q
    refine Goes.st st12 ?_
    show Gs p e below _ T12 m 164 #[iv ia, iv ib, iv ic, iv ifr, iv ifm, iv ish, rv pm, rv aO, iv (2 : Int32), iv p0, iv p1, .unset, .unset, .unset, .unset, .unset, .unset, .unset, .unset, .unset, .unset, .unset, .unset, .unset] [(.int (imax (1 : Int32) (XT.ushr ic (2 : Int32))))]
    obtain ⟨p2, p2_eq⟩ : ∃ z : Int32, z = (imax (1 : Int32) (XT.ushr ic (2 : Int32))) := ⟨_, rfl⟩
    rw [← p2_eq]
    show Gs p e below _ T12 m 164 #[iv ia, iv ib, iv ic, iv ifr, iv ifm, iv ish, rv pm, rv aO, iv (2 : Int32), iv p0, iv p1, .unset, .unset, .unset, .unset, .unset, .unset, .unset, .unset, .unset, .unset, .unset, .unset, .unset] [(.int p2)]
    have hq2 : ¬ p2 < (1 : Int32) := by rw [p2_eq]; exact own_imax1 _
    refine gistore X12 hx (hb hby at_164) trivial (l' := #[iv ia, iv ib, iv ic, iv ifr, iv ifm, iv ish, rv pm, rv aO, iv (2 : Int32), iv p0, iv p1, iv p2, .unset, .unset, .unset, .unset, .unset, .unset, .unset, .unset, .unset, .unset, .unset, .unset]) rfl ?_
    refine giloadN X12 hx (hb hby at_166) rfl ?_
    refine giconst X12 hx (hb hby at_167) ?_
    refine giand X12 hx (hb hby at_168) trivial ?_
    show Gs p e below _ T12 m 169 #[iv ia, iv ib, iv ic, iv ifr, iv ifm, iv ish, rv pm, rv aO, iv (2 : Int32), iv p0, iv p1, iv p2, .unset, .unset, .unset, .unset, .unset, .unset, .unset, .unset, .unset, .unset, .unset, .unset] [(.int (ia &&& (1 : Int32)))]
    have J13 : ∀ (w0 : Int32), Goes p e below (EV s (QLw Z h0 n0) 56 4416) (T12.setTop (mkF m 177 #[iv ia, iv ib, iv ic, iv ifr, iv ifm, iv ish, rv pm, rv aO, iv (2 : Int32), iv p0, iv p1, iv p2, .unset, .unset, .unset, .unset, .unset, .unset, .unset, .unset, .unset, .unset, .unset, .unset] [(.int w0)])) := by
      intro w0
      show Gs p e below _ T12 m 177 #[iv ia, iv ib, iv ic, iv ifr, iv ifm, iv ish, rv pm, rv aO, iv (2 : Int32), iv p0, iv p1, iv p2, .unset, .unset, .unset, .unset, .unset, .unset, .unset, .unset, .unset, .unset, .unset, .unset] [(.int w0)]
      refine gistore X12 hx (hb hby at_177) trivial (l' := #[iv ia, iv ib, iv ic, iv ifr, iv ifm, iv ish, rv pm, rv aO, iv (2 : Int32), iv p0, iv p1, iv p2, iv w0, .unset, .unset, .unset, .unset, .unset, .unset, .unset, .unset, .unset, .unset, .unset]) rfl ?_
      refine giloadN X12 hx (hb hby at_179) rfl ?_
      refine giconst X12 hx (hb hby at_180) ?_
      refine giand X12 hx (hb hby at_181) trivial ?_
      show Gs p e below _ T12 m 182 #[iv ia, iv ib, iv ic, iv ifr, iv ifm, iv ish, rv pm, rv aO, iv (2 : Int32), iv p0, iv p1, iv p2, iv w0, .unset, .unset, .unset, .unset, .unset, .unset, .unset, .unset, .unset, .unset, .unset] [(.int (ib &&& (1 : Int32)))]
      have J14 : ∀ (w1 : Int32), Goes p e below (EV s (QLw Z h0 n0) 56 4416) (T12.setTop (mkF m 190 #[iv ia, iv ib, iv ic, iv ifr, iv ifm, iv ish, rv pm, rv aO, iv (2 : Int32), iv p0, iv p1, iv p2, iv w0, .unset, .unset, .unset, .unset, .unset, .unset, .unset, .unset, .unset, .unset, .unset] [(.int w1)])) := by
        intro w1
        show Gs p e below _ T12 m 190 #[iv ia, iv ib, iv ic, iv ifr, iv ifm, iv ish, rv pm, rv aO, iv (2 : Int32), iv p0, iv p1, iv p2, iv w0, .unset, .unset, .unset, .unset, .unset, .unset, .unset, .unset, .unset, .unset, .unset] [(.int w1)]
        refine gistore X12 hx (hb hby at_190) trivial (l' := #[iv ia, iv ib, iv ic, iv ifr, iv ifm, iv ish, rv pm, rv aO, iv (2 : Int32), iv p0, iv p1, iv p2, iv w0, iv w1, .unset, .unset, .unset, .unset, .unset, .unset, .unset, .unset, .unset, .unset]) rfl ?_
        refine giloadN X12 hx (hb hby at_192) rfl ?_
        refine giconst X12 hx (hb hby at_193) ?_
        refine giand X12 hx (hb hby at_194) trivial ?_
        show Gs p e below _ T12 m 195 #[iv ia, iv ib, iv ic, iv ifr, iv ifm, iv ish, rv pm, rv aO, iv (2 : Int32), iv p0, iv p1, iv p2, iv w0, iv w1, .unset, .unset, .unset, .unset, .unset, .unset, .unset, .unset, .unset, .unset] [(.int (ic &&& (1 : Int32)))]
        have J15 : ∀ (w2 : Int32), Goes p e below (EV s (QLw Z h0 n0) 56 4416) (T12.setTop (mkF m 203 #[iv ia, iv ib, iv ic, iv ifr, iv ifm, iv ish, rv pm, rv aO, iv (2 : Int32), iv p0, iv p1, iv p2, iv w0, iv w1, .unset, .unset, .unset, .unset, .unset, .unset, .unset, .unset, .unset, .unset] [(.int w2)])) := by
          intro w2
          show Gs p e below _ T12 m 203 #[iv ia, iv ib, iv ic, iv ifr, iv ifm, iv ish, rv pm, rv aO, iv (2 : Int32), iv p0, iv p1, iv p2, iv w0, iv w1, .unset, .unset, .unset, .unset, .unset, .unset, .unset, .unset, .unset, .unset] [(.int w2)]
          refine gistore X12 hx (hb hby at_203) trivial (l' := #[iv ia, iv ib, iv ic, iv ifr, iv ifm, iv ish, rv pm, rv aO, iv (2 : Int32), iv p0, iv p1, iv p2, iv w0, iv w1, iv w2, .unset, .unset, .unset, .unset, .unset, .unset, .unset, .unset, .unset]) rfl ?_
          refine giload X12 hx (hb hby at_205) rfl ?_
          refine giconst X12 hx (hb hby at_207) ?_
          refine gicmpNo X12 hx (hb hby at_208) (by decide) ?_
          refine giloadN X12 hx (hb hby at_211) rfl ?_
          refine giconst X12 hx (hb hby at_212) ?_
          refine Goes.st (fun tg kg => XT.iushr X12.here hx rfl (hb hby at_213) rfl kg) ?_
          show Gs p e below _ T12 m 214 #[iv ia, iv ib, iv ic, iv ifr, iv ifm, iv ish, rv pm, rv aO, iv (2 : Int32), iv p0, iv p1, iv p2, iv w0, iv w1, iv w2, .unset, .unset, .unset, .unset, .unset, .unset, .unset, .unset, .unset] [(.int (XT.ushr ia (1 : Int32)))]
          refine giconst X12 hx (hb hby at_214) ?_
          refine giand X12 hx (hb hby at_215) trivial ?_
          refine ggoto X12 hx (pc := 216) (pc' := 220) (hb hby at_216) (by decide) (by decide) ?_
          show Gs p e below _ T12 m 220 #[iv ia, iv ib, iv ic, iv ifr, iv ifm, iv ish, rv pm, rv aO, iv (2 : Int32), iv p0, iv p1, iv p2, iv w0, iv w1, iv w2, .unset, .unset, .unset, .unset, .unset, .unset, .unset, .unset, .unset] [(.int ((XT.ushr ia (1 : Int32)) &&& (1 : Int32)))]
          obtain ⟨k0, k0_eq⟩ : ∃ z : Int32, z = ((XT.ushr ia (1 : Int32)) &&& (1 : Int32)) := ⟨_, rfl⟩
          rw [← k0_eq]
          show Gs p e below _ T12 m 220 #[iv ia, iv ib, iv ic, iv ifr, iv ifm, iv ish, rv pm, rv aO, iv (2 : Int32), iv p0, iv p1, iv p2, iv w0, iv w1, iv w2, .unset, .unset, .unset, .unset, .unset, .unset, .unset, .unset, .unset] [(.int k0)]
          have hk0 : k0 = 0 ∨ k0 = 1 := by rw [k0_eq]; exact own_and1 _
          refine gistore X12 hx (hb hby at_220) trivial (l' := #[iv ia, iv ib, iv ic, iv ifr, iv ifm, iv ish, rv pm, rv aO, iv (2 : Int32), iv p0, iv p1, iv p2, iv w0, iv w1, iv w2, iv k0, .unset, .unset, .unset, .unset, .unset, .unset, .unset, .unset]) rfl ?_
          refine giload X12 hx (hb hby at_222) rfl ?_
          refine giconst X12 hx (hb hby at_224) ?_
          refine gicmpNo X12 hx (hb hby at_225) (by decide) ?_
          refine giloadN X12 hx (hb hby at_228) rfl ?_
          refine giconst X12 hx (hb hby at_229) ?_
          refine Goes.st (fun tg kg => XT.iushr X12.here hx rfl (hb hby at_230) rfl kg) ?_
          show Gs p e below _ T12 m 231 #[iv ia, iv ib, iv ic, iv ifr, iv ifm, iv ish, rv pm, rv aO, iv (2 : Int32), iv p0, iv p1, iv p2, iv w0, iv w1, iv w2, iv k0, .unset, .unset, .unset, .unset, .unset, .unset, .unset, .unset] [(.int (XT.ushr ib (1 : Int32)))]
          refine giconst X12 hx (hb hby at_231) ?_
          refine giand X12 hx (hb hby at_232) trivial ?_
          refine ggoto X12 hx (pc := 233) (pc' := 237) (hb hby at_233) (by decide) (by decide) ?_
          show Gs p e below _ T12 m 237 #[iv ia, iv ib, iv ic, iv ifr, iv ifm, iv ish, rv pm, rv aO, iv (2 : Int32), iv p0, iv p1, iv p2, iv w0, iv w1, iv w2, iv k0, .unset, .unset, .unset, .unset, .unset, .unset, .unset, .unset] [(.int ((XT.ushr ib (1 : Int32)) &&& (1 : Int32)))]
          obtain ⟨k1, k1_eq⟩ : ∃ z : Int32, z = ((XT.ushr ib (1 : Int32)) &&& (1 : Int32)) := ⟨_, rfl⟩
          rw [← k1_eq]
          show Gs p e below _ T12 m 237 #[iv ia, iv ib, iv ic, iv ifr, iv ifm, iv ish, rv pm, rv aO, iv (2 : Int32), iv p0, iv p1, iv p2, iv w0, iv w1, iv w2, iv k0, .unset, .unset, .unset, .unset, .unset, .unset, .unset, .unset] [(.int k1)]
          have hk1 : k1 = 0 ∨ k1 = 1 := by rw [k1_eq]; exact own_and1 _
          refine gistore X12 hx (hb hby at_237) trivial (l' := #[iv ia, iv ib, iv ic, iv ifr, iv ifm, iv ish, rv pm, rv aO, iv (2 : Int32), iv p0, iv p1, iv p2, iv w0, iv w1, iv w2, iv k0, iv k1, .unset, .unset, .unset, .unset, .unset, .unset, .unset]) rfl ?_
          refine giload X12 hx (hb hby at_239) rfl ?_
          refine giconst X12 hx (hb hby at_241) ?_
          refine gicmpNo X12 hx (hb hby at_242) (by decide) ?_
          refine giloadN X12 hx (hb hby at_245) rfl ?_
          refine giconst X12 hx (hb hby at_246) ?_
          refine Goes.st (fun tg kg => XT.iushr X12.here hx rfl (hb hby at_247) rfl kg) ?_
          show Gs p e below _ T12 m 248 #[iv ia, iv ib, iv ic, iv ifr, iv ifm, iv ish, rv pm, rv aO, iv (2 : Int32), iv p0, iv p1, iv p2, iv w0, iv w1, iv w2, iv k0, iv k1, .unset, .unset, .unset, .unset, .unset, .unset, .unset] [(.int (XT.ushr ic (1 : Int32)))]
          refine giconst X12 hx (hb hby at_248) ?_
          refine giand X12 hx (hb hby at_249) trivial ?_
          refine ggoto X12 hx (pc := 250) (pc' := 254) (hb hby at_250) (by decide) (by decide) ?_
          show Gs p e below _ T12 m 254 #[iv ia, iv ib, iv ic, iv ifr, iv ifm, iv ish, rv pm, rv aO, iv (2 : Int32), iv p0, iv p1, iv p2, iv w0, iv w1, iv w2, iv k0, iv k1, .unset, .unset, .unset, .unset, .unset, .unset, .unset] [(.int ((XT.ushr ic (1 : Int32)) &&& (1 : Int32)))]
          obtain ⟨k2, k2_eq⟩ : ∃ z : Int32, z = ((XT.ushr ic (1 : Int32)) &&& (1 : Int32)) := ⟨_, rfl⟩
          rw [← k2_eq]
          show Gs p e below _ T12 m 254 #[iv ia, iv ib, iv ic, iv ifr, iv ifm, iv ish, rv pm, rv aO, iv (2 : Int32), iv p0, iv p1, iv p2, iv w0, iv w1, iv w2, iv k0, iv k1, .unset, .unset, .unset, .unset, .unset, .unset, .unset] [(.int k2)]
          have hk2 : k2 = 0 ∨ k2 = 1 := by rw [k2_eq]; exact own_and1 _
          refine gistore X12 hx (hb hby at_254) trivial (l' := #[iv ia, iv ib, iv ic, iv ifr, iv ifm, iv ish, rv pm, rv aO, iv (2 : Int32), iv p0, iv p1, iv p2, iv w0, iv w1, iv w2, iv k0, iv k1, iv k2, .unset, .unset, .unset, .unset, .unset, .unset]) rfl ?_
          show Gs p e below _ T12 m 256 #[iv ia, iv ib, iv ic, iv ifr, iv ifm, iv ish, rv pm, rv aO, iv (2 : Int32), iv p0, iv p1, iv p2, iv w0, iv w1, iv w2, iv k0, iv k1, iv k2, .unset, .unset, .unset, .unset, .unset, .unset] []
          exact Seg256 Z a0 hw hx hby hlk hret hml hnm _ _ hS hown hZ ia ib ic ifr ifm ish pm aO kO (2 : Int32) o0 o1 o2 p0 p1 p2 w0 w1 w2 k0 k1 k2 dE kD cs fm h0 hh n0 T12 _ X12 eh12 N12 Z0 hk hR.1 Scs hcs Sfm hfm Sde Ade Ao hp hq0 hq1 hq2 (Or.inr ⟨rfl, hk0, hk1, hk2⟩)
        by_cases c16 : (ic &&& (1 : Int32)) = (0 : Int32)
        · refine gifYes X12 hx (pc := 195) (pc' := 202) (hb hby at_195) ((if0 _ _).trans (teq c16).1) (by decide) (by decide) ?_
          refine giconst X12 hx (hb hby at_202) ?_
          show Gs p e below _ T12 m 203 #[iv ia, iv ib, iv ic, iv ifr, iv ifm, iv ish, rv pm, rv aO, iv (2 : Int32), iv p0, iv p1, iv p2, iv w0, iv w1, .unset, .unset, .unset, .unset, .unset, .unset, .unset, .unset, .unset, .unset] [(.int (0 : Int32))]
          exact J15 _
        · refine gifNo X12 hx (hb hby at_195) ((if0 _ _).trans (feq c16).1) ?_
          refine giconst X12 hx (hb hby at_198) ?_
          refine ggoto X12 hx (pc := 199) (pc' := 203) (hb hby at_199) (by decide) (by decide) ?_
          show Gs p e below _ T12 m 203 #[iv ia, iv ib, iv ic, iv ifr, iv ifm, iv ish, rv pm, rv aO, iv (2 : Int32), iv p0, iv p1, iv p2, iv w0, iv w1, .unset, .unset, .unset, .unset, .unset, .unset, .unset, .unset, .unset, .unset] [(.int (1 : Int32))]
          exact J15 _
      by_cases c17 : (ib &&& (1 : Int32)) = (0 : Int32)
      · refine gifYes X12 hx (pc := 182) (pc' := 189) (hb hby at_182) ((if0 _ _).trans (teq c17).1) (by decide) (by decide) ?_
        refine giconst X12 hx (hb hby at_189) ?_
        show Gs p e below _ T12 m 190 #[iv ia, iv ib, iv ic, iv ifr, iv ifm, iv ish, rv pm, rv aO, iv (2 : Int32), iv p0, iv p1, iv p2, iv w0, .unset, .unset, .unset, .unset, .unset, .unset, .unset, .unset, .unset, .unset, .unset] [(.int (0 : Int32))]
        exact J14 _
      · refine gifNo X12 hx (hb hby at_182) ((if0 _ _).trans (feq c17).1) ?_
        refine giconst X12 hx (hb hby at_185) ?_
        refine ggoto X12 hx (pc := 186) (pc' := 190) (hb hby at_186) (by decide) (by decide) ?_
        show Gs p e below _ T12 m 190 #[iv ia, iv ib, iv ic, iv ifr, iv ifm, iv ish, rv pm, rv aO, iv (2 : Int32), iv p0, iv p1, iv p2, iv w0, .unset, .unset, .unset, .unset, .unset, .unset, .unset, .unset, .unset, .unset, .unset] [(.int (1 : Int32))]
        exact J14 _
    by_cases c18 : (ia &&& (1 : Int32)) = (0 : Int32)
    · refine gifYes X12 hx (pc := 169) (pc' := 176) (hb hby at_169) ((if0 _ _).trans (teq c18).1) (by decide) (by decide) ?_
      refine giconst X12 hx (hb hby at_176) ?_
      show Gs p e below _ T12 m 177 #[iv ia, iv ib, iv ic, iv ifr, iv ifm, iv ish, rv pm, rv aO, iv (2 : Int32), iv p0, iv p1, iv p2, .unset, .unset, .unset, .unset, .unset, .unset, .unset, .unset, .unset, .unset, .unset, .unset] [(.int (0 : Int32))]
      exact J13 _
    · refine gifNo X12 hx (hb hby at_169) ((if0 _ _).trans (feq c18).1) ?_
      refine giconst X12 hx (hb hby at_172) ?_
      refine ggoto X12 hx (pc := 173) (pc' := 177) (hb hby at_173) (by decide) (by decide) ?_
      show Gs p e below _ T12 m 177 #[iv ia, iv ib, iv ic, iv ifr, iv ifm, iv ish, rv pm, rv aO, iv (2 : Int32), iv p0, iv p1, iv p2, .unset, .unset, .unset, .unset, .unset, .unset, .unset, .unset, .unset, .unset, .unset, .unset] [(.int (1 : Int32))]
      exact J13 _
theorem ef_0 (m : MethodId) (x0 : Int32) (x1 : Int32) (x2 : Int32) (x3 : Int32) (x4 : Int32) (x5 : Int32) : entryFrame m #[(.int x0), (.int x1), (.int x2), (.int x3), (.int x4), (.int x5)] maxLocals = mkF m 0 #[iv x0, iv x1, iv x2, iv x3, iv x4, iv x5, .unset, .unset, .unset, .unset, .unset, .unset, .unset, .unset, .unset, .unset, .unset, .unset, .unset, .unset, .unset, .unset, .unset, .unset] [] := by first | (simp [entryFrame, mkF, argsToLocals, Value.category, maxLocals]; done) | rfl
set_option maxRecDepth 65536 in
set_option maxHeartbeats 40000000 in
theorem rm0 (l : Launch) (Z : State) (a0 : Array Value) (hw : ∀ d ∈ tables_1, d.before a0 Z = true) (ws : List Jvm.Cond) (ia ib ic ifr ifm ish : Int32) (dE : Addr) (kD : ClassId) (cs : Int32) (fm : Value) (h0 : Heap) (n0 : Nat) (Z0 : n0 ≤ h0.size) (Scs : Sta Z h0 "java/lang/String" "COMPACT_STRINGS" "Z" (.int cs)) (hcs : ¬ cs = (0 : Int32)) (Sfm : Sta Z h0 "jdk/internal/util/Preconditions" "SIOOBE_FORMATTER" "Ljava/util/function/BiFunction;" fm) (hfm : fm.isRef = true) (Sde : Sta Z h0 "java/util/ArrayList" "DEFAULTCAPACITY_EMPTY_ELEMENTDATA" "[Ljava/lang/Object;" (.ref dE)) (Ade : Arv Z h0 dE kD (.object "java/lang/Object") (0 : Int32) [] .null) :
    MetFree l x (head1 (Jvm.Cond.code x code maxLocals ret :: ws) room_1) (fun aa U => aa = #[(.int ia), (.int ib), (.int ic), (.int ifr), (.int ifm), (.int ish)] ∧ Z.Warmed39 U.vm ∧ U.heap = h0 ∧ CHv Z ELs U.vm h0) (fun _ _ _ _ _ => True) (fun _ u1_ o_ u2_ => ∃ v_ l_, o_ = .returned v_ ∧ QLw Z h0 n0 v_ u2_.heap l_ ∧ ReturnedEndW u1_ o_ u2_ l_ 56 4416) := by
  refine MetFree.of_bodySF (plainFor_of_name pn_com_example_redoubt_redoubt_policies_FirstFitQueueFirstFittingPinLaw) hisR ?_
  intro p e s m args below meth c s₁ Bd hml0 hP hK
  obtain ⟨rfl, hZ, hh, hH⟩ := hP
  have hR := CHr.refl hH
  have hx := Bd.exec
  have hby := Bd.bytes
  have hlk := BodyLoose.notSynchronized Bd
  have hret := Bd.returns
  have hml : c.maxLocals = 24 := hml0
  have hown : s.vm.findClass "com/example/redoubt/redoubt/policies/FirstFitQueueFirstFittingPinLaw" = some m.cls := findClass_of_methodNamed Bd.named
  have hnm := (name_of_methodNamed Bd.named Bd.method).1
  have X0 : Stand p l e room_1 (s.setVm s.vm) m #[(.int ia), (.int ib), (.int ic), (.int ifr), (.int ifm), (.int ish)] below meth c s₁ [] 0 0 := Stand.of_body Bd
  have hS := (State.WarmedH.refl s).since 0
  have hk : 0 ≤ h0.size := Nat.zero_le _
  have e0 : s₁.heap = h0 := by rw [← hh, Bd.state]; rfl
  have N0 := Fr.nil n0
  refine Goes.st (E := (EV s (QLw Z h0 n0) 56 4416)) (fun tg kg => castTop (ef_0 m ia ib ic ifr ifm ish) kg) ?_
  show Gs p e below _ s₁ m 0 #[iv ia, iv ib, iv ic, iv ifr, iv ifm, iv ish, .unset, .unset, .unset, .unset, .unset, .unset, .unset, .unset, .unset, .unset, .unset, .unset, .unset, .unset, .unset, .unset, .unset, .unset] []
  refine Goes.st (fun tg kg => XS.bipush X0.here hx rfl (hb hby at_0) kg) ?_
  show Gs p e below _ s₁ m 2 #[iv ia, iv ib, iv ic, iv ifr, iv ifm, iv ish, .unset, .unset, .unset, .unset, .unset, .unset, .unset, .unset, .unset, .unset, .unset, .unset, .unset, .unset, .unset, .unset, .unset, .unset] [(.int (6 : Int32))]
  obtain ⟨T1, h1, cA1, X1, e1, E1, A1, EA1, OV1, st1⟩ := newRA X0 hx hZ hown (C := "[I") (ty := .int) (by decide) (hwk hw 0 rfl) (hwk hw 1 rfl) e0 (g := (mkF m 2 #[iv ia, iv ib, iv ic, iv ifr, iv ifm, iv ish, .unset, .unset, .unset, .unset, .unset, .unset, .unset, .unset, .unset, .unset, .unset, .unset, .unset, .unset, .unset, .unset, .unset, .unset] [(.int (6 : Int32))])) rfl (hb hby at_2) rfl (by decide) (cap := 6) (by decide) (by decide) (by decide) (by decide) (ad := "[[I") (by decide)
  obtain ⟨b1, g1⟩ : ∃ z, z = h0.size := ⟨_, rfl⟩
  rw [← g1] at A1 EA1 st1
  have ne_dE_b1 : dE ≠ b1 := Nat.ne_of_lt (Nat.lt_of_lt_of_le Ade.lt (Nat.le_of_eq g1.symm))
  have lo_b1 : n0 ≤ b1 := by have := Z0; omega
  have hk := Nat.le_trans hk E1.1
  have hR := hR.trans (CHr.ext E1 hR.1)
  have V1 : Arv Z h1 b1 cA1 (.array .int) (6 : Int32) [.null, .null, .null, .null, .null, .null] .null := (Arv.new A1 (by decide)).pad (pad_rep [] _ 6)
  refine Goes.st st1 ?_
  have Z1 : n0 ≤ h1.size := Nat.le_trans Z0 E1.1
  show Gs p e below _ T1 m 5 #[iv ia, iv ib, iv ic, iv ifr, iv ifm, iv ish, .unset, .unset, .unset, .unset, .unset, .unset, .unset, .unset, .unset, .unset, .unset, .unset, .unset, .unset, .unset, .unset, .unset, .unset] [(.ref b1)]
  refine gdup X1 hx (hb hby at_5) trivial rfl ?_
  refine giconst X1 hx (hb hby at_6) ?_
  refine giconst X1 hx (hb hby at_7) ?_
  obtain ⟨T3, h3, cA3, X3, e3, E3, A3, EA3, st3⟩ := newPE X1 hx hZ (hwk hw 2 rfl) e1 (g := (mkF m 8 #[iv ia, iv ib, iv ic, iv ifr, iv ifm, iv ish, .unset, .unset, .unset, .unset, .unset, .unset, .unset, .unset, .unset, .unset, .unset, .unset, .unset, .unset, .unset, .unset, .unset, .unset] [(.int (3 : Int32)), (.int (0 : Int32)), (.ref b1), (.ref b1)])) rfl (hb hby at_8) rfl (by decide) (cap := 3) (by decide) (by decide) (by decide) (by decide) (ad := "[I") (by decide)
  obtain ⟨b3, g3⟩ : ∃ z, z = h1.size := ⟨_, rfl⟩
  rw [← g3] at A3 st3 EA3
  have f4 := (Ade.ext E1)
  have ne_dE_b3 : dE ≠ b3 := Nat.ne_of_lt (Nat.lt_of_lt_of_le f4.lt (Nat.le_of_eq g3.symm))
  have ne_b1_b3 : b1 ≠ b3 := Nat.ne_of_lt (Nat.lt_of_lt_of_le V1.lt (Nat.le_of_eq g3.symm))
  have lo_b3 : n0 ≤ b3 := by have := Z1; omega
  have hk := Nat.le_trans hk E3.1
  have hR := hR.trans (CHr.ext E3 hR.1)
  have V3 : Arv Z h3 b3 cA3 .int (3 : Int32) [(.int (0 : Int32)), (.int (0 : Int32)), (.int (0 : Int32))] (.int (0 : Int32)) := (Arv.new A3 (by decide)).pad (pad_rep [] _ 3)
  refine Goes.st st3 ?_
  have Z3 : n0 ≤ h3.size := Nat.le_trans Z1 E3.1
  show Gs p e below _ T3 m 10 #[iv ia, iv ib, iv ic, iv ifr, iv ifm, iv ish, .unset, .unset, .unset, .unset, .unset, .unset, .unset, .unset, .unset, .unset, .unset, .unset, .unset, .unset, .unset, .unset, .unset, .unset] [(.ref b3), (.int (0 : Int32)), (.ref b1), (.ref b1)]
  refine gdup X3 hx (hb hby at_10) trivial rfl ?_
  refine giconst X3 hx (hb hby at_11) ?_
  refine giconst X3 hx (hb hby at_12) ?_
  show Gs p e below _ T3 m 13 #[iv ia, iv ib, iv ic, iv ifr, iv ifm, iv ish, .unset, .unset, .unset, .unset, .unset, .unset, .unset, .unset, .unset, .unset, .unset, .unset, .unset, .unset, .unset, .unset, .unset, .unset] [(.int (0 : Int32)), (.int (0 : Int32)), (.ref b3), (.ref b3), (.int (0 : Int32)), (.ref b1), (.ref b1)]
  obtain ⟨cl6, Ar6, qk6, Sz6, qz6, Ha6, Gf6⟩ := id V3
  obtain ⟨T6, h6, X6, e6, W6, st6⟩ := stI X3 hx hZ e3 Ar6 (inb_of Sz6 ⟨by decide, by decide⟩) (g := (mkF m 13 #[iv ia, iv ib, iv ic, iv ifr, iv ifm, iv ish, .unset, .unset, .unset, .unset, .unset, .unset, .unset, .unset, .unset, .unset, .unset, .unset, .unset, .unset, .unset, .unset, .unset, .unset] [(.int (0 : Int32)), (.int (0 : Int32)), (.ref b3), (.ref b3), (.int (0 : Int32)), (.ref b1), (.ref b1)])) rfl rfl (hb hby at_13)
  have N6 := Fr.snoc X6 N0 lo_b3
  have V6 : Arv Z h6 b3 cA3 .int (3 : Int32) [(.int (0 : Int32)), (.int (0 : Int32)), (.int (0 : Int32))] (.int (0 : Int32)) := (Arv.set Ar6 qk6 Sz6 qz6 Ha6 Gf6 rfl W6 0 (by decide) (by simp))
  refine Goes.st st6 ?_
  have hk := Nat.le_trans hk (Nat.le_of_eq W6.size.symm)
  have hR := hR.trans (CHr.wr W6 (Safe.exa hZ.alike EA3 (by decide) (by decide)) hR.1)
  have Z6 : n0 ≤ h6.size := by have := W6.size; have := Z3; omega
  show Gs p e below _ T6 m 14 #[iv ia, iv ib, iv ic, iv ifr, iv ifm, iv ish, .unset, .unset, .unset, .unset, .unset, .unset, .unset, .unset, .unset, .unset, .unset, .unset, .unset, .unset, .unset, .unset, .unset, .unset] [(.ref b3), (.int (0 : Int32)), (.ref b1), (.ref b1)]
  refine gdup X6 hx (hb hby at_14) trivial rfl ?_
  refine giconst X6 hx (hb hby at_15) ?_
  refine giconst X6 hx (hb hby at_16) ?_
  show Gs p e below _ T6 m 17 #[iv ia, iv ib, iv ic, iv ifr, iv ifm, iv ish, .unset, .unset, .unset, .unset, .unset, .unset, .unset, .unset, .unset, .unset, .unset, .unset, .unset, .unset, .unset, .unset, .unset, .unset] [(.int (1 : Int32)), (.int (1 : Int32)), (.ref b3), (.ref b3), (.int (0 : Int32)), (.ref b1), (.ref b1)]
  obtain ⟨cl8, Ar8, qk8, Sz8, qz8, Ha8, Gf8⟩ := id V6
  obtain ⟨T8, h8, X8, e8, W8, st8⟩ := stI X6 hx hZ e6 Ar8 (inb_of Sz8 ⟨by decide, by decide⟩) (g := (mkF m 17 #[iv ia, iv ib, iv ic, iv ifr, iv ifm, iv ish, .unset, .unset, .unset, .unset, .unset, .unset, .unset, .unset, .unset, .unset, .unset, .unset, .unset, .unset, .unset, .unset, .unset, .unset] [(.int (1 : Int32)), (.int (1 : Int32)), (.ref b3), (.ref b3), (.int (0 : Int32)), (.ref b1), (.ref b1)])) rfl rfl (hb hby at_17)
  have N8 := Fr.snoc X8 N6 lo_b3
  have V8 : Arv Z h8 b3 cA3 .int (3 : Int32) [(.int (0 : Int32)), (.int (1 : Int32)), (.int (0 : Int32))] (.int (0 : Int32)) := (Arv.set Ar8 qk8 Sz8 qz8 Ha8 Gf8 rfl W8 1 (by decide) (by simp))
  refine Goes.st st8 ?_
  have hk := Nat.le_trans hk (Nat.le_of_eq W8.size.symm)
  have f9 := (EA3.wr W6)
  have hR := hR.trans (CHr.wr W8 (Safe.exa hZ.alike f9 (by decide) (by decide)) hR.1)
  have Z8 : n0 ≤ h8.size := by have := W8.size; have := Z6; omega
  show Gs p e below _ T8 m 18 #[iv ia, iv ib, iv ic, iv ifr, iv ifm, iv ish, .unset, .unset, .unset, .unset, .unset, .unset, .unset, .unset, .unset, .unset, .unset, .unset, .unset, .unset, .unset, .unset, .unset, .unset] [(.ref b3), (.int (0 : Int32)), (.ref b1), (.ref b1)]
  refine gdup X8 hx (hb hby at_18) trivial rfl ?_
  refine giconst X8 hx (hb hby at_19) ?_
  refine giconst X8 hx (hb hby at_20) ?_
  show Gs p e below _ T8 m 21 #[iv ia, iv ib, iv ic, iv ifr, iv ifm, iv ish, .unset, .unset, .unset, .unset, .unset, .unset, .unset, .unset, .unset, .unset, .unset, .unset, .unset, .unset, .unset, .unset, .unset, .unset] [(.int (2 : Int32)), (.int (2 : Int32)), (.ref b3), (.ref b3), (.int (0 : Int32)), (.ref b1), (.ref b1)]
  obtain ⟨cl11, Ar11, qk11, Sz11, qz11, Ha11, Gf11⟩ := id V8
  obtain ⟨T11, h11, X11, e11, W11, st11⟩ := stI X8 hx hZ e8 Ar11 (inb_of Sz11 ⟨by decide, by decide⟩) (g := (mkF m 21 #[iv ia, iv ib, iv ic, iv ifr, iv ifm, iv ish, .unset, .unset, .unset, .unset, .unset, .unset, .unset, .unset, .unset, .unset, .unset, .unset, .unset, .unset, .unset, .unset, .unset, .unset] [(.int (2 : Int32)), (.int (2 : Int32)), (.ref b3), (.ref b3), (.int (0 : Int32)), (.ref b1), (.ref b1)])) rfl rfl (hb hby at_21)
  have N11 := Fr.snoc X11 N8 lo_b3
  have V11 : Arv Z h11 b3 cA3 .int (3 : Int32) [(.int (0 : Int32)), (.int (1 : Int32)), (.int (2 : Int32))] (.int (0 : Int32)) := (Arv.set Ar11 qk11 Sz11 qz11 Ha11 Gf11 rfl W11 2 (by decide) (by simp))
  refine Goes.st st11 ?_
  have hk := Nat.le_trans hk (Nat.le_of_eq W11.size.symm)
  have f12 := (f9.wr W8)
  have hR := hR.trans (CHr.wr W11 (Safe.exa hZ.alike f12 (by decide) (by decide)) hR.1)
  have Z11 : n0 ≤ h11.size := by have := W11.size; have := Z8; omega
  show Gs p e below _ T11 m 22 #[iv ia, iv ib, iv ic, iv ifr, iv ifm, iv ish, .unset, .unset, .unset, .unset, .unset, .unset, .unset, .unset, .unset, .unset, .unset, .unset, .unset, .unset, .unset, .unset, .unset, .unset] [(.ref b3), (.int (0 : Int32)), (.ref b1), (.ref b1)]
  have f14 := ((((V1.ext E3).other W6 ne_b1_b3).other W8 ne_b1_b3).other W11 ne_b1_b3)
  have f15 := (f12.wr W11)
  obtain ⟨cl16, Ar16, qk16, Sz16, qz16, Ha16, Gf16⟩ := id f14
  obtain ⟨T16, h16, X16, e16, W16, st16⟩ := stR X11 hx hZ e11 Ar16 (inb_of Sz16 ⟨by decide, by decide⟩) rfl (Sto.ofVA Ar16 qk16 OV1 (Ins.of_exa f15 (hwk hw 3 rfl))) (g := (mkF m 22 #[iv ia, iv ib, iv ic, iv ifr, iv ifm, iv ish, .unset, .unset, .unset, .unset, .unset, .unset, .unset, .unset, .unset, .unset, .unset, .unset, .unset, .unset, .unset, .unset, .unset, .unset] [(.ref b3), (.int (0 : Int32)), (.ref b1), (.ref b1)])) rfl rfl (hb hby at_22)
  have N16 := Fr.snoc X16 N11 lo_b1
  have V16 : Arv Z h16 b1 cA1 (.array .int) (6 : Int32) [(.ref b3), .null, .null, .null, .null, .null] .null := Arv.set Ar16 qk16 Sz16 qz16 Ha16 Gf16 rfl W16 0 (by decide) (by simp)
  refine Goes.st st16 ?_
  have hk := Nat.le_trans hk (Nat.le_of_eq W16.size.symm)
  have hR := hR.trans (CHr.wr W16 (Safe.arv hZ.alike f14 (by decide)) hR.1)
  have Z16 : n0 ≤ h16.size := by have := W16.size; have := Z11; omega
  show Gs p e below _ T16 m 23 #[iv ia, iv ib, iv ic, iv ifr, iv ifm, iv ish, .unset, .unset, .unset, .unset, .unset, .unset, .unset, .unset, .unset, .unset, .unset, .unset, .unset, .unset, .unset, .unset, .unset, .unset] [(.ref b1)]
  refine gdup X16 hx (hb hby at_23) trivial rfl ?_
  refine giconst X16 hx (hb hby at_24) ?_
  refine giconst X16 hx (hb hby at_25) ?_
  obtain ⟨T18, h18, cA18, X18, e18, E18, A18, EA18, st18⟩ := newPE X16 hx hZ (hwk hw 2 rfl) e16 (g := (mkF m 26 #[iv ia, iv ib, iv ic, iv ifr, iv ifm, iv ish, .unset, .unset, .unset, .unset, .unset, .unset, .unset, .unset, .unset, .unset, .unset, .unset, .unset, .unset, .unset, .unset, .unset, .unset] [(.int (3 : Int32)), (.int (1 : Int32)), (.ref b1), (.ref b1)])) rfl (hb hby at_26) rfl (by decide) (cap := 3) (by decide) (by decide) (by decide) (by decide) (ad := "[I") (by decide)
  obtain ⟨b18, g18⟩ : ∃ z, z = h16.size := ⟨_, rfl⟩
  rw [← g18] at A18 st18 EA18
  have f19 := (((((f4.ext E3).other W6 ne_dE_b3).other W8 ne_dE_b3).other W11 ne_dE_b3).other W16 ne_dE_b1)
  have ne_dE_b18 : dE ≠ b18 := Nat.ne_of_lt (Nat.lt_of_lt_of_le f19.lt (Nat.le_of_eq g18.symm))
  have f20 := (f15.wr W16)
  have ne_b3_b18 : b3 ≠ b18 := Nat.ne_of_lt (Nat.lt_of_lt_of_le f20.lt (Nat.le_of_eq g18.symm))
  have ne_b1_b18 : b1 ≠ b18 := Nat.ne_of_lt (Nat.lt_of_lt_of_le V16.lt (Nat.le_of_eq g18.symm))
  have lo_b18 : n0 ≤ b18 := by have := Z16; omega
  have hk := Nat.le_trans hk E18.1
  have hR := hR.trans (CHr.ext E18 hR.1)
  have V18 : Arv Z h18 b18 cA18 .int (3 : Int32) [(.int (0 : Int32)), (.int (0 : Int32)), (.int (0 : Int32))] (.int (0 : Int32)) := (Arv.new A18 (by decide)).pad (pad_rep [] _ 3)
  refine Goes.st st18 ?_
  have Z18 : n0 ≤ h18.size := Nat.le_trans Z16 E18.1
  show Gs p e below _ T18 m 28 #[iv ia, iv ib, iv ic, iv ifr, iv ifm, iv ish, .unset, .unset, .unset, .unset, .unset, .unset, .unset, .unset, .unset, .unset, .unset, .unset, .unset, .unset, .unset, .unset, .unset, .unset] [(.ref b18), (.int (1 : Int32)), (.ref b1), (.ref b1)]
  refine gdup X18 hx (hb hby at_28) trivial rfl ?_
  refine giconst X18 hx (hb hby at_29) ?_
  refine giconst X18 hx (hb hby at_30) ?_
  show Gs p e below _ T18 m 31 #[iv ia, iv ib, iv ic, iv ifr, iv ifm, iv ish, .unset, .unset, .unset, .unset, .unset, .unset, .unset, .unset, .unset, .unset, .unset, .unset, .unset, .unset, .unset, .unset, .unset, .unset] [(.int (0 : Int32)), (.int (0 : Int32)), (.ref b18), (.ref b18), (.int (1 : Int32)), (.ref b1), (.ref b1)]
  obtain ⟨cl22, Ar22, qk22, Sz22, qz22, Ha22, Gf22⟩ := id V18
  obtain ⟨T22, h22, X22, e22, W22, st22⟩ := stI X18 hx hZ e18 Ar22 (inb_of Sz22 ⟨by decide, by decide⟩) (g := (mkF m 31 #[iv ia, iv ib, iv ic, iv ifr, iv ifm, iv ish, .unset, .unset, .unset, .unset, .unset, .unset, .unset, .unset, .unset, .unset, .unset, .unset, .unset, .unset, .unset, .unset, .unset, .unset] [(.int (0 : Int32)), (.int (0 : Int32)), (.ref b18), (.ref b18), (.int (1 : Int32)), (.ref b1), (.ref b1)])) rfl rfl (hb hby at_31)
  have N22 := Fr.snoc X22 N16 lo_b18
  have V22 : Arv Z h22 b18 cA18 .int (3 : Int32) [(.int (0 : Int32)), (.int (0 : Int32)), (.int (0 : Int32))] (.int (0 : Int32)) := (Arv.set Ar22 qk22 Sz22 qz22 Ha22 Gf22 rfl W22 0 (by decide) (by simp))
  refine Goes.st st22 ?_
  have hk := Nat.le_trans hk (Nat.le_of_eq W22.size.symm)
  have hR := hR.trans (CHr.wr W22 (Safe.exa hZ.alike EA18 (by decide) (by decide)) hR.1)
  have Z22 : n0 ≤ h22.size := by have := W22.size; have := Z18; omega
  show Gs p e below _ T22 m 32 #[iv ia, iv ib, iv ic, iv ifr, iv ifm, iv ish, .unset, .unset, .unset, .unset, .unset, .unset, .unset, .unset, .unset, .unset, .unset, .unset, .unset, .unset, .unset, .unset, .unset, .unset] [(.ref b18), (.int (1 : Int32)), (.ref b1), (.ref b1)]
  refine gdup X22 hx (hb hby at_32) trivial rfl ?_
  refine giconst X22 hx (hb hby at_33) ?_
  refine giconst X22 hx (hb hby at_34) ?_
  show Gs p e below _ T22 m 35 #[iv ia, iv ib, iv ic, iv ifr, iv ifm, iv ish, .unset, .unset, .unset, .unset, .unset, .unset, .unset, .unset, .unset, .unset, .unset, .unset, .unset, .unset, .unset, .unset, .unset, .unset] [(.int (2 : Int32)), (.int (1 : Int32)), (.ref b18), (.ref b18), (.int (1 : Int32)), (.ref b1), (.ref b1)]
  obtain ⟨cl24, Ar24, qk24, Sz24, qz24, Ha24, Gf24⟩ := id V22
  obtain ⟨T24, h24, X24, e24, W24, st24⟩ := stI X22 hx hZ e22 Ar24 (inb_of Sz24 ⟨by decide, by decide⟩) (g := (mkF m 35 #[iv ia, iv ib, iv ic, iv ifr, iv ifm, iv ish, .unset, .unset, .unset, .unset, .unset, .unset, .unset, .unset, .unset, .unset, .unset, .unset, .unset, .unset, .unset, .unset, .unset, .unset] [(.int (2 : Int32)), (.int (1 : Int32)), (.ref b18), (.ref b18), (.int (1 : Int32)), (.ref b1), (.ref b1)])) rfl rfl (hb hby at_35)
  have N24 := Fr.snoc X24 N22 lo_b18
  have V24 : Arv Z h24 b18 cA18 .int (3 : Int32) [(.int (0 : Int32)), (.int (2 : Int32)), (.int (0 : Int32))] (.int (0 : Int32)) := (Arv.set Ar24 qk24 Sz24 qz24 Ha24 Gf24 rfl W24 1 (by decide) (by simp))
  refine Goes.st st24 ?_
  have hk := Nat.le_trans hk (Nat.le_of_eq W24.size.symm)
  have f25 := (EA18.wr W22)
  have hR := hR.trans (CHr.wr W24 (Safe.exa hZ.alike f25 (by decide) (by decide)) hR.1)
  have Z24 : n0 ≤ h24.size := by have := W24.size; have := Z22; omega
  show Gs p e below _ T24 m 36 #[iv ia, iv ib, iv ic, iv ifr, iv ifm, iv ish, .unset, .unset, .unset, .unset, .unset, .unset, .unset, .unset, .unset, .unset, .unset, .unset, .unset, .unset, .unset, .unset, .unset, .unset] [(.ref b18), (.int (1 : Int32)), (.ref b1), (.ref b1)]
  refine gdup X24 hx (hb hby at_36) trivial rfl ?_
  refine giconst X24 hx (hb hby at_37) ?_
  refine giconst X24 hx (hb hby at_38) ?_
  show Gs p e below _ T24 m 39 #[iv ia, iv ib, iv ic, iv ifr, iv ifm, iv ish, .unset, .unset, .unset, .unset, .unset, .unset, .unset, .unset, .unset, .unset, .unset, .unset, .unset, .unset, .unset, .unset, .unset, .unset] [(.int (1 : Int32)), (.int (2 : Int32)), (.ref b18), (.ref b18), (.int (1 : Int32)), (.ref b1), (.ref b1)]
  obtain ⟨cl27, Ar27, qk27, Sz27, qz27, Ha27, Gf27⟩ := id V24
  obtain ⟨T27, h27, X27, e27, W27, st27⟩ := stI X24 hx hZ e24 Ar27 (inb_of Sz27 ⟨by decide, by decide⟩) (g := (mkF m 39 #[iv ia, iv ib, iv ic, iv ifr, iv ifm, iv ish, .unset, .unset, .unset, .unset, .unset, .unset, .unset, .unset, .unset, .unset, .unset, .unset, .unset, .unset, .unset, .unset, .unset, .unset] [(.int (1 : Int32)), (.int (2 : Int32)), (.ref b18), (.ref b18), (.int (1 : Int32)), (.ref b1), (.ref b1)])) rfl rfl (hb hby at_39)
  have N27 := Fr.snoc X27 N24 lo_b18
  have V27 : Arv Z h27 b18 cA18 .int (3 : Int32) [(.int (0 : Int32)), (.int (2 : Int32)), (.int (1 : Int32))] (.int (0 : Int32)) := (Arv.set Ar27 qk27 Sz27 qz27 Ha27 Gf27 rfl W27 2 (by decide) (by simp))
  refine Goes.st st27 ?_
  have hk := Nat.le_trans hk (Nat.le_of_eq W27.size.symm)
  have f28 := (f25.wr W24)
  have hR := hR.trans (CHr.wr W27 (Safe.exa hZ.alike f28 (by decide) (by decide)) hR.1)
  have Z27 : n0 ≤ h27.size := by have := W27.size; have := Z24; omega
  show Gs p e below _ T27 m 40 #[iv ia, iv ib, iv ic, iv ifr, iv ifm, iv ish, .unset, .unset, .unset, .unset, .unset, .unset, .unset, .unset, .unset, .unset, .unset, .unset, .unset, .unset, .unset, .unset, .unset, .unset] [(.ref b18), (.int (1 : Int32)), (.ref b1), (.ref b1)]
  have f30 := ((((V16.ext E18).other W22 ne_b1_b18).other W24 ne_b1_b18).other W27 ne_b1_b18)
  have f31 := (f28.wr W27)
  obtain ⟨cl32, Ar32, qk32, Sz32, qz32, Ha32, Gf32⟩ := id f30
  obtain ⟨T32, h32, X32, e32, W32, st32⟩ := stR X27 hx hZ e27 Ar32 (inb_of Sz32 ⟨by decide, by decide⟩) rfl (Sto.ofVA Ar32 qk32 OV1 (Ins.of_exa f31 (hwk hw 3 rfl))) (g := (mkF m 40 #[iv ia, iv ib, iv ic, iv ifr, iv ifm, iv ish, .unset, .unset, .unset, .unset, .unset, .unset, .unset, .unset, .unset, .unset, .unset, .unset, .unset, .unset, .unset, .unset, .unset, .unset] [(.ref b18), (.int (1 : Int32)), (.ref b1), (.ref b1)])) rfl rfl (hb hby at_40)
  have N32 := Fr.snoc X32 N27 lo_b1
  have V32 : Arv Z h32 b1 cA1 (.array .int) (6 : Int32) [(.ref b3), (.ref b18), .null, .null, .null, .null] .null := Arv.set Ar32 qk32 Sz32 qz32 Ha32 Gf32 rfl W32 1 (by decide) (by simp)
  refine Goes.st st32 ?_
  have hk := Nat.le_trans hk (Nat.le_of_eq W32.size.symm)
  have hR := hR.trans (CHr.wr W32 (Safe.arv hZ.alike f30 (by decide)) hR.1)
  have Z32 : n0 ≤ h32.size := by have := W32.size; have := Z27; omega
  show Gs p e below _ T32 m 41 #[iv ia, iv ib, iv ic, iv ifr, iv ifm, iv ish, .unset, .unset, .unset, .unset, .unset, .unset, .unset, .unset, .unset, .unset, .unset, .unset, .unset, .unset, .unset, .unset, .unset, .unset] [(.ref b1)]
  refine gdup X32 hx (hb hby at_41) trivial rfl ?_
  refine giconst X32 hx (hb hby at_42) ?_
  refine giconst X32 hx (hb hby at_43) ?_
  obtain ⟨T34, h34, cA34, X34, e34, E34, A34, EA34, st34⟩ := newPE X32 hx hZ (hwk hw 2 rfl) e32 (g := (mkF m 44 #[iv ia, iv ib, iv ic, iv ifr, iv ifm, iv ish, .unset, .unset, .unset, .unset, .unset, .unset, .unset, .unset, .unset, .unset, .unset, .unset, .unset, .unset, .unset, .unset, .unset, .unset] [(.int (3 : Int32)), (.int (2 : Int32)), (.ref b1), (.ref b1)])) rfl (hb hby at_44) rfl (by decide) (cap := 3) (by decide) (by decide) (by decide) (by decide) (ad := "[I") (by decide)
  obtain ⟨b34, g34⟩ : ∃ z, z = h32.size := ⟨_, rfl⟩
  rw [← g34] at A34 st34 EA34
  have f35 := (((((f19.ext E18).other W22 ne_dE_b18).other W24 ne_dE_b18).other W27 ne_dE_b18).other W32 ne_dE_b1)
  have ne_dE_b34 : dE ≠ b34 := Nat.ne_of_lt (Nat.lt_of_lt_of_le f35.lt (Nat.le_of_eq g34.symm))
  have f36 := (((((f20.ext E18).wr W22).wr W24).wr W27).wr W32)
  have ne_b3_b34 : b3 ≠ b34 := Nat.ne_of_lt (Nat.lt_of_lt_of_le f36.lt (Nat.le_of_eq g34.symm))
  have f37 := (f31.wr W32)
  have ne_b18_b34 : b18 ≠ b34 := Nat.ne_of_lt (Nat.lt_of_lt_of_le f37.lt (Nat.le_of_eq g34.symm))
  have ne_b1_b34 : b1 ≠ b34 := Nat.ne_of_lt (Nat.lt_of_lt_of_le V32.lt (Nat.le_of_eq g34.symm))
  have lo_b34 : n0 ≤ b34 := by have := Z32; omega
  have hk := Nat.le_trans hk E34.1
  have hR := hR.trans (CHr.ext E34 hR.1)
  have V34 : Arv Z h34 b34 cA34 .int (3 : Int32) [(.int (0 : Int32)), (.int (0 : Int32)), (.int (0 : Int32))] (.int (0 : Int32)) := (Arv.new A34 (by decide)).pad (pad_rep [] _ 3)
  refine Goes.st st34 ?_
  have Z34 : n0 ≤ h34.size := Nat.le_trans Z32 E34.1
  show Gs p e below _ T34 m 46 #[iv ia, iv ib, iv ic, iv ifr, iv ifm, iv ish, .unset, .unset, .unset, .unset, .unset, .unset, .unset, .unset, .unset, .unset, .unset, .unset, .unset, .unset, .unset, .unset, .unset, .unset] [(.ref b34), (.int (2 : Int32)), (.ref b1), (.ref b1)]
  refine gdup X34 hx (hb hby at_46) trivial rfl ?_
  refine giconst X34 hx (hb hby at_47) ?_
  refine giconst X34 hx (hb hby at_48) ?_
  show Gs p e below _ T34 m 49 #[iv ia, iv ib, iv ic, iv ifr, iv ifm, iv ish, .unset, .unset, .unset, .unset, .unset, .unset, .unset, .unset, .unset, .unset, .unset, .unset, .unset, .unset, .unset, .unset, .unset, .unset] [(.int (1 : Int32)), (.int (0 : Int32)), (.ref b34), (.ref b34), (.int (2 : Int32)), (.ref b1), (.ref b1)]
  obtain ⟨cl39, Ar39, qk39, Sz39, qz39, Ha39, Gf39⟩ := id V34
  obtain ⟨T39, h39, X39, e39, W39, st39⟩ := stI X34 hx hZ e34 Ar39 (inb_of Sz39 ⟨by decide, by decide⟩) (g := (mkF m 49 #[iv ia, iv ib, iv ic, iv ifr, iv ifm, iv ish, .unset, .unset, .unset, .unset, .unset, .unset, .unset, .unset, .unset, .unset, .unset, .unset, .unset, .unset, .unset, .unset, .unset, .unset] [(.int (1 : Int32)), (.int (0 : Int32)), (.ref b34), (.ref b34), (.int (2 : Int32)), (.ref b1), (.ref b1)])) rfl rfl (hb hby at_49)
  have N39 := Fr.snoc X39 N32 lo_b34
  have V39 : Arv Z h39 b34 cA34 .int (3 : Int32) [(.int (1 : Int32)), (.int (0 : Int32)), (.int (0 : Int32))] (.int (0 : Int32)) := (Arv.set Ar39 qk39 Sz39 qz39 Ha39 Gf39 rfl W39 0 (by decide) (by simp))
  refine Goes.st st39 ?_
  have hk := Nat.le_trans hk (Nat.le_of_eq W39.size.symm)
  have hR := hR.trans (CHr.wr W39 (Safe.exa hZ.alike EA34 (by decide) (by decide)) hR.1)
  have Z39 : n0 ≤ h39.size := by have := W39.size; have := Z34; omega
  show Gs p e below _ T39 m 50 #[iv ia, iv ib, iv ic, iv ifr, iv ifm, iv ish, .unset, .unset, .unset, .unset, .unset, .unset, .unset, .unset, .unset, .unset, .unset, .unset, .unset, .unset, .unset, .unset, .unset, .unset] [(.ref b34), (.int (2 : Int32)), (.ref b1), (.ref b1)]
  refine gdup X39 hx (hb hby at_50) trivial rfl ?_
  refine giconst X39 hx (hb hby at_51) ?_
  refine giconst X39 hx (hb hby at_52) ?_
  show Gs p e below _ T39 m 53 #[iv ia, iv ib, iv ic, iv ifr, iv ifm, iv ish, .unset, .unset, .unset, .unset, .unset, .unset, .unset, .unset, .unset, .unset, .unset, .unset, .unset, .unset, .unset, .unset, .unset, .unset] [(.int (0 : Int32)), (.int (1 : Int32)), (.ref b34), (.ref b34), (.int (2 : Int32)), (.ref b1), (.ref b1)]
  obtain ⟨cl41, Ar41, qk41, Sz41, qz41, Ha41, Gf41⟩ := id V39
  obtain ⟨T41, h41, X41, e41, W41, st41⟩ := stI X39 hx hZ e39 Ar41 (inb_of Sz41 ⟨by decide, by decide⟩) (g := (mkF m 53 #[iv ia, iv ib, iv ic, iv ifr, iv ifm, iv ish, .unset, .unset, .unset, .unset, .unset, .unset, .unset, .unset, .unset, .unset, .unset, .unset, .unset, .unset, .unset, .unset, .unset, .unset] [(.int (0 : Int32)), (.int (1 : Int32)), (.ref b34), (.ref b34), (.int (2 : Int32)), (.ref b1), (.ref b1)])) rfl rfl (hb hby at_53)
  have N41 := Fr.snoc X41 N39 lo_b34
  have V41 : Arv Z h41 b34 cA34 .int (3 : Int32) [(.int (1 : Int32)), (.int (0 : Int32)), (.int (0 : Int32))] (.int (0 : Int32)) := (Arv.set Ar41 qk41 Sz41 qz41 Ha41 Gf41 rfl W41 1 (by decide) (by simp))
  refine Goes.st st41 ?_
  have hk := Nat.le_trans hk (Nat.le_of_eq W41.size.symm)
  have f42 := (EA34.wr W39)
  have hR := hR.trans (CHr.wr W41 (Safe.exa hZ.alike f42 (by decide) (by decide)) hR.1)
  have Z41 : n0 ≤ h41.size := by have := W41.size; have := Z39; omega
  show Gs p e below _ T41 m 54 #[iv ia, iv ib, iv ic, iv ifr, iv ifm, iv ish, .unset, .unset, .unset, .unset, .unset, .unset, .unset, .unset, .unset, .unset, .unset, .unset, .unset, .unset, .unset, .unset, .unset, .unset] [(.ref b34), (.int (2 : Int32)), (.ref b1), (.ref b1)]
  refine gdup X41 hx (hb hby at_54) trivial rfl ?_
  refine giconst X41 hx (hb hby at_55) ?_
  refine giconst X41 hx (hb hby at_56) ?_
  show Gs p e below _ T41 m 57 #[iv ia, iv ib, iv ic, iv ifr, iv ifm, iv ish, .unset, .unset, .unset, .unset, .unset, .unset, .unset, .unset, .unset, .unset, .unset, .unset, .unset, .unset, .unset, .unset, .unset, .unset] [(.int (2 : Int32)), (.int (2 : Int32)), (.ref b34), (.ref b34), (.int (2 : Int32)), (.ref b1), (.ref b1)]
  obtain ⟨cl44, Ar44, qk44, Sz44, qz44, Ha44, Gf44⟩ := id V41
  obtain ⟨T44, h44, X44, e44, W44, st44⟩ := stI X41 hx hZ e41 Ar44 (inb_of Sz44 ⟨by decide, by decide⟩) (g := (mkF m 57 #[iv ia, iv ib, iv ic, iv ifr, iv ifm, iv ish, .unset, .unset, .unset, .unset, .unset, .unset, .unset, .unset, .unset, .unset, .unset, .unset, .unset, .unset, .unset, .unset, .unset, .unset] [(.int (2 : Int32)), (.int (2 : Int32)), (.ref b34), (.ref b34), (.int (2 : Int32)), (.ref b1), (.ref b1)])) rfl rfl (hb hby at_57)
  have N44 := Fr.snoc X44 N41 lo_b34
  have V44 : Arv Z h44 b34 cA34 .int (3 : Int32) [(.int (1 : Int32)), (.int (0 : Int32)), (.int (2 : Int32))] (.int (0 : Int32)) := (Arv.set Ar44 qk44 Sz44 qz44 Ha44 Gf44 rfl W44 2 (by decide) (by simp))
  refine Goes.st st44 ?_
  have hk := Nat.le_trans hk (Nat.le_of_eq W44.size.symm)
  have f45 := (f42.wr W41)
  have hR := hR.trans (CHr.wr W44 (Safe.exa hZ.alike f45 (by decide) (by decide)) hR.1)
  have Z44 : n0 ≤ h44.size := by have := W44.size; have := Z41; omega
  show Gs p e below _ T44 m 58 #[iv ia, iv ib, iv ic, iv ifr, iv ifm, iv ish, .unset, .unset, .unset, .unset, .unset, .unset, .unset, .unset, .unset, .unset, .unset, .unset, .unset, .unset, .unset, .unset, .unset, .unset] [(.ref b34), (.int (2 : Int32)), (.ref b1), (.ref b1)]
  have f47 := ((((V32.ext E34).other W39 ne_b1_b34).other W41 ne_b1_b34).other W44 ne_b1_b34)
  have f48 := (f45.wr W44)
  obtain ⟨cl49, Ar49, qk49, Sz49, qz49, Ha49, Gf49⟩ := id f47
  obtain ⟨T49, h49, X49, e49, W49, st49⟩ := stR X44 hx hZ e44 Ar49 (inb_of Sz49 ⟨by decide, by decide⟩) rfl (Sto.ofVA Ar49 qk49 OV1 (Ins.of_exa f48 (hwk hw 3 rfl))) (g := (mkF m 58 #[iv ia, iv ib, iv ic, iv ifr, iv ifm, iv ish, .unset, .unset, .unset, .unset, .unset, .unset, .unset, .unset, .unset, .unset, .unset, .unset, .unset, .unset, .unset, .unset, .unset, .unset] [(.ref b34), (.int (2 : Int32)), (.ref b1), (.ref b1)])) rfl rfl (hb hby at_58)
  have N49 := Fr.snoc X49 N44 lo_b1
  have V49 : Arv Z h49 b1 cA1 (.array .int) (6 : Int32) [(.ref b3), (.ref b18), (.ref b34), .null, .null, .null] .null := Arv.set Ar49 qk49 Sz49 qz49 Ha49 Gf49 rfl W49 2 (by decide) (by simp)
  refine Goes.st st49 ?_
  have hk := Nat.le_trans hk (Nat.le_of_eq W49.size.symm)
  have hR := hR.trans (CHr.wr W49 (Safe.arv hZ.alike f47 (by decide)) hR.1)
  have Z49 : n0 ≤ h49.size := by have := W49.size; have := Z44; omega
  show Gs p e below _ T49 m 59 #[iv ia, iv ib, iv ic, iv ifr, iv ifm, iv ish, .unset, .unset, .unset, .unset, .unset, .unset, .unset, .unset, .unset, .unset, .unset, .unset, .unset, .unset, .unset, .unset, .unset, .unset] [(.ref b1)]
  refine gdup X49 hx (hb hby at_59) trivial rfl ?_
  refine giconst X49 hx (hb hby at_60) ?_
  refine giconst X49 hx (hb hby at_61) ?_
  obtain ⟨T51, h51, cA51, X51, e51, E51, A51, EA51, st51⟩ := newPE X49 hx hZ (hwk hw 2 rfl) e49 (g := (mkF m 62 #[iv ia, iv ib, iv ic, iv ifr, iv ifm, iv ish, .unset, .unset, .unset, .unset, .unset, .unset, .unset, .unset, .unset, .unset, .unset, .unset, .unset, .unset, .unset, .unset, .unset, .unset] [(.int (3 : Int32)), (.int (3 : Int32)), (.ref b1), (.ref b1)])) rfl (hb hby at_62) rfl (by decide) (cap := 3) (by decide) (by decide) (by decide) (by decide) (ad := "[I") (by decide)
  obtain ⟨b51, g51⟩ : ∃ z, z = h49.size := ⟨_, rfl⟩
  rw [← g51] at A51 st51 EA51
  have f52 := (((((f35.ext E34).other W39 ne_dE_b34).other W41 ne_dE_b34).other W44 ne_dE_b34).other W49 ne_dE_b1)
  have ne_dE_b51 : dE ≠ b51 := Nat.ne_of_lt (Nat.lt_of_lt_of_le f52.lt (Nat.le_of_eq g51.symm))
  have f53 := (((((f36.ext E34).wr W39).wr W41).wr W44).wr W49)
  have ne_b3_b51 : b3 ≠ b51 := Nat.ne_of_lt (Nat.lt_of_lt_of_le f53.lt (Nat.le_of_eq g51.symm))
  have f54 := (((((f37.ext E34).wr W39).wr W41).wr W44).wr W49)
  have ne_b18_b51 : b18 ≠ b51 := Nat.ne_of_lt (Nat.lt_of_lt_of_le f54.lt (Nat.le_of_eq g51.symm))
  have f55 := (f48.wr W49)
  have ne_b34_b51 : b34 ≠ b51 := Nat.ne_of_lt (Nat.lt_of_lt_of_le f55.lt (Nat.le_of_eq g51.symm))
  have ne_b1_b51 : b1 ≠ b51 := Nat.ne_of_lt (Nat.lt_of_lt_of_le V49.lt (Nat.le_of_eq g51.symm))
  have lo_b51 : n0 ≤ b51 := by have := Z49; omega
  have hk := Nat.le_trans hk E51.1
  have hR := hR.trans (CHr.ext E51 hR.1)
  have V51 : Arv Z h51 b51 cA51 .int (3 : Int32) [(.int (0 : Int32)), (.int (0 : Int32)), (.int (0 : Int32))] (.int (0 : Int32)) := (Arv.new A51 (by decide)).pad (pad_rep [] _ 3)
  refine Goes.st st51 ?_
  have Z51 : n0 ≤ h51.size := Nat.le_trans Z49 E51.1
  show Gs p e below _ T51 m 64 #[iv ia, iv ib, iv ic, iv ifr, iv ifm, iv ish, .unset, .unset, .unset, .unset, .unset, .unset, .unset, .unset, .unset, .unset, .unset, .unset, .unset, .unset, .unset, .unset, .unset, .unset] [(.ref b51), (.int (3 : Int32)), (.ref b1), (.ref b1)]
  refine gdup X51 hx (hb hby at_64) trivial rfl ?_
  refine giconst X51 hx (hb hby at_65) ?_
  refine giconst X51 hx (hb hby at_66) ?_
  show Gs p e below _ T51 m 67 #[iv ia, iv ib, iv ic, iv ifr, iv ifm, iv ish, .unset, .unset, .unset, .unset, .unset, .unset, .unset, .unset, .unset, .unset, .unset, .unset, .unset, .unset, .unset, .unset, .unset, .unset] [(.int (1 : Int32)), (.int (0 : Int32)), (.ref b51), (.ref b51), (.int (3 : Int32)), (.ref b1), (.ref b1)]
  obtain ⟨cl57, Ar57, qk57, Sz57, qz57, Ha57, Gf57⟩ := id V51
  obtain ⟨T57, h57, X57, e57, W57, st57⟩ := stI X51 hx hZ e51 Ar57 (inb_of Sz57 ⟨by decide, by decide⟩) (g := (mkF m 67 #[iv ia, iv ib, iv ic, iv ifr, iv ifm, iv ish, .unset, .unset, .unset, .unset, .unset, .unset, .unset, .unset, .unset, .unset, .unset, .unset, .unset, .unset, .unset, .unset, .unset, .unset] [(.int (1 : Int32)), (.int (0 : Int32)), (.ref b51), (.ref b51), (.int (3 : Int32)), (.ref b1), (.ref b1)])) rfl rfl (hb hby at_67)
  have N57 := Fr.snoc X57 N49 lo_b51
  have V57 : Arv Z h57 b51 cA51 .int (3 : Int32) [(.int (1 : Int32)), (.int (0 : Int32)), (.int (0 : Int32))] (.int (0 : Int32)) := (Arv.set Ar57 qk57 Sz57 qz57 Ha57 Gf57 rfl W57 0 (by decide) (by simp))
  refine Goes.st st57 ?_
  have hk := Nat.le_trans hk (Nat.le_of_eq W57.size.symm)
  have hR := hR.trans (CHr.wr W57 (Safe.exa hZ.alike EA51 (by decide) (by decide)) hR.1)
  have Z57 : n0 ≤ h57.size := by have := W57.size; have := Z51; omega
  show Gs p e below _ T57 m 68 #[iv ia, iv ib, iv ic, iv ifr, iv ifm, iv ish, .unset, .unset, .unset, .unset, .unset, .unset, .unset, .unset, .unset, .unset, .unset, .unset, .unset, .unset, .unset, .unset, .unset, .unset] [(.ref b51), (.int (3 : Int32)), (.ref b1), (.ref b1)]
  refine gdup X57 hx (hb hby at_68) trivial rfl ?_
  refine giconst X57 hx (hb hby at_69) ?_
  refine giconst X57 hx (hb hby at_70) ?_
  show Gs p e below _ T57 m 71 #[iv ia, iv ib, iv ic, iv ifr, iv ifm, iv ish, .unset, .unset, .unset, .unset, .unset, .unset, .unset, .unset, .unset, .unset, .unset, .unset, .unset, .unset, .unset, .unset, .unset, .unset] [(.int (2 : Int32)), (.int (1 : Int32)), (.ref b51), (.ref b51), (.int (3 : Int32)), (.ref b1), (.ref b1)]
  obtain ⟨cl59, Ar59, qk59, Sz59, qz59, Ha59, Gf59⟩ := id V57
  obtain ⟨T59, h59, X59, e59, W59, st59⟩ := stI X57 hx hZ e57 Ar59 (inb_of Sz59 ⟨by decide, by decide⟩) (g := (mkF m 71 #[iv ia, iv ib, iv ic, iv ifr, iv ifm, iv ish, .unset, .unset, .unset, .unset, .unset, .unset, .unset, .unset, .unset, .unset, .unset, .unset, .unset, .unset, .unset, .unset, .unset, .unset] [(.int (2 : Int32)), (.int (1 : Int32)), (.ref b51), (.ref b51), (.int (3 : Int32)), (.ref b1), (.ref b1)])) rfl rfl (hb hby at_71)
  have N59 := Fr.snoc X59 N57 lo_b51
  have V59 : Arv Z h59 b51 cA51 .int (3 : Int32) [(.int (1 : Int32)), (.int (2 : Int32)), (.int (0 : Int32))] (.int (0 : Int32)) := (Arv.set Ar59 qk59 Sz59 qz59 Ha59 Gf59 rfl W59 1 (by decide) (by simp))
  refine Goes.st st59 ?_
  have hk := Nat.le_trans hk (Nat.le_of_eq W59.size.symm)
  have f60 := (EA51.wr W57)
  have hR := hR.trans (CHr.wr W59 (Safe.exa hZ.alike f60 (by decide) (by decide)) hR.1)
  have Z59 : n0 ≤ h59.size := by have := W59.size; have := Z57; omega
  show Gs p e below _ T59 m 72 #[iv ia, iv ib, iv ic, iv ifr, iv ifm, iv ish, .unset, .unset, .unset, .unset, .unset, .unset, .unset, .unset, .unset, .unset, .unset, .unset, .unset, .unset, .unset, .unset, .unset, .unset] [(.ref b51), (.int (3 : Int32)), (.ref b1), (.ref b1)]
  refine gdup X59 hx (hb hby at_72) trivial rfl ?_
  refine giconst X59 hx (hb hby at_73) ?_
  refine giconst X59 hx (hb hby at_74) ?_
  show Gs p e below _ T59 m 75 #[iv ia, iv ib, iv ic, iv ifr, iv ifm, iv ish, .unset, .unset, .unset, .unset, .unset, .unset, .unset, .unset, .unset, .unset, .unset, .unset, .unset, .unset, .unset, .unset, .unset, .unset] [(.int (0 : Int32)), (.int (2 : Int32)), (.ref b51), (.ref b51), (.int (3 : Int32)), (.ref b1), (.ref b1)]
  obtain ⟨cl62, Ar62, qk62, Sz62, qz62, Ha62, Gf62⟩ := id V59
  obtain ⟨T62, h62, X62, e62, W62, st62⟩ := stI X59 hx hZ e59 Ar62 (inb_of Sz62 ⟨by decide, by decide⟩) (g := (mkF m 75 #[iv ia, iv ib, iv ic, iv ifr, iv ifm, iv ish, .unset, .unset, .unset, .unset, .unset, .unset, .unset, .unset, .unset, .unset, .unset, .unset, .unset, .unset, .unset, .unset, .unset, .unset] [(.int (0 : Int32)), (.int (2 : Int32)), (.ref b51), (.ref b51), (.int (3 : Int32)), (.ref b1), (.ref b1)])) rfl rfl (hb hby at_75)
  have N62 := Fr.snoc X62 N59 lo_b51
  have V62 : Arv Z h62 b51 cA51 .int (3 : Int32) [(.int (1 : Int32)), (.int (2 : Int32)), (.int (0 : Int32))] (.int (0 : Int32)) := (Arv.set Ar62 qk62 Sz62 qz62 Ha62 Gf62 rfl W62 2 (by decide) (by simp))
  refine Goes.st st62 ?_
  have hk := Nat.le_trans hk (Nat.le_of_eq W62.size.symm)
  have f63 := (f60.wr W59)
  have hR := hR.trans (CHr.wr W62 (Safe.exa hZ.alike f63 (by decide) (by decide)) hR.1)
  have Z62 : n0 ≤ h62.size := by have := W62.size; have := Z59; omega
  show Gs p e below _ T62 m 76 #[iv ia, iv ib, iv ic, iv ifr, iv ifm, iv ish, .unset, .unset, .unset, .unset, .unset, .unset, .unset, .unset, .unset, .unset, .unset, .unset, .unset, .unset, .unset, .unset, .unset, .unset] [(.ref b51), (.int (3 : Int32)), (.ref b1), (.ref b1)]
  have f65 := ((((V49.ext E51).other W57 ne_b1_b51).other W59 ne_b1_b51).other W62 ne_b1_b51)
  have f66 := (f63.wr W62)
  obtain ⟨cl67, Ar67, qk67, Sz67, qz67, Ha67, Gf67⟩ := id f65
  obtain ⟨T67, h67, X67, e67, W67, st67⟩ := stR X62 hx hZ e62 Ar67 (inb_of Sz67 ⟨by decide, by decide⟩) rfl (Sto.ofVA Ar67 qk67 OV1 (Ins.of_exa f66 (hwk hw 3 rfl))) (g := (mkF m 76 #[iv ia, iv ib, iv ic, iv ifr, iv ifm, iv ish, .unset, .unset, .unset, .unset, .unset, .unset, .unset, .unset, .unset, .unset, .unset, .unset, .unset, .unset, .unset, .unset, .unset, .unset] [(.ref b51), (.int (3 : Int32)), (.ref b1), (.ref b1)])) rfl rfl (hb hby at_76)
  have N67 := Fr.snoc X67 N62 lo_b1
  have V67 : Arv Z h67 b1 cA1 (.array .int) (6 : Int32) [(.ref b3), (.ref b18), (.ref b34), (.ref b51), .null, .null] .null := Arv.set Ar67 qk67 Sz67 qz67 Ha67 Gf67 rfl W67 3 (by decide) (by simp)
  refine Goes.st st67 ?_
  have hk := Nat.le_trans hk (Nat.le_of_eq W67.size.symm)
  have hR := hR.trans (CHr.wr W67 (Safe.arv hZ.alike f65 (by decide)) hR.1)
  have Z67 : n0 ≤ h67.size := by have := W67.size; have := Z62; omega
  show Gs p e below _ T67 m 77 #[iv ia, iv ib, iv ic, iv ifr, iv ifm, iv ish, .unset, .unset, .unset, .unset, .unset, .unset, .unset, .unset, .unset, .unset, .unset, .unset, .unset, .unset, .unset, .unset, .unset, .unset] [(.ref b1)]
  refine gdup X67 hx (hb hby at_77) trivial rfl ?_
  refine giconst X67 hx (hb hby at_78) ?_
  refine giconst X67 hx (hb hby at_79) ?_
  obtain ⟨T69, h69, cA69, X69, e69, E69, A69, EA69, st69⟩ := newPE X67 hx hZ (hwk hw 2 rfl) e67 (g := (mkF m 80 #[iv ia, iv ib, iv ic, iv ifr, iv ifm, iv ish, .unset, .unset, .unset, .unset, .unset, .unset, .unset, .unset, .unset, .unset, .unset, .unset, .unset, .unset, .unset, .unset, .unset, .unset] [(.int (3 : Int32)), (.int (4 : Int32)), (.ref b1), (.ref b1)])) rfl (hb hby at_80) rfl (by decide) (cap := 3) (by decide) (by decide) (by decide) (by decide) (ad := "[I") (by decide)
  obtain ⟨b69, g69⟩ : ∃ z, z = h67.size := ⟨_, rfl⟩
  rw [← g69] at A69 st69 EA69
  have f70 := (((((f52.ext E51).other W57 ne_dE_b51).other W59 ne_dE_b51).other W62 ne_dE_b51).other W67 ne_dE_b1)
  have ne_dE_b69 : dE ≠ b69 := Nat.ne_of_lt (Nat.lt_of_lt_of_le f70.lt (Nat.le_of_eq g69.symm))
  have f71 := (((((f53.ext E51).wr W57).wr W59).wr W62).wr W67)
  have ne_b3_b69 : b3 ≠ b69 := Nat.ne_of_lt (Nat.lt_of_lt_of_le f71.lt (Nat.le_of_eq g69.symm))
  have f72 := (((((f54.ext E51).wr W57).wr W59).wr W62).wr W67)
  have ne_b18_b69 : b18 ≠ b69 := Nat.ne_of_lt (Nat.lt_of_lt_of_le f72.lt (Nat.le_of_eq g69.symm))
  have f73 := (((((f55.ext E51).wr W57).wr W59).wr W62).wr W67)
  have ne_b34_b69 : b34 ≠ b69 := Nat.ne_of_lt (Nat.lt_of_lt_of_le f73.lt (Nat.le_of_eq g69.symm))
  have f74 := (f66.wr W67)
  have ne_b51_b69 : b51 ≠ b69 := Nat.ne_of_lt (Nat.lt_of_lt_of_le f74.lt (Nat.le_of_eq g69.symm))
  have ne_b1_b69 : b1 ≠ b69 := Nat.ne_of_lt (Nat.lt_of_lt_of_le V67.lt (Nat.le_of_eq g69.symm))
  have lo_b69 : n0 ≤ b69 := by have := Z67; omega
  have hk := Nat.le_trans hk E69.1
  have hR := hR.trans (CHr.ext E69 hR.1)
  have V69 : Arv Z h69 b69 cA69 .int (3 : Int32) [(.int (0 : Int32)), (.int (0 : Int32)), (.int (0 : Int32))] (.int (0 : Int32)) := (Arv.new A69 (by decide)).pad (pad_rep [] _ 3)
  refine Goes.st st69 ?_
  have Z69 : n0 ≤ h69.size := Nat.le_trans Z67 E69.1
  show Gs p e below _ T69 m 82 #[iv ia, iv ib, iv ic, iv ifr, iv ifm, iv ish, .unset, .unset, .unset, .unset, .unset, .unset, .unset, .unset, .unset, .unset, .unset, .unset, .unset, .unset, .unset, .unset, .unset, .unset] [(.ref b69), (.int (4 : Int32)), (.ref b1), (.ref b1)]
  refine gdup X69 hx (hb hby at_82) trivial rfl ?_
  refine giconst X69 hx (hb hby at_83) ?_
  refine giconst X69 hx (hb hby at_84) ?_
  show Gs p e below _ T69 m 85 #[iv ia, iv ib, iv ic, iv ifr, iv ifm, iv ish, .unset, .unset, .unset, .unset, .unset, .unset, .unset, .unset, .unset, .unset, .unset, .unset, .unset, .unset, .unset, .unset, .unset, .unset] [(.int (2 : Int32)), (.int (0 : Int32)), (.ref b69), (.ref b69), (.int (4 : Int32)), (.ref b1), (.ref b1)]
  obtain ⟨cl76, Ar76, qk76, Sz76, qz76, Ha76, Gf76⟩ := id V69
  obtain ⟨T76, h76, X76, e76, W76, st76⟩ := stI X69 hx hZ e69 Ar76 (inb_of Sz76 ⟨by decide, by decide⟩) (g := (mkF m 85 #[iv ia, iv ib, iv ic, iv ifr, iv ifm, iv ish, .unset, .unset, .unset, .unset, .unset, .unset, .unset, .unset, .unset, .unset, .unset, .unset, .unset, .unset, .unset, .unset, .unset, .unset] [(.int (2 : Int32)), (.int (0 : Int32)), (.ref b69), (.ref b69), (.int (4 : Int32)), (.ref b1), (.ref b1)])) rfl rfl (hb hby at_85)
  have N76 := Fr.snoc X76 N67 lo_b69
  have V76 : Arv Z h76 b69 cA69 .int (3 : Int32) [(.int (2 : Int32)), (.int (0 : Int32)), (.int (0 : Int32))] (.int (0 : Int32)) := (Arv.set Ar76 qk76 Sz76 qz76 Ha76 Gf76 rfl W76 0 (by decide) (by simp))
  refine Goes.st st76 ?_
  have hk := Nat.le_trans hk (Nat.le_of_eq W76.size.symm)
  have hR := hR.trans (CHr.wr W76 (Safe.exa hZ.alike EA69 (by decide) (by decide)) hR.1)
  have Z76 : n0 ≤ h76.size := by have := W76.size; have := Z69; omega
  show Gs p e below _ T76 m 86 #[iv ia, iv ib, iv ic, iv ifr, iv ifm, iv ish, .unset, .unset, .unset, .unset, .unset, .unset, .unset, .unset, .unset, .unset, .unset, .unset, .unset, .unset, .unset, .unset, .unset, .unset] [(.ref b69), (.int (4 : Int32)), (.ref b1), (.ref b1)]
  refine gdup X76 hx (hb hby at_86) trivial rfl ?_
  refine giconst X76 hx (hb hby at_87) ?_
  refine giconst X76 hx (hb hby at_88) ?_
  show Gs p e below _ T76 m 89 #[iv ia, iv ib, iv ic, iv ifr, iv ifm, iv ish, .unset, .unset, .unset, .unset, .unset, .unset, .unset, .unset, .unset, .unset, .unset, .unset, .unset, .unset, .unset, .unset, .unset, .unset] [(.int (0 : Int32)), (.int (1 : Int32)), (.ref b69), (.ref b69), (.int (4 : Int32)), (.ref b1), (.ref b1)]
  obtain ⟨cl78, Ar78, qk78, Sz78, qz78, Ha78, Gf78⟩ := id V76
  obtain ⟨T78, h78, X78, e78, W78, st78⟩ := stI X76 hx hZ e76 Ar78 (inb_of Sz78 ⟨by decide, by decide⟩) (g := (mkF m 89 #[iv ia, iv ib, iv ic, iv ifr, iv ifm, iv ish, .unset, .unset, .unset, .unset, .unset, .unset, .unset, .unset, .unset, .unset, .unset, .unset, .unset, .unset, .unset, .unset, .unset, .unset] [(.int (0 : Int32)), (.int (1 : Int32)), (.ref b69), (.ref b69), (.int (4 : Int32)), (.ref b1), (.ref b1)])) rfl rfl (hb hby at_89)
  have N78 := Fr.snoc X78 N76 lo_b69
  have V78 : Arv Z h78 b69 cA69 .int (3 : Int32) [(.int (2 : Int32)), (.int (0 : Int32)), (.int (0 : Int32))] (.int (0 : Int32)) := (Arv.set Ar78 qk78 Sz78 qz78 Ha78 Gf78 rfl W78 1 (by decide) (by simp))
  refine Goes.st st78 ?_
  have hk := Nat.le_trans hk (Nat.le_of_eq W78.size.symm)
  have f79 := (EA69.wr W76)
  have hR := hR.trans (CHr.wr W78 (Safe.exa hZ.alike f79 (by decide) (by decide)) hR.1)
  have Z78 : n0 ≤ h78.size := by have := W78.size; have := Z76; omega
  show Gs p e below _ T78 m 90 #[iv ia, iv ib, iv ic, iv ifr, iv ifm, iv ish, .unset, .unset, .unset, .unset, .unset, .unset, .unset, .unset, .unset, .unset, .unset, .unset, .unset, .unset, .unset, .unset, .unset, .unset] [(.ref b69), (.int (4 : Int32)), (.ref b1), (.ref b1)]
  refine gdup X78 hx (hb hby at_90) trivial rfl ?_
  refine giconst X78 hx (hb hby at_91) ?_
  refine giconst X78 hx (hb hby at_92) ?_
  show Gs p e below _ T78 m 93 #[iv ia, iv ib, iv ic, iv ifr, iv ifm, iv ish, .unset, .unset, .unset, .unset, .unset, .unset, .unset, .unset, .unset, .unset, .unset, .unset, .unset, .unset, .unset, .unset, .unset, .unset] [(.int (1 : Int32)), (.int (2 : Int32)), (.ref b69), (.ref b69), (.int (4 : Int32)), (.ref b1), (.ref b1)]
  obtain ⟨cl81, Ar81, qk81, Sz81, qz81, Ha81, Gf81⟩ := id V78
  obtain ⟨T81, h81, X81, e81, W81, st81⟩ := stI X78 hx hZ e78 Ar81 (inb_of Sz81 ⟨by decide, by decide⟩) (g := (mkF m 93 #[iv ia, iv ib, iv ic, iv ifr, iv ifm, iv ish, .unset, .unset, .unset, .unset, .unset, .unset, .unset, .unset, .unset, .unset, .unset, .unset, .unset, .unset, .unset, .unset, .unset, .unset] [(.int (1 : Int32)), (.int (2 : Int32)), (.ref b69), (.ref b69), (.int (4 : Int32)), (.ref b1), (.ref b1)])) rfl rfl (hb hby at_93)
  have N81 := Fr.snoc X81 N78 lo_b69
  have V81 : Arv Z h81 b69 cA69 .int (3 : Int32) [(.int (2 : Int32)), (.int (0 : Int32)), (.int (1 : Int32))] (.int (0 : Int32)) := (Arv.set Ar81 qk81 Sz81 qz81 Ha81 Gf81 rfl W81 2 (by decide) (by simp))
  refine Goes.st st81 ?_
  have hk := Nat.le_trans hk (Nat.le_of_eq W81.size.symm)
  have f82 := (f79.wr W78)
  have hR := hR.trans (CHr.wr W81 (Safe.exa hZ.alike f82 (by decide) (by decide)) hR.1)
  have Z81 : n0 ≤ h81.size := by have := W81.size; have := Z78; omega
  show Gs p e below _ T81 m 94 #[iv ia, iv ib, iv ic, iv ifr, iv ifm, iv ish, .unset, .unset, .unset, .unset, .unset, .unset, .unset, .unset, .unset, .unset, .unset, .unset, .unset, .unset, .unset, .unset, .unset, .unset] [(.ref b69), (.int (4 : Int32)), (.ref b1), (.ref b1)]
  have f84 := ((((V67.ext E69).other W76 ne_b1_b69).other W78 ne_b1_b69).other W81 ne_b1_b69)
  have f85 := (f82.wr W81)
  obtain ⟨cl86, Ar86, qk86, Sz86, qz86, Ha86, Gf86⟩ := id f84
  obtain ⟨T86, h86, X86, e86, W86, st86⟩ := stR X81 hx hZ e81 Ar86 (inb_of Sz86 ⟨by decide, by decide⟩) rfl (Sto.ofVA Ar86 qk86 OV1 (Ins.of_exa f85 (hwk hw 3 rfl))) (g := (mkF m 94 #[iv ia, iv ib, iv ic, iv ifr, iv ifm, iv ish, .unset, .unset, .unset, .unset, .unset, .unset, .unset, .unset, .unset, .unset, .unset, .unset, .unset, .unset, .unset, .unset, .unset, .unset] [(.ref b69), (.int (4 : Int32)), (.ref b1), (.ref b1)])) rfl rfl (hb hby at_94)
  have N86 := Fr.snoc X86 N81 lo_b1
  have V86 : Arv Z h86 b1 cA1 (.array .int) (6 : Int32) [(.ref b3), (.ref b18), (.ref b34), (.ref b51), (.ref b69), .null] .null := Arv.set Ar86 qk86 Sz86 qz86 Ha86 Gf86 rfl W86 4 (by decide) (by simp)
  refine Goes.st st86 ?_
  have hk := Nat.le_trans hk (Nat.le_of_eq W86.size.symm)
  have hR := hR.trans (CHr.wr W86 (Safe.arv hZ.alike f84 (by decide)) hR.1)
  have Z86 : n0 ≤ h86.size := by have := W86.size; have := Z81; omega
  show Gs p e below _ T86 m 95 #[iv ia, iv ib, iv ic, iv ifr, iv ifm, iv ish, .unset, .unset, .unset, .unset, .unset, .unset, .unset, .unset, .unset, .unset, .unset, .unset, .unset, .unset, .unset, .unset, .unset, .unset] [(.ref b1)]
  refine gdup X86 hx (hb hby at_95) trivial rfl ?_
  refine giconst X86 hx (hb hby at_96) ?_
  refine giconst X86 hx (hb hby at_97) ?_
  obtain ⟨T88, h88, cA88, X88, e88, E88, A88, EA88, st88⟩ := newPE X86 hx hZ (hwk hw 2 rfl) e86 (g := (mkF m 98 #[iv ia, iv ib, iv ic, iv ifr, iv ifm, iv ish, .unset, .unset, .unset, .unset, .unset, .unset, .unset, .unset, .unset, .unset, .unset, .unset, .unset, .unset, .unset, .unset, .unset, .unset] [(.int (3 : Int32)), (.int (5 : Int32)), (.ref b1), (.ref b1)])) rfl (hb hby at_98) rfl (by decide) (cap := 3) (by decide) (by decide) (by decide) (by decide) (ad := "[I") (by decide)
  obtain ⟨b88, g88⟩ : ∃ z, z = h86.size := ⟨_, rfl⟩
  rw [← g88] at A88 st88 EA88
  have f89 := (((((f70.ext E69).other W76 ne_dE_b69).other W78 ne_dE_b69).other W81 ne_dE_b69).other W86 ne_dE_b1)
  have ne_dE_b88 : dE ≠ b88 := Nat.ne_of_lt (Nat.lt_of_lt_of_le f89.lt (Nat.le_of_eq g88.symm))
  have f90 := (((((f71.ext E69).wr W76).wr W78).wr W81).wr W86)
  have ne_b3_b88 : b3 ≠ b88 := Nat.ne_of_lt (Nat.lt_of_lt_of_le f90.lt (Nat.le_of_eq g88.symm))
  have f91 := (((((f72.ext E69).wr W76).wr W78).wr W81).wr W86)
  have ne_b18_b88 : b18 ≠ b88 := Nat.ne_of_lt (Nat.lt_of_lt_of_le f91.lt (Nat.le_of_eq g88.symm))
  have f92 := (((((f73.ext E69).wr W76).wr W78).wr W81).wr W86)
  have ne_b34_b88 : b34 ≠ b88 := Nat.ne_of_lt (Nat.lt_of_lt_of_le f92.lt (Nat.le_of_eq g88.symm))
  have f93 := (((((f74.ext E69).wr W76).wr W78).wr W81).wr W86)
  have ne_b51_b88 : b51 ≠ b88 := Nat.ne_of_lt (Nat.lt_of_lt_of_le f93.lt (Nat.le_of_eq g88.symm))
  have f94 := (f85.wr W86)
  have ne_b69_b88 : b69 ≠ b88 := Nat.ne_of_lt (Nat.lt_of_lt_of_le f94.lt (Nat.le_of_eq g88.symm))
  have ne_b1_b88 : b1 ≠ b88 := Nat.ne_of_lt (Nat.lt_of_lt_of_le V86.lt (Nat.le_of_eq g88.symm))
  have lo_b88 : n0 ≤ b88 := by have := Z86; omega
  have hk := Nat.le_trans hk E88.1
  have hR := hR.trans (CHr.ext E88 hR.1)
  have V88 : Arv Z h88 b88 cA88 .int (3 : Int32) [(.int (0 : Int32)), (.int (0 : Int32)), (.int (0 : Int32))] (.int (0 : Int32)) := (Arv.new A88 (by decide)).pad (pad_rep [] _ 3)
  refine Goes.st st88 ?_
  have Z88 : n0 ≤ h88.size := Nat.le_trans Z86 E88.1
  show Gs p e below _ T88 m 100 #[iv ia, iv ib, iv ic, iv ifr, iv ifm, iv ish, .unset, .unset, .unset, .unset, .unset, .unset, .unset, .unset, .unset, .unset, .unset, .unset, .unset, .unset, .unset, .unset, .unset, .unset] [(.ref b88), (.int (5 : Int32)), (.ref b1), (.ref b1)]
  refine gdup X88 hx (hb hby at_100) trivial rfl ?_
  refine giconst X88 hx (hb hby at_101) ?_
  refine giconst X88 hx (hb hby at_102) ?_
  show Gs p e below _ T88 m 103 #[iv ia, iv ib, iv ic, iv ifr, iv ifm, iv ish, .unset, .unset, .unset, .unset, .unset, .unset, .unset, .unset, .unset, .unset, .unset, .unset, .unset, .unset, .unset, .unset, .unset, .unset] [(.int (2 : Int32)), (.int (0 : Int32)), (.ref b88), (.ref b88), (.int (5 : Int32)), (.ref b1), (.ref b1)]
  obtain ⟨cl96, Ar96, qk96, Sz96, qz96, Ha96, Gf96⟩ := id V88
  obtain ⟨T96, h96, X96, e96, W96, st96⟩ := stI X88 hx hZ e88 Ar96 (inb_of Sz96 ⟨by decide, by decide⟩) (g := (mkF m 103 #[iv ia, iv ib, iv ic, iv ifr, iv ifm, iv ish, .unset, .unset, .unset, .unset, .unset, .unset, .unset, .unset, .unset, .unset, .unset, .unset, .unset, .unset, .unset, .unset, .unset, .unset] [(.int (2 : Int32)), (.int (0 : Int32)), (.ref b88), (.ref b88), (.int (5 : Int32)), (.ref b1), (.ref b1)])) rfl rfl (hb hby at_103)
  have N96 := Fr.snoc X96 N86 lo_b88
  have V96 : Arv Z h96 b88 cA88 .int (3 : Int32) [(.int (2 : Int32)), (.int (0 : Int32)), (.int (0 : Int32))] (.int (0 : Int32)) := (Arv.set Ar96 qk96 Sz96 qz96 Ha96 Gf96 rfl W96 0 (by decide) (by simp))
  refine Goes.st st96 ?_
  have hk := Nat.le_trans hk (Nat.le_of_eq W96.size.symm)
  have hR := hR.trans (CHr.wr W96 (Safe.exa hZ.alike EA88 (by decide) (by decide)) hR.1)
  have Z96 : n0 ≤ h96.size := by have := W96.size; have := Z88; omega
  show Gs p e below _ T96 m 104 #[iv ia, iv ib, iv ic, iv ifr, iv ifm, iv ish, .unset, .unset, .unset, .unset, .unset, .unset, .unset, .unset, .unset, .unset, .unset, .unset, .unset, .unset, .unset, .unset, .unset, .unset] [(.ref b88), (.int (5 : Int32)), (.ref b1), (.ref b1)]
  refine gdup X96 hx (hb hby at_104) trivial rfl ?_
  refine giconst X96 hx (hb hby at_105) ?_
  refine giconst X96 hx (hb hby at_106) ?_
  show Gs p e below _ T96 m 107 #[iv ia, iv ib, iv ic, iv ifr, iv ifm, iv ish, .unset, .unset, .unset, .unset, .unset, .unset, .unset, .unset, .unset, .unset, .unset, .unset, .unset, .unset, .unset, .unset, .unset, .unset] [(.int (1 : Int32)), (.int (1 : Int32)), (.ref b88), (.ref b88), (.int (5 : Int32)), (.ref b1), (.ref b1)]
  obtain ⟨cl98, Ar98, qk98, Sz98, qz98, Ha98, Gf98⟩ := id V96
  obtain ⟨T98, h98, X98, e98, W98, st98⟩ := stI X96 hx hZ e96 Ar98 (inb_of Sz98 ⟨by decide, by decide⟩) (g := (mkF m 107 #[iv ia, iv ib, iv ic, iv ifr, iv ifm, iv ish, .unset, .unset, .unset, .unset, .unset, .unset, .unset, .unset, .unset, .unset, .unset, .unset, .unset, .unset, .unset, .unset, .unset, .unset] [(.int (1 : Int32)), (.int (1 : Int32)), (.ref b88), (.ref b88), (.int (5 : Int32)), (.ref b1), (.ref b1)])) rfl rfl (hb hby at_107)
  have N98 := Fr.snoc X98 N96 lo_b88
  have V98 : Arv Z h98 b88 cA88 .int (3 : Int32) [(.int (2 : Int32)), (.int (1 : Int32)), (.int (0 : Int32))] (.int (0 : Int32)) := (Arv.set Ar98 qk98 Sz98 qz98 Ha98 Gf98 rfl W98 1 (by decide) (by simp))
  refine Goes.st st98 ?_
  have hk := Nat.le_trans hk (Nat.le_of_eq W98.size.symm)
  have f99 := (EA88.wr W96)
  have hR := hR.trans (CHr.wr W98 (Safe.exa hZ.alike f99 (by decide) (by decide)) hR.1)
  have Z98 : n0 ≤ h98.size := by have := W98.size; have := Z96; omega
  show Gs p e below _ T98 m 108 #[iv ia, iv ib, iv ic, iv ifr, iv ifm, iv ish, .unset, .unset, .unset, .unset, .unset, .unset, .unset, .unset, .unset, .unset, .unset, .unset, .unset, .unset, .unset, .unset, .unset, .unset] [(.ref b88), (.int (5 : Int32)), (.ref b1), (.ref b1)]
  refine gdup X98 hx (hb hby at_108) trivial rfl ?_
  refine giconst X98 hx (hb hby at_109) ?_
  refine giconst X98 hx (hb hby at_110) ?_
  show Gs p e below _ T98 m 111 #[iv ia, iv ib, iv ic, iv ifr, iv ifm, iv ish, .unset, .unset, .unset, .unset, .unset, .unset, .unset, .unset, .unset, .unset, .unset, .unset, .unset, .unset, .unset, .unset, .unset, .unset] [(.int (0 : Int32)), (.int (2 : Int32)), (.ref b88), (.ref b88), (.int (5 : Int32)), (.ref b1), (.ref b1)]
  obtain ⟨cl101, Ar101, qk101, Sz101, qz101, Ha101, Gf101⟩ := id V98
  obtain ⟨T101, h101, X101, e101, W101, st101⟩ := stI X98 hx hZ e98 Ar101 (inb_of Sz101 ⟨by decide, by decide⟩) (g := (mkF m 111 #[iv ia, iv ib, iv ic, iv ifr, iv ifm, iv ish, .unset, .unset, .unset, .unset, .unset, .unset, .unset, .unset, .unset, .unset, .unset, .unset, .unset, .unset, .unset, .unset, .unset, .unset] [(.int (0 : Int32)), (.int (2 : Int32)), (.ref b88), (.ref b88), (.int (5 : Int32)), (.ref b1), (.ref b1)])) rfl rfl (hb hby at_111)
  have N101 := Fr.snoc X101 N98 lo_b88
  have V101 : Arv Z h101 b88 cA88 .int (3 : Int32) [(.int (2 : Int32)), (.int (1 : Int32)), (.int (0 : Int32))] (.int (0 : Int32)) := (Arv.set Ar101 qk101 Sz101 qz101 Ha101 Gf101 rfl W101 2 (by decide) (by simp))
  refine Goes.st st101 ?_
  have hk := Nat.le_trans hk (Nat.le_of_eq W101.size.symm)
  have f102 := (f99.wr W98)
  have hR := hR.trans (CHr.wr W101 (Safe.exa hZ.alike f102 (by decide) (by decide)) hR.1)
  have Z101 : n0 ≤ h101.size := by have := W101.size; have := Z98; omega
  show Gs p e below _ T101 m 112 #[iv ia, iv ib, iv ic, iv ifr, iv ifm, iv ish, .unset, .unset, .unset, .unset, .unset, .unset, .unset, .unset, .unset, .unset, .unset, .unset, .unset, .unset, .unset, .unset, .unset, .unset] [(.ref b88), (.int (5 : Int32)), (.ref b1), (.ref b1)]
  have f104 := ((((V86.ext E88).other W96 ne_b1_b88).other W98 ne_b1_b88).other W101 ne_b1_b88)
  have f105 := (f102.wr W101)
  obtain ⟨cl106, Ar106, qk106, Sz106, qz106, Ha106, Gf106⟩ := id f104
  obtain ⟨T106, h106, X106, e106, W106, st106⟩ := stR X101 hx hZ e101 Ar106 (inb_of Sz106 ⟨by decide, by decide⟩) rfl (Sto.ofVA Ar106 qk106 OV1 (Ins.of_exa f105 (hwk hw 3 rfl))) (g := (mkF m 112 #[iv ia, iv ib, iv ic, iv ifr, iv ifm, iv ish, .unset, .unset, .unset, .unset, .unset, .unset, .unset, .unset, .unset, .unset, .unset, .unset, .unset, .unset, .unset, .unset, .unset, .unset] [(.ref b88), (.int (5 : Int32)), (.ref b1), (.ref b1)])) rfl rfl (hb hby at_112)
  have N106 := Fr.snoc X106 N101 lo_b1
  have V106 : Arv Z h106 b1 cA1 (.array .int) (6 : Int32) [(.ref b3), (.ref b18), (.ref b34), (.ref b51), (.ref b69), (.ref b88)] .null := Arv.set Ar106 qk106 Sz106 qz106 Ha106 Gf106 rfl W106 5 (by decide) (by simp)
  refine Goes.st st106 ?_
  have hk := Nat.le_trans hk (Nat.le_of_eq W106.size.symm)
  have hR := hR.trans (CHr.wr W106 (Safe.arv hZ.alike f104 (by decide)) hR.1)
  have Z106 : n0 ≤ h106.size := by have := W106.size; have := Z101; omega
  show Gs p e below _ T106 m 113 #[iv ia, iv ib, iv ic, iv ifr, iv ifm, iv ish, .unset, .unset, .unset, .unset, .unset, .unset, .unset, .unset, .unset, .unset, .unset, .unset, .unset, .unset, .unset, .unset, .unset, .unset] [(.ref b1)]
  refine gastore X106 hx (hb hby at_113) trivial rfl (l' := #[iv ia, iv ib, iv ic, iv ifr, iv ifm, iv ish, rv b1, .unset, .unset, .unset, .unset, .unset, .unset, .unset, .unset, .unset, .unset, .unset, .unset, .unset, .unset, .unset, .unset, .unset]) rfl ?_
  refine gaload X106 hx (hb hby at_115) rfl rfl ?_
  refine giload X106 hx (hb hby at_117) rfl ?_
  show Gs p e below _ T106 m 119 #[iv ia, iv ib, iv ic, iv ifr, iv ifm, iv ish, rv b1, .unset, .unset, .unset, .unset, .unset, .unset, .unset, .unset, .unset, .unset, .unset, .unset, .unset, .unset, .unset, .unset, .unset] [(.int ish), (.ref b1)]
  refine Goes.st (fun tg kg => X106.ldcInt hx hown (mvT hZ (hwk hw 4 rfl)) (g := (mkF m 119 #[iv ia, iv ib, iv ic, iv ifr, iv ifm, iv ish, rv b1, .unset, .unset, .unset, .unset, .unset, .unset, .unset, .unset, .unset, .unset, .unset, .unset, .unset, .unset, .unset, .unset, .unset] [(.int ish), (.ref b1)])) rfl (hb hby at_119) tg kg) ?_
  show Gs p e below _ T106 m 121 #[iv ia, iv ib, iv ic, iv ifr, iv ifm, iv ish, rv b1, .unset, .unset, .unset, .unset, .unset, .unset, .unset, .unset, .unset, .unset, .unset, .unset, .unset, .unset, .unset, .unset, .unset] [(.int (2147483647 : Int32)), (.int ish), (.ref b1)]
  refine giand X106 hx (hb hby at_121) trivial ?_
  refine Goes.st (fun tg kg => XS.bipush X106.here hx rfl (hb hby at_122) kg) ?_
  refine Goes.st (fun tg kg => iremM X106 hx rfl (hb hby at_124) rfl (by decide) kg) ?_
  show Gs p e below _ T106 m 125 #[iv ia, iv ib, iv ic, iv ifr, iv ifm, iv ish, rv b1, .unset, .unset, .unset, .unset, .unset, .unset, .unset, .unset, .unset, .unset, .unset, .unset, .unset, .unset, .unset, .unset, .unset] [(.int ((ish &&& (2147483647 : Int32)) % (6 : Int32))), (.ref b1)]
  have f108 := (((((((((((((((((((((((((((((((Scs.ext E1).ext E3).wr W6).wr W8).wr W11).wr W16).ext E18).wr W22).wr W24).wr W27).wr W32).ext E34).wr W39).wr W41).wr W44).wr W49).ext E51).wr W57).wr W59).wr W62).wr W67).ext E69).wr W76).wr W78).wr W81).wr W86).ext E88).wr W96).wr W98).wr W101).wr W106)
  have f109 := (((((((((((((((((((((((((((((((Sfm.ext E1).ext E3).wr W6).wr W8).wr W11).wr W16).ext E18).wr W22).wr W24).wr W27).wr W32).ext E34).wr W39).wr W41).wr W44).wr W49).ext E51).wr W57).wr W59).wr W62).wr W67).ext E69).wr W76).wr W78).wr W81).wr W86).ext E88).wr W96).wr W98).wr W101).wr W106)
  have f110 := (((((((((((((((((((((((((((((((Sde.ext E1).ext E3).wr W6).wr W8).wr W11).wr W16).ext E18).wr W22).wr W24).wr W27).wr W32).ext E34).wr W39).wr W41).wr W44).wr W49).ext E51).wr W57).wr W59).wr W62).wr W67).ext E69).wr W76).wr W78).wr W81).wr W86).ext E88).wr W96).wr W98).wr W101).wr W106)
  have f111 := (((((f89.ext E88).other W96 ne_dE_b88).other W98 ne_dE_b88).other W101 ne_dE_b88).other W106 ne_dE_b1)
  rcases own_rem6 (own_andn ish (2147483647 : Int32) (by decide)) with qc | qc | qc | qc | qc | qc
  · rw [qc]
    show Gs p e below _ T106 m 125 #[iv ia, iv ib, iv ic, iv ifr, iv ifm, iv ish, rv b1, .unset, .unset, .unset, .unset, .unset, .unset, .unset, .unset, .unset, .unset, .unset, .unset, .unset, .unset, .unset, .unset, .unset] [(.int (0 : Int32)), (.ref b1)]
    obtain ⟨cl112, Ar112, qk112, Sz112, qz112, Ha112, Gf112⟩ := id V106
    have in112 := inb_of (j := (0 : Int32)) Sz112 ⟨by decide, by decide⟩
    refine Goes.st (fun tg kg => X106.aaload hx (j := (0 : Int32)) (v := (.ref b3)) (by rw [e106]; exact Ar112.1) (State.isArrayOf_alike hZ.alike Ar112.2.1) rfl Ar112.2.2 in112 (Ha112.at in112 rfl) (g := (mkF m 125 #[iv ia, iv ib, iv ic, iv ifr, iv ifm, iv ish, rv b1, .unset, .unset, .unset, .unset, .unset, .unset, .unset, .unset, .unset, .unset, .unset, .unset, .unset, .unset, .unset, .unset, .unset] [(.int (0 : Int32)), (.ref b1)])) rfl rfl (hb hby at_125) tg kg) ?_
    show Gs p e below _ T106 m 126 #[iv ia, iv ib, iv ic, iv ifr, iv ifm, iv ish, rv b1, .unset, .unset, .unset, .unset, .unset, .unset, .unset, .unset, .unset, .unset, .unset, .unset, .unset, .unset, .unset, .unset, .unset] [(.ref b3)]
    refine gastore X106 hx (hb hby at_126) trivial rfl (l' := #[iv ia, iv ib, iv ic, iv ifr, iv ifm, iv ish, rv b1, rv b3, .unset, .unset, .unset, .unset, .unset, .unset, .unset, .unset, .unset, .unset, .unset, .unset, .unset, .unset, .unset, .unset]) rfl ?_
    show Gs p e below _ T106 m 128 #[iv ia, iv ib, iv ic, iv ifr, iv ifm, iv ish, rv b1, rv b3, .unset, .unset, .unset, .unset, .unset, .unset, .unset, .unset, .unset, .unset, .unset, .unset, .unset, .unset, .unset, .unset] []
    have f113 := ((((((((((((((((((((((((((V11.other W16 (Ne.symm ne_b1_b3)).ext E18).other W22 ne_b3_b18).other W24 ne_b3_b18).other W27 ne_b3_b18).other W32 (Ne.symm ne_b1_b3)).ext E34).other W39 ne_b3_b34).other W41 ne_b3_b34).other W44 ne_b3_b34).other W49 (Ne.symm ne_b1_b3)).ext E51).other W57 ne_b3_b51).other W59 ne_b3_b51).other W62 ne_b3_b51).other W67 (Ne.symm ne_b1_b3)).ext E69).other W76 ne_b3_b69).other W78 ne_b3_b69).other W81 ne_b3_b69).other W86 (Ne.symm ne_b1_b3)).ext E88).other W96 ne_b3_b88).other W98 ne_b3_b88).other W101 ne_b3_b88).other W106 (Ne.symm ne_b1_b3))
    exact Seg128 Z a0 hw hx hby hlk hret hml hnm _ _ hS hown hZ ia ib ic ifr ifm ish b1 b3 cA3 (0 : Int32) (1 : Int32) (2 : Int32) dE kD cs fm h0 h106 n0 T106 _ X106 e106 N106 Z106 hk hR.1 f108 hcs f109 hfm f110 f111 f113 (Or.inl ⟨rfl, rfl, rfl⟩)
  · rw [qc]
    show Gs p e below _ T106 m 125 #[iv ia, iv ib, iv ic, iv ifr, iv ifm, iv ish, rv b1, .unset, .unset, .unset, .unset, .unset, .unset, .unset, .unset, .unset, .unset, .unset, .unset, .unset, .unset, .unset, .unset, .unset] [(.int (1 : Int32)), (.ref b1)]
    obtain ⟨cl114, Ar114, qk114, Sz114, qz114, Ha114, Gf114⟩ := id V106
    have in114 := inb_of (j := (1 : Int32)) Sz114 ⟨by decide, by decide⟩
    refine Goes.st (fun tg kg => X106.aaload hx (j := (1 : Int32)) (v := (.ref b18)) (by rw [e106]; exact Ar114.1) (State.isArrayOf_alike hZ.alike Ar114.2.1) rfl Ar114.2.2 in114 (Ha114.at in114 rfl) (g := (mkF m 125 #[iv ia, iv ib, iv ic, iv ifr, iv ifm, iv ish, rv b1, .unset, .unset, .unset, .unset, .unset, .unset, .unset, .unset, .unset, .unset, .unset, .unset, .unset, .unset, .unset, .unset, .unset] [(.int (1 : Int32)), (.ref b1)])) rfl rfl (hb hby at_125) tg kg) ?_
    show Gs p e below _ T106 m 126 #[iv ia, iv ib, iv ic, iv ifr, iv ifm, iv ish, rv b1, .unset, .unset, .unset, .unset, .unset, .unset, .unset, .unset, .unset, .unset, .unset, .unset, .unset, .unset, .unset, .unset, .unset] [(.ref b18)]
    refine gastore X106 hx (hb hby at_126) trivial rfl (l' := #[iv ia, iv ib, iv ic, iv ifr, iv ifm, iv ish, rv b1, rv b18, .unset, .unset, .unset, .unset, .unset, .unset, .unset, .unset, .unset, .unset, .unset, .unset, .unset, .unset, .unset, .unset]) rfl ?_
    show Gs p e below _ T106 m 128 #[iv ia, iv ib, iv ic, iv ifr, iv ifm, iv ish, rv b1, rv b18, .unset, .unset, .unset, .unset, .unset, .unset, .unset, .unset, .unset, .unset, .unset, .unset, .unset, .unset, .unset, .unset] []
    have f115 := (((((((((((((((((((((V27.other W32 (Ne.symm ne_b1_b18)).ext E34).other W39 ne_b18_b34).other W41 ne_b18_b34).other W44 ne_b18_b34).other W49 (Ne.symm ne_b1_b18)).ext E51).other W57 ne_b18_b51).other W59 ne_b18_b51).other W62 ne_b18_b51).other W67 (Ne.symm ne_b1_b18)).ext E69).other W76 ne_b18_b69).other W78 ne_b18_b69).other W81 ne_b18_b69).other W86 (Ne.symm ne_b1_b18)).ext E88).other W96 ne_b18_b88).other W98 ne_b18_b88).other W101 ne_b18_b88).other W106 (Ne.symm ne_b1_b18))
    exact Seg128 Z a0 hw hx hby hlk hret hml hnm _ _ hS hown hZ ia ib ic ifr ifm ish b1 b18 cA18 (0 : Int32) (2 : Int32) (1 : Int32) dE kD cs fm h0 h106 n0 T106 _ X106 e106 N106 Z106 hk hR.1 f108 hcs f109 hfm f110 f111 f115 (Or.inr (Or.inl ⟨rfl, rfl, rfl⟩))
  · rw [qc]
    show Gs p e below _ T106 m 125 #[iv ia, iv ib, iv ic, iv ifr, iv ifm, iv ish, rv b1, .unset, .unset, .unset, .unset, .unset, .unset, .unset, .unset, .unset, .unset, .unset, .unset, .unset, .unset, .unset, .unset, .unset] [(.int (2 : Int32)), (.ref b1)]
    obtain ⟨cl116, Ar116, qk116, Sz116, qz116, Ha116, Gf116⟩ := id V106
    have in116 := inb_of (j := (2 : Int32)) Sz116 ⟨by decide, by decide⟩
    refine Goes.st (fun tg kg => X106.aaload hx (j := (2 : Int32)) (v := (.ref b34)) (by rw [e106]; exact Ar116.1) (State.isArrayOf_alike hZ.alike Ar116.2.1) rfl Ar116.2.2 in116 (Ha116.at in116 rfl) (g := (mkF m 125 #[iv ia, iv ib, iv ic, iv ifr, iv ifm, iv ish, rv b1, .unset, .unset, .unset, .unset, .unset, .unset, .unset, .unset, .unset, .unset, .unset, .unset, .unset, .unset, .unset, .unset, .unset] [(.int (2 : Int32)), (.ref b1)])) rfl rfl (hb hby at_125) tg kg) ?_
    show Gs p e below _ T106 m 126 #[iv ia, iv ib, iv ic, iv ifr, iv ifm, iv ish, rv b1, .unset, .unset, .unset, .unset, .unset, .unset, .unset, .unset, .unset, .unset, .unset, .unset, .unset, .unset, .unset, .unset, .unset] [(.ref b34)]
    refine gastore X106 hx (hb hby at_126) trivial rfl (l' := #[iv ia, iv ib, iv ic, iv ifr, iv ifm, iv ish, rv b1, rv b34, .unset, .unset, .unset, .unset, .unset, .unset, .unset, .unset, .unset, .unset, .unset, .unset, .unset, .unset, .unset, .unset]) rfl ?_
    show Gs p e below _ T106 m 128 #[iv ia, iv ib, iv ic, iv ifr, iv ifm, iv ish, rv b1, rv b34, .unset, .unset, .unset, .unset, .unset, .unset, .unset, .unset, .unset, .unset, .unset, .unset, .unset, .unset, .unset, .unset] []
    have f117 := ((((((((((((((((V44.other W49 (Ne.symm ne_b1_b34)).ext E51).other W57 ne_b34_b51).other W59 ne_b34_b51).other W62 ne_b34_b51).other W67 (Ne.symm ne_b1_b34)).ext E69).other W76 ne_b34_b69).other W78 ne_b34_b69).other W81 ne_b34_b69).other W86 (Ne.symm ne_b1_b34)).ext E88).other W96 ne_b34_b88).other W98 ne_b34_b88).other W101 ne_b34_b88).other W106 (Ne.symm ne_b1_b34))
    exact Seg128 Z a0 hw hx hby hlk hret hml hnm _ _ hS hown hZ ia ib ic ifr ifm ish b1 b34 cA34 (1 : Int32) (0 : Int32) (2 : Int32) dE kD cs fm h0 h106 n0 T106 _ X106 e106 N106 Z106 hk hR.1 f108 hcs f109 hfm f110 f111 f117 (Or.inr (Or.inr (Or.inl ⟨rfl, rfl, rfl⟩)))
  · rw [qc]
    show Gs p e below _ T106 m 125 #[iv ia, iv ib, iv ic, iv ifr, iv ifm, iv ish, rv b1, .unset, .unset, .unset, .unset, .unset, .unset, .unset, .unset, .unset, .unset, .unset, .unset, .unset, .unset, .unset, .unset, .unset] [(.int (3 : Int32)), (.ref b1)]
    obtain ⟨cl118, Ar118, qk118, Sz118, qz118, Ha118, Gf118⟩ := id V106
    have in118 := inb_of (j := (3 : Int32)) Sz118 ⟨by decide, by decide⟩
    refine Goes.st (fun tg kg => X106.aaload hx (j := (3 : Int32)) (v := (.ref b51)) (by rw [e106]; exact Ar118.1) (State.isArrayOf_alike hZ.alike Ar118.2.1) rfl Ar118.2.2 in118 (Ha118.at in118 rfl) (g := (mkF m 125 #[iv ia, iv ib, iv ic, iv ifr, iv ifm, iv ish, rv b1, .unset, .unset, .unset, .unset, .unset, .unset, .unset, .unset, .unset, .unset, .unset, .unset, .unset, .unset, .unset, .unset, .unset] [(.int (3 : Int32)), (.ref b1)])) rfl rfl (hb hby at_125) tg kg) ?_
    show Gs p e below _ T106 m 126 #[iv ia, iv ib, iv ic, iv ifr, iv ifm, iv ish, rv b1, .unset, .unset, .unset, .unset, .unset, .unset, .unset, .unset, .unset, .unset, .unset, .unset, .unset, .unset, .unset, .unset, .unset] [(.ref b51)]
    refine gastore X106 hx (hb hby at_126) trivial rfl (l' := #[iv ia, iv ib, iv ic, iv ifr, iv ifm, iv ish, rv b1, rv b51, .unset, .unset, .unset, .unset, .unset, .unset, .unset, .unset, .unset, .unset, .unset, .unset, .unset, .unset, .unset, .unset]) rfl ?_
    show Gs p e below _ T106 m 128 #[iv ia, iv ib, iv ic, iv ifr, iv ifm, iv ish, rv b1, rv b51, .unset, .unset, .unset, .unset, .unset, .unset, .unset, .unset, .unset, .unset, .unset, .unset, .unset, .unset, .unset, .unset] []
    have f119 := (((((((((((V62.other W67 (Ne.symm ne_b1_b51)).ext E69).other W76 ne_b51_b69).other W78 ne_b51_b69).other W81 ne_b51_b69).other W86 (Ne.symm ne_b1_b51)).ext E88).other W96 ne_b51_b88).other W98 ne_b51_b88).other W101 ne_b51_b88).other W106 (Ne.symm ne_b1_b51))
    exact Seg128 Z a0 hw hx hby hlk hret hml hnm _ _ hS hown hZ ia ib ic ifr ifm ish b1 b51 cA51 (1 : Int32) (2 : Int32) (0 : Int32) dE kD cs fm h0 h106 n0 T106 _ X106 e106 N106 Z106 hk hR.1 f108 hcs f109 hfm f110 f111 f119 (Or.inr (Or.inr (Or.inr (Or.inl ⟨rfl, rfl, rfl⟩))))
  · rw [qc]
    show Gs p e below _ T106 m 125 #[iv ia, iv ib, iv ic, iv ifr, iv ifm, iv ish, rv b1, .unset, .unset, .unset, .unset, .unset, .unset, .unset, .unset, .unset, .unset, .unset, .unset, .unset, .unset, .unset, .unset, .unset] [(.int (4 : Int32)), (.ref b1)]
    obtain ⟨cl120, Ar120, qk120, Sz120, qz120, Ha120, Gf120⟩ := id V106
    have in120 := inb_of (j := (4 : Int32)) Sz120 ⟨by decide, by decide⟩
    refine Goes.st (fun tg kg => X106.aaload hx (j := (4 : Int32)) (v := (.ref b69)) (by rw [e106]; exact Ar120.1) (State.isArrayOf_alike hZ.alike Ar120.2.1) rfl Ar120.2.2 in120 (Ha120.at in120 rfl) (g := (mkF m 125 #[iv ia, iv ib, iv ic, iv ifr, iv ifm, iv ish, rv b1, .unset, .unset, .unset, .unset, .unset, .unset, .unset, .unset, .unset, .unset, .unset, .unset, .unset, .unset, .unset, .unset, .unset] [(.int (4 : Int32)), (.ref b1)])) rfl rfl (hb hby at_125) tg kg) ?_
    show Gs p e below _ T106 m 126 #[iv ia, iv ib, iv ic, iv ifr, iv ifm, iv ish, rv b1, .unset, .unset, .unset, .unset, .unset, .unset, .unset, .unset, .unset, .unset, .unset, .unset, .unset, .unset, .unset, .unset, .unset] [(.ref b69)]
    refine gastore X106 hx (hb hby at_126) trivial rfl (l' := #[iv ia, iv ib, iv ic, iv ifr, iv ifm, iv ish, rv b1, rv b69, .unset, .unset, .unset, .unset, .unset, .unset, .unset, .unset, .unset, .unset, .unset, .unset, .unset, .unset, .unset, .unset]) rfl ?_
    show Gs p e below _ T106 m 128 #[iv ia, iv ib, iv ic, iv ifr, iv ifm, iv ish, rv b1, rv b69, .unset, .unset, .unset, .unset, .unset, .unset, .unset, .unset, .unset, .unset, .unset, .unset, .unset, .unset, .unset, .unset] []
    have f121 := ((((((V81.other W86 (Ne.symm ne_b1_b69)).ext E88).other W96 ne_b69_b88).other W98 ne_b69_b88).other W101 ne_b69_b88).other W106 (Ne.symm ne_b1_b69))
    exact Seg128 Z a0 hw hx hby hlk hret hml hnm _ _ hS hown hZ ia ib ic ifr ifm ish b1 b69 cA69 (2 : Int32) (0 : Int32) (1 : Int32) dE kD cs fm h0 h106 n0 T106 _ X106 e106 N106 Z106 hk hR.1 f108 hcs f109 hfm f110 f111 f121 (Or.inr (Or.inr (Or.inr (Or.inr (Or.inl ⟨rfl, rfl, rfl⟩)))))
  · rw [qc]
    show Gs p e below _ T106 m 125 #[iv ia, iv ib, iv ic, iv ifr, iv ifm, iv ish, rv b1, .unset, .unset, .unset, .unset, .unset, .unset, .unset, .unset, .unset, .unset, .unset, .unset, .unset, .unset, .unset, .unset, .unset] [(.int (5 : Int32)), (.ref b1)]
    obtain ⟨cl122, Ar122, qk122, Sz122, qz122, Ha122, Gf122⟩ := id V106
    have in122 := inb_of (j := (5 : Int32)) Sz122 ⟨by decide, by decide⟩
    refine Goes.st (fun tg kg => X106.aaload hx (j := (5 : Int32)) (v := (.ref b88)) (by rw [e106]; exact Ar122.1) (State.isArrayOf_alike hZ.alike Ar122.2.1) rfl Ar122.2.2 in122 (Ha122.at in122 rfl) (g := (mkF m 125 #[iv ia, iv ib, iv ic, iv ifr, iv ifm, iv ish, rv b1, .unset, .unset, .unset, .unset, .unset, .unset, .unset, .unset, .unset, .unset, .unset, .unset, .unset, .unset, .unset, .unset, .unset] [(.int (5 : Int32)), (.ref b1)])) rfl rfl (hb hby at_125) tg kg) ?_
    show Gs p e below _ T106 m 126 #[iv ia, iv ib, iv ic, iv ifr, iv ifm, iv ish, rv b1, .unset, .unset, .unset, .unset, .unset, .unset, .unset, .unset, .unset, .unset, .unset, .unset, .unset, .unset, .unset, .unset, .unset] [(.ref b88)]
    refine gastore X106 hx (hb hby at_126) trivial rfl (l' := #[iv ia, iv ib, iv ic, iv ifr, iv ifm, iv ish, rv b1, rv b88, .unset, .unset, .unset, .unset, .unset, .unset, .unset, .unset, .unset, .unset, .unset, .unset, .unset, .unset, .unset, .unset]) rfl ?_
    show Gs p e below _ T106 m 128 #[iv ia, iv ib, iv ic, iv ifr, iv ifm, iv ish, rv b1, rv b88, .unset, .unset, .unset, .unset, .unset, .unset, .unset, .unset, .unset, .unset, .unset, .unset, .unset, .unset, .unset, .unset] []
    have f123 := (V101.other W106 (Ne.symm ne_b1_b88))
    exact Seg128 Z a0 hw hx hby hlk hret hml hnm _ _ hS hown hZ ia ib ic ifr ifm ish b1 b88 cA88 (2 : Int32) (1 : Int32) (0 : Int32) dE kD cs fm h0 h106 n0 T106 _ X106 e106 N106 Z106 hk hR.1 f108 hcs f109 hfm f110 f111 f123 (Or.inr (Or.inr (Or.inr (Or.inr (Or.inr (⟨rfl, rfl, rfl⟩))))))
set_option maxRecDepth 65536 in
set_option maxHeartbeats 40000000 in
theorem comes_1 {Post : Tables → Env → Array Value → State → Outcome → State → Prop} (hpost : ∀ tb e args s v u, (limb_1_1.after args s (.returned v) u = true ∧ limb_1_2.after args s (.returned v) u = true ∧ True) → ReturnedEndW s (.returned v) u (Jvm.fieldLocs frame_1_writes args s ++ Jvm.arrayLocs frame_1_arrays args s ++ Jvm.staticLocs frame_1_statics s) 56 4416 → Post tb e args s (.returned v) u) :
    ArmFor flags0 classFile x code maxLocals ret World_1 tables_1 room_1 Calls_1 rest_1 Pre_1 Post := by
  intro l hfl _ _ p e ha hc hk s m args below hf hA hF happ hP
  obtain ⟨hcalls, hrest, hpre⟩ := hP
  obtain ⟨-, -, -, hnamed, -, -, -, hat⟩ := (Spec.applies_iff hf).mp happ
  obtain ⟨hg, hn⟩ := and_e (Cond.before_iff.mp (show (Jvm.Cond.and given_1 narrow_1).before args s = true from hpre))
  obtain ⟨hcnt, hg⟩ := and_e hg
  obtain ⟨ga0, hg⟩ := and_e hg
  obtain ⟨ga1, hg⟩ := and_e hg
  obtain ⟨ga2, hg⟩ := and_e hg
  obtain ⟨ga3, hg⟩ := and_e hg
  obtain ⟨ga4, hg⟩ := and_e hg
  have ga5 := hg
  obtain ⟨w0, w1, w2, w3, w4, w5, rfl⟩ : ∃ w0 w1 w2 w3 w4 w5 : Value, args = #[w0, w1, w2, w3, w4, w5] := by
    have hs : args.size = 6 := by simpa [Cond.value, given_1] using hcnt
    obtain ⟨L⟩ := args
    match L, hs with
    | [w0, w1, w2, w3, w4, w5], _ => exact ⟨w0, w1, w2, w3, w4, w5, rfl⟩
  have hw := fun d (hd : d ∈ tables_1) => atoms_spec (ws := Jvm.Cond.code x code maxLocals ret :: tables_1) hat d (List.mem_cons_of_mem _ hd)
  have hfit : Fit s := fun {y c} hc i hi => by
    obtain ⟨ha, rfl⟩ := Array.getElem?_eq_some_iff.mp hc
    have q := List.all_eq_true.mp ((Array.all_eq_true_iff_forall_mem.mp hF) _ (Array.getElem_mem ha)) i (List.mem_range.mpr hi)
    simpa [Array.getElem?_eq_getElem hi] using q
  obtain ⟨i0, q0⟩ := is_v ga0
  obtain rfl : w0 = (.int i0) := Option.some.inj q0
  obtain ⟨i1, q1⟩ := is_v ga1
  obtain rfl : w1 = (.int i1) := Option.some.inj q1
  obtain ⟨i2, q2⟩ := is_v ga2
  obtain rfl : w2 = (.int i2) := Option.some.inj q2
  obtain ⟨i3, q3⟩ := is_v ga3
  obtain rfl : w3 = (.int i3) := Option.some.inj q3
  obtain ⟨i4, q4⟩ := is_v ga4
  obtain rfl : w4 = (.int i4) := Option.some.inj q4
  obtain ⟨i5, q5⟩ := is_v ga5
  obtain rfl : w5 = (.int i5) := Option.some.inj q5
  obtain ⟨hsets, hown0⟩ := atoms_of _ (rest_1_c_eq ▸ (show rest_1_c.before _ s = true from hrest))
  have n5 := not_v (Cond.before_iff.mp (hsets _ (List.mem_of_getElem? (i := 11) rfl)))
  obtain ⟨csv, e10⟩ := is_v (Cond.before_iff.mp (hsets _ (List.mem_of_getElem? (i := 10) rfl)))
  have Scs : Sta s s.heap "java/lang/String" "COMPACT_STRINGS" "Z" (.int csv) := Sta.start e10 (Or.inl (hsets _ (List.mem_of_getElem? (i := 9) rfl)))
  have hcs : ¬ (csv = (0 : Int32)) := gotF (Cond.eq_ints e10 (Term.int_eval (0))) n5
  obtain ⟨fmv, e17, hfm⟩ := isR_v (Cond.before_iff.mp (hsets _ (List.mem_of_getElem? (i := 17) rfl)))
  have Sfm : Sta s s.heap "jdk/internal/util/Preconditions" "SIOOBE_FORMATTER" "Ljava/util/function/BiFunction;" fmv := Sta.start e17 (Or.inl (hsets _ (List.mem_of_getElem? (i := 16) rfl)))
  obtain ⟨dE, eD⟩ := arr_v (Cond.before_iff.mp (hsets _ (List.mem_of_getElem? (i := 6) rfl)))
  have Sde : Sta s s.heap "java/util/ArrayList" "DEFAULTCAPACITY_EMPTY_ELEMENTDATA" "[Ljava/lang/Object;" (.ref dE) := Sta.start eD (Or.inr ⟨hwk hw 11 rfl, (hsets _ (List.mem_of_getElem? (i := 2) rfl))⟩)
  have lD := eqv_i (Term.int_eval (0)) (Cond.before_iff.mp (hsets _ (List.mem_of_getElem? (i := 8) rfl)))
  obtain ⟨xD, cD, fD, aD, vD, sD⟩ := Jvm.Free.SB.Term.length_small lD
  obtain ⟨c2, AD⟩ := Arr.start eD (Cond.before_iff.mp (hsets _ (List.mem_of_getElem? (i := 6) rfl)))
  cases eD.symm.trans fD
  cases (Arr.fin (U := s) (Vm.Alike.refl _) AD).symm.trans aD
  have Ade : Arv s s.heap dE cD.cls (.object "java/lang/Object") (0 : Int32) [] .null := Arv.start hfit AD sD (by injection vD with z; exact z.symm) (by decide) rfl trivial
  have hH : CHv s ELs s.vm s.heap := CHv.start (hELs hw) (fun p hp => hcalls.1 p (List.mem_cons_of_mem _ hp)) (hsets _ (List.mem_of_getElem? (i := 11) rfl)) (hwk hw 41 rfl) (hwk hw 40 rfl)
  obtain ⟨n, o, h1, h2, h3, _, L, rfl, ⟨rfl, N⟩, hq⟩ := rm0 l s _ hw tables_1 i0 i1 i2 i3 i4 i5 dE cD.cls csv fmv s.heap s.heap.size (Nat.le_refl _) Scs hcs Sfm hfm Sde Ade p e ha hc hk s m _ below hf ((Spec.applies_iff_loose hf).mp happ).1 ⟨rfl, State.Warmed39.refl s, rfl, hH⟩ trivial
  refine ⟨n, _, h1, h2, h3, hpost _ _ _ _ _ _ ⟨Cond.after_iff.mpr rfl, Cond.after_iff.mpr (eq_i res_at (Term.int_eval (1)) rfl), trivial⟩ ⟨hq.1, hq.2.1, hq.2.2.1, (hq.2.2.2.sift fun y hy => Or.inr (N y hy)).mono (by decide) (by decide)⟩⟩
theorem main_1_1 : Claimed_1_1 := comes_1 fun _ _ _ _ _ _ h hF => ⟨h.1, hF⟩
theorem main_1_2 : Claimed_1_2 := comes_1 fun _ _ _ _ _ _ h hF => ⟨h.2.1, hF⟩
end Jvm.Pilot.@@N@@
namespace Jvm.Pilot.@@N@@
open Jvm Jvm.ClassFile Sem Op Lib Jvm.Free Jvm.Stand Jvm.Pilot.@@N@@.Jvm.D
/-! MADE BY PROGRAM (witnessworld.py) out of the Statement's table words and the real class files: 35 classes; the members and pool entries that the words name. The judged class is class 1, her method 1. -/
namespace start1
open Jvm.ClassFile
def u (s : String) : CpInfo := .utf8 (stringToUtf16 s)
/-- a pool by its gaps: so many unusable entries, then the entry; so many at the end -/
def gap : Nat → List CpInfo → List CpInfo
  | 0, r => r
  | n + 1, r => .unusable :: gap n r
def poolList (es : List (Nat × CpInfo)) (last : Nat) : List CpInfo := es.foldr (fun e r => gap e.1 (e.2 :: r)) (gap last [])
def pool (es : List (Nat × CpInfo)) (last : Nat) : Array CpInfo := ⟨poolList es last⟩
def fileOf (pool : Array CpInfo) (this : Nat) (attrs : Array Attribute := #[]) (ms : Array MethodInfo := #[]) (fl : Nat := 33) (sup : Nat := 0) (ifs : Array Nat := #[]) (fds : Array FieldInfo := #[]) : ClassFile where
  minorVersion := 0
  majorVersion := 65
  constantPool := pool
  accessFlags := fl
  thisClass := this
  superClass := sup
  interfaces := ifs
  fields := fds
  methods := ms
  attributes := attrs
def plain (name : String) (sup : Option ClassId) : Class where
  name := name
  kind := .ordinary
  loader := none
  accessFlags := 33
  super := sup
  interfaces := #[]
  cf := none
  fields := #[]
  methods := #[]
  instanceTypes := #[]
  staticTypes := #[]
  resolved := #[]
  callSites := []
  init := .initialized
  statics := none
  mirror := none

def pool0 : Array CpInfo := pool [(5, u "<init>"), (0, u "()V"), (1, .class_ 10), (1, u "java/lang/Object")] 113

def k0c0 : Code := { maxStack := 0, maxLocals := 1, code := object_method_1_code, exceptionTable := #[], attributes := #[] }
def k0m0 : Method := { name := "<init>", desc := "()V", sig := { parameters := [], returnType := none }, accessFlags := 1, code := some k0c0 }
/-- java/lang/Object -/
def k0 : Class := { plain "java/lang/Object" none with
  accessFlags := 33
  interfaces := #[]
  cf := some (fileOf pool0 8 #[] #[{ accessFlags := 1, nameIndex := 5, descriptorIndex := 6, attributes := #[] }] 33 0 #[] #[])
  fields := #[]
  methods := #[k0m0]
  instanceTypes := #[]
  staticTypes := #[]
  resolved := Array.replicate 124 none
  statics := none }

def pool1 : Array CpInfo := pool [(2, .class_ 4), (0, .nameAndType 5 6), (0, u "java/lang/Object"), (0, u "<init>"), (0, u "()V"), (0, .class_ 8), (0, u "[I"), (0, .integer 2147483647), (0, .methodref 11 12), (0, .class_ 13), (0, .nameAndType 14 15), (0, u "java/lang/Math"), (0, u "max"), (0, u "(II)I"), (0, .class_ 17), (0, u "java/util/ArrayList"), (0, .methodref 16 3), (0, .class_ 20), (0, u "com/example/redoubt/redoubt/engine/Job"), (0, .string 22), (0, u "a"), (0, .methodref 19 24), (0, .nameAndType 5 25), (0, u "(Ljava/lang/String;ID)V"), (0, .methodref 16 27), (0, .nameAndType 28 29), (0, u "add"), (0, u "(Ljava/lang/Object;)Z"), (0, .string 31), (0, u "b"), (0, .string 33), (0, u "c"), (0, .class_ 35), (0, u "com/example/redoubt/redoubt/policies/FirstFitQueue"), (0, .methodref 34 37), (0, .nameAndType 5 38), (0, u "(Ljava/util/List;[II)V"), (0, .methodref 34 40), (0, .nameAndType 28 15), (2, .integer 2147483646), (0, .methodref 11 45), (0, .nameAndType 46 15), (0, u "min"), (0, .methodref 34 48), (0, .nameAndType 49 15), (0, u "firstFitting"), (0, .methodref 51 52), (0, .class_ 53), (0, .nameAndType 54 55), (0, u "com/example/redoubt/redoubt/policies/FirstFitQueueFirstFittingPinLaw"), (0, u "rankIn"), (0, u "([II)I"), (0, .methodref 51 57), (0, .nameAndType 58 59), (0, u "pick"), (0, u "(IZIIII)I"), (2, u "law"), (0, u "(IIIIII)Z")] 5

def k1m0 : Method := { name := "<init>", desc := "()V", sig := { parameters := [], returnType := none }, accessFlags := 1, code := none }
def k1c1 : Code := { maxStack := 7, maxLocals := 24, code := code, exceptionTable := #[], attributes := #[] }
def k1m1 : Method := { name := "law", desc := "(IIIIII)Z", sig := { parameters := [.int, .int, .int, .int, .int, .int], returnType := some .boolean }, accessFlags := 9, code := some k1c1 }
def k1c2 : Code := { maxStack := 2, maxLocals := 2, code := method_3_code, exceptionTable := #[], attributes := #[] }
def k1m2 : Method := { name := "rankIn", desc := "([II)I", sig := { parameters := [(.array .int), .int], returnType := some .int }, accessFlags := 10, code := some k1c2 }
def k1c3 : Code := { maxStack := 2, maxLocals := 6, code := method_4_code, exceptionTable := #[], attributes := #[] }
def k1m3 : Method := { name := "pick", desc := "(IZIIII)I", sig := { parameters := [.int, .boolean, .int, .int, .int, .int], returnType := some .int }, accessFlags := 10, code := some k1c3 }
/-- com/example/redoubt/redoubt/policies/FirstFitQueueFirstFittingPinLaw -/
def k1 : Class := { plain "com/example/redoubt/redoubt/policies/FirstFitQueueFirstFittingPinLaw" (some 0) with
  accessFlags := 49
  interfaces := #[]
  cf := some (fileOf pool1 51 #[] #[{ accessFlags := 1, nameIndex := 5, descriptorIndex := 6, attributes := #[] }, { accessFlags := 9, nameIndex := 62, descriptorIndex := 63, attributes := #[] }, { accessFlags := 10, nameIndex := 54, descriptorIndex := 55, attributes := #[] }, { accessFlags := 10, nameIndex := 58, descriptorIndex := 59, attributes := #[] }] 49 2 #[] #[])
  fields := #[]
  methods := #[k1m0, k1m1, k1m2, k1m3]
  instanceTypes := #[]
  staticTypes := #[]
  resolved := Array.replicate 69 none
  statics := none }

def pool2 : Array CpInfo := pool [(1, .class_ 2), (0, u "java/lang/Math"), (1, .class_ 6), (1, u "java/lang/Object"), (0, u "<init>"), (0, u "()V"), (89, .class_ 100), (1, u "java/lang/Math$RandomNumberGeneratorHolder"), (71, u "negativeZeroFloatBits"), (0, u "J"), (2, u "negativeZeroDoubleBits"), (21, u "max"), (2, u "min"), (43, u "$assertionsDisabled"), (0, u "Z"), (88, u "(II)I"), (2, u "twoToTheDoubleScaleDown"), (0, u "D"), (4, u "twoToTheDoubleScaleUp"), (9, u "E"), (3, u "PI"), (2, u "TAU"), (2, u "DEGREES_TO_RADIANS"), (0, u "RADIANS_TO_DEGREES")] 94

def k2m0 : Method := { name := "<init>", desc := "()V", sig := { parameters := [], returnType := none }, accessFlags := 2, code := none }
def k2c1 : Code := { maxStack := 2, maxLocals := 2, code := jdk_29_method_65_code, exceptionTable := #[], attributes := #[] }
def k2m1 : Method := { name := "max", desc := "(II)I", sig := { parameters := [.int, .int], returnType := some .int }, accessFlags := 9, code := some k2c1 }
def k2c2 : Code := { maxStack := 2, maxLocals := 2, code := jdk_29_method_69_code, exceptionTable := #[], attributes := #[] }
def k2m2 : Method := { name := "min", desc := "(II)I", sig := { parameters := [.int, .int], returnType := some .int }, accessFlags := 9, code := some k2c2 }
/-- java/lang/Math -/
def k2 : Class := { plain "java/lang/Math" (some 0) with
  accessFlags := 49
  interfaces := #[]
  cf := some (fileOf pool2 1 #[.nestMembers #[98]] #[{ accessFlags := 2, nameIndex := 7, descriptorIndex := 8, attributes := #[] }, { accessFlags := 9, nameIndex := 198, descriptorIndex := 335, attributes := #[] }, { accessFlags := 9, nameIndex := 201, descriptorIndex := 335, attributes := #[] }] 49 4 #[] #[{ accessFlags := 25, nameIndex := 354, descriptorIndex := 339, attributes := #[] }, { accessFlags := 25, nameIndex := 358, descriptorIndex := 339, attributes := #[] }, { accessFlags := 25, nameIndex := 361, descriptorIndex := 339, attributes := #[] }, { accessFlags := 26, nameIndex := 364, descriptorIndex := 339, attributes := #[] }, { accessFlags := 26, nameIndex := 365, descriptorIndex := 339, attributes := #[] }, { accessFlags := 26, nameIndex := 172, descriptorIndex := 173, attributes := #[] }, { accessFlags := 26, nameIndex := 176, descriptorIndex := 173, attributes := #[] }, { accessFlags := 8, nameIndex := 344, descriptorIndex := 339, attributes := #[] }, { accessFlags := 8, nameIndex := 338, descriptorIndex := 339, attributes := #[] }, { accessFlags := 4120, nameIndex := 245, descriptorIndex := 246, attributes := #[] }])
  fields := #[{ name := "E", type := .double, accessFlags := 25, slot := 0, constantValue := 0 }, { name := "PI", type := .double, accessFlags := 25, slot := 1, constantValue := 0 }, { name := "TAU", type := .double, accessFlags := 25, slot := 2, constantValue := 0 }, { name := "DEGREES_TO_RADIANS", type := .double, accessFlags := 26, slot := 3, constantValue := 0 }, { name := "RADIANS_TO_DEGREES", type := .double, accessFlags := 26, slot := 4, constantValue := 0 }, { name := "negativeZeroFloatBits", type := .long, accessFlags := 26, slot := 5, constantValue := 0 }, { name := "negativeZeroDoubleBits", type := .long, accessFlags := 26, slot := 6, constantValue := 0 }, { name := "twoToTheDoubleScaleUp", type := .double, accessFlags := 8, slot := 7, constantValue := 0 }, { name := "twoToTheDoubleScaleDown", type := .double, accessFlags := 8, slot := 8, constantValue := 0 }, { name := "$assertionsDisabled", type := .boolean, accessFlags := 4120, slot := 9, constantValue := 0 }]
  methods := #[k2m0, k2m1, k2m2]
  instanceTypes := #[]
  staticTypes := #[.double, .double, .double, .double, .double, .long, .long, .double, .double, .boolean]
  resolved := Array.replicate 460 none
  statics := none }

def pool3 : Array CpInfo := pool [(8, .class_ 10), (1, u "java/lang/Iterable"), (24, .class_ 36), (0, u "java/lang/Object")] 25

/-- java/lang/Iterable -/
def k3 : Class := { plain "java/lang/Iterable" (some 0) with
  accessFlags := 1537
  interfaces := #[]
  cf := some (fileOf pool3 8 #[] #[] 1537 35 #[] #[])
  fields := #[]
  methods := #[]
  instanceTypes := #[]
  staticTypes := #[]
  resolved := Array.replicate 62 none
  statics := none }

def pool4 : Array CpInfo := pool [(10, .class_ 12), (1, u "java/util/Collection"), (47, .class_ 61), (0, u "java/lang/Object"), (0, .class_ 63), (0, u "java/lang/Iterable")] 51

/-- java/util/Collection -/
def k4 : Class := { plain "java/util/Collection" (some 0) with
  accessFlags := 1537
  interfaces := #[3]
  cf := some (fileOf pool4 10 #[] #[] 1537 60 #[62] #[])
  fields := #[]
  methods := #[]
  instanceTypes := #[]
  staticTypes := #[]
  resolved := Array.replicate 115 none
  statics := none }

def pool5 : Array CpInfo := pool [(1, .methodref 2 3), (0, .class_ 4), (0, .nameAndType 5 6), (0, u "java/lang/Object"), (0, u "<init>"), (0, u "()V"), (1, .class_ 10), (1, u "java/util/AbstractCollection"), (66, .class_ 78), (0, u "java/util/Collection")] 81

def k5c0 : Code := { maxStack := 1, maxLocals := 1, code := jdk_22_method_1_code, exceptionTable := #[], attributes := #[] }
def k5m0 : Method := { name := "<init>", desc := "()V", sig := { parameters := [], returnType := none }, accessFlags := 4, code := some k5c0 }
/-- java/util/AbstractCollection -/
def k5 : Class := { plain "java/util/AbstractCollection" (some 0) with
  accessFlags := 1057
  interfaces := #[4]
  cf := some (fileOf pool5 8 #[] #[{ accessFlags := 4, nameIndex := 5, descriptorIndex := 6, attributes := #[] }] 1057 2 #[77] #[])
  fields := #[]
  methods := #[k5m0]
  instanceTypes := #[]
  staticTypes := #[]
  resolved := Array.replicate 160 none
  statics := none }

def pool6 : Array CpInfo := pool [(8, .class_ 10), (1, u "java/util/SequencedCollection"), (15, .class_ 27), (0, u "java/lang/Object"), (0, .class_ 29), (0, u "java/util/Collection")] 27

/-- java/util/SequencedCollection -/
def k6 : Class := { plain "java/util/SequencedCollection" (some 0) with
  accessFlags := 1537
  interfaces := #[4]
  cf := some (fileOf pool6 8 #[] #[] 1537 26 #[28] #[])
  fields := #[]
  methods := #[]
  instanceTypes := #[]
  staticTypes := #[]
  resolved := Array.replicate 57 none
  statics := none }

def pool7 : Array CpInfo := pool [(8, .class_ 10), (1, u "java/util/List"), (64, u "get"), (0, u "(I)Ljava/lang/Object;"), (26, .class_ 104), (0, u "java/lang/Object"), (15, .class_ 121), (0, u "java/util/SequencedCollection")] 129

def k7m0 : Method := { name := "get", desc := "(I)Ljava/lang/Object;", sig := { parameters := [.int], returnType := some (.object "java/lang/Object") }, accessFlags := 1025, code := none }
/-- java/util/List -/
def k7 : Class := { plain "java/util/List" (some 0) with
  accessFlags := 1537
  interfaces := #[6]
  cf := some (fileOf pool7 8 #[] #[{ accessFlags := 1025, nameIndex := 75, descriptorIndex := 76, attributes := #[] }] 1537 103 #[120] #[])
  fields := #[]
  methods := #[k7m0]
  instanceTypes := #[]
  staticTypes := #[]
  resolved := Array.replicate 251 none
  statics := none }

def pool8 : Array CpInfo := pool [(1, .methodref 2 3), (0, .class_ 4), (0, .nameAndType 5 6), (0, u "java/util/AbstractCollection"), (0, u "<init>"), (0, u "()V"), (0, .fieldref 8 9), (0, .class_ 10), (0, .nameAndType 11 12), (0, u "java/util/AbstractList"), (0, u "modCount"), (0, u "I"), (64, .class_ 78), (0, u "java/util/AbstractList$Itr"), (3, .class_ 83), (0, u "java/util/AbstractList$ListItr"), (9, .class_ 94), (0, u "java/util/AbstractList$RandomAccessSubList"), (3, .class_ 99), (0, u "java/util/AbstractList$SubList"), (33, .class_ 134), (0, u "java/util/List"), (73, .class_ 209), (0, u "java/util/AbstractList$SubList$1"), (0, .class_ 211), (0, u "java/util/AbstractList$RandomAccessSpliterator")] 6

def k8c0 : Code := { maxStack := 2, maxLocals := 1, code := jdk_39_method_1_code, exceptionTable := #[], attributes := #[] }
def k8m0 : Method := { name := "<init>", desc := "()V", sig := { parameters := [], returnType := none }, accessFlags := 4, code := some k8c0 }
/-- java/util/AbstractList -/
def k8 : Class := { plain "java/util/AbstractList" (some 5) with
  accessFlags := 1057
  interfaces := #[7]
  cf := some (fileOf pool8 8 #[.nestMembers #[93, 98, 208, 210, 82, 77]] #[{ accessFlags := 4, nameIndex := 5, descriptorIndex := 6, attributes := #[] }] 1057 2 #[133] #[{ accessFlags := 132, nameIndex := 11, descriptorIndex := 12, attributes := #[] }])
  fields := #[{ name := "modCount", type := .int, accessFlags := 132, slot := 0, constantValue := 0 }]
  methods := #[k8m0]
  instanceTypes := #[.int]
  staticTypes := #[]
  resolved := Array.replicate 218 none
  statics := none }

def pool9 : Array CpInfo := pool [(1, .class_ 2), (0, u "java/util/RandomAccess"), (0, .class_ 4), (0, u "java/lang/Object")] 2

/-- java/util/RandomAccess -/
def k9 : Class := { plain "java/util/RandomAccess" (some 0) with
  accessFlags := 1537
  interfaces := #[]
  cf := some (fileOf pool9 1 #[] #[] 1537 3 #[] #[])
  fields := #[]
  methods := #[]
  instanceTypes := #[]
  staticTypes := #[]
  resolved := Array.replicate 7 none
  statics := none }

def pool10 : Array CpInfo := pool [(1, .class_ 2), (0, u "java/lang/Cloneable"), (0, .class_ 4), (0, u "java/lang/Object")] 2

/-- java/lang/Cloneable -/
def k10 : Class := { plain "java/lang/Cloneable" (some 0) with
  accessFlags := 1537
  interfaces := #[]
  cf := some (fileOf pool10 1 #[] #[] 1537 3 #[] #[])
  fields := #[]
  methods := #[]
  instanceTypes := #[]
  staticTypes := #[]
  resolved := Array.replicate 7 none
  statics := none }

def pool11 : Array CpInfo := pool [(1, .class_ 2), (0, u "java/io/Serializable"), (0, .class_ 4), (0, u "java/lang/Object")] 2

/-- java/io/Serializable -/
def k11 : Class := { plain "java/io/Serializable" (some 0) with
  accessFlags := 1537
  interfaces := #[]
  cf := some (fileOf pool11 1 #[] #[] 1537 3 #[] #[])
  fields := #[]
  methods := #[]
  instanceTypes := #[]
  staticTypes := #[]
  resolved := Array.replicate 7 none
  statics := none }

def pool12 : Array CpInfo := pool [(1, .methodref 2 3), (0, .class_ 4), (0, .nameAndType 5 6), (0, u "java/util/AbstractList"), (0, u "<init>"), (0, u "()V"), (0, .class_ 8), (0, u "java/lang/Object"), (0, .fieldref 10 11), (0, .class_ 12), (0, .nameAndType 13 14), (0, u "java/util/ArrayList"), (0, u "elementData"), (0, u "[Ljava/lang/Object;"), (2, u "EMPTY_ELEMENTDATA"), (21, .fieldref 10 40), (0, .nameAndType 41 14), (0, u "DEFAULTCAPACITY_EMPTY_ELEMENTDATA"), (5, u "()[Ljava/lang/Object;"), (0, .fieldref 10 49), (0, .nameAndType 50 51), (0, u "size"), (0, u "I"), (11, .fieldref 10 64), (0, .nameAndType 65 51), (0, u "modCount"), (3, .methodref 10 70), (0, .nameAndType 71 72), (0, u "grow"), (0, u "(I)[Ljava/lang/Object;"), (6, .methodref 80 81), (0, .class_ 82), (0, .nameAndType 83 84), (0, u "java/lang/Math"), (0, u "max"), (0, u "(II)I"), (11, u "(Ljava/lang/Object;)Z"), (21, .methodref 119 120), (0, .class_ 121), (0, .nameAndType 122 84), (0, u "java/util/Objects"), (0, u "checkIndex"), (0, .methodref 10 124), (0, .nameAndType 13 125), (0, u "(I)Ljava/lang/Object;"), (3, .methodref 10 130), (0, .nameAndType 71 47), (0, .methodref 10 132), (0, .nameAndType 133 134), (0, u "add"), (0, u "(Ljava/lang/Object;[Ljava/lang/Object;I)V"), (13, .class_ 149), (0, u "java/util/List"), (112, .class_ 263), (0, u "java/util/ArrayList$ListItr"), (3, .class_ 268), (0, u "java/util/ArrayList$Itr"), (7, .class_ 277), (0, u "java/util/ArrayList$SubList"), (12, .class_ 291), (0, u "java/util/ArrayList$ArrayListSpliterator"), (37, .class_ 330), (0, u "java/util/RandomAccess"), (0, .class_ 332), (0, u "java/lang/Cloneable"), (0, .class_ 334), (0, u "java/io/Serializable"), (0, u "serialVersionUID"), (0, u "J"), (3, u "DEFAULT_CAPACITY"), (40, u "get"), (118, .class_ 501), (0, u "java/util/ArrayList$SubList$2"), (0, .class_ 503), (0, u "java/util/ArrayList$SubList$1")] 5

def k12c0 : Code := { maxStack := 2, maxLocals := 1, code := jdk_38_method_2_code, exceptionTable := #[], attributes := #[] }
def k12m0 : Method := { name := "<init>", desc := "()V", sig := { parameters := [], returnType := none }, accessFlags := 1, code := some k12c0 }
def k12c1 : Code := { maxStack := 4, maxLocals := 4, code := jdk_38_method_6_code, exceptionTable := #[], attributes := #[] }
def k12m1 : Method := { name := "grow", desc := "(I)[Ljava/lang/Object;", sig := { parameters := [.int], returnType := some (.array (.object "java/lang/Object")) }, accessFlags := 2, code := some k12c1 }
def k12c2 : Code := { maxStack := 3, maxLocals := 1, code := jdk_38_method_7_code, exceptionTable := #[], attributes := #[] }
def k12m2 : Method := { name := "grow", desc := "()[Ljava/lang/Object;", sig := { parameters := [], returnType := some (.array (.object "java/lang/Object")) }, accessFlags := 2, code := some k12c2 }
def k12c3 : Code := { maxStack := 2, maxLocals := 2, code := jdk_38_method_18_code, exceptionTable := #[], attributes := #[] }
def k12m3 : Method := { name := "elementData", desc := "(I)Ljava/lang/Object;", sig := { parameters := [.int], returnType := some (.object "java/lang/Object") }, accessFlags := 0, code := some k12c3 }
def k12c4 : Code := { maxStack := 2, maxLocals := 2, code := jdk_38_method_20_code, exceptionTable := #[], attributes := #[] }
def k12m4 : Method := { name := "get", desc := "(I)Ljava/lang/Object;", sig := { parameters := [.int], returnType := some (.object "java/lang/Object") }, accessFlags := 1, code := some k12c4 }
def k12c5 : Code := { maxStack := 3, maxLocals := 4, code := jdk_38_method_24_code, exceptionTable := #[], attributes := #[] }
def k12m5 : Method := { name := "add", desc := "(Ljava/lang/Object;[Ljava/lang/Object;I)V", sig := { parameters := [(.object "java/lang/Object"), (.array (.object "java/lang/Object")), .int], returnType := none }, accessFlags := 2, code := some k12c5 }
def k12c6 : Code := { maxStack := 4, maxLocals := 2, code := jdk_38_method_25_code, exceptionTable := #[], attributes := #[] }
def k12m6 : Method := { name := "add", desc := "(Ljava/lang/Object;)Z", sig := { parameters := [(.object "java/lang/Object")], returnType := some .boolean }, accessFlags := 1, code := some k12c6 }
/-- java/util/ArrayList -/
def k12 : Class := { plain "java/util/ArrayList" (some 8) with
  accessFlags := 33
  interfaces := #[7, 9, 10, 11]
  cf := some (fileOf pool12 10 #[.nestMembers #[290, 276, 500, 502, 262, 267]] #[{ accessFlags := 1, nameIndex := 5, descriptorIndex := 6, attributes := #[] }, { accessFlags := 2, nameIndex := 71, descriptorIndex := 72, attributes := #[] }, { accessFlags := 2, nameIndex := 71, descriptorIndex := 47, attributes := #[] }, { accessFlags := 0, nameIndex := 13, descriptorIndex := 125, attributes := #[] }, { accessFlags := 1, nameIndex := 381, descriptorIndex := 125, attributes := #[] }, { accessFlags := 2, nameIndex := 133, descriptorIndex := 134, attributes := #[] }, { accessFlags := 1, nameIndex := 133, descriptorIndex := 96, attributes := #[] }] 33 2 #[148, 329, 331, 333] #[{ accessFlags := 26, nameIndex := 335, descriptorIndex := 336, attributes := #[] }, { accessFlags := 26, nameIndex := 340, descriptorIndex := 51, attributes := #[] }, { accessFlags := 26, nameIndex := 17, descriptorIndex := 14, attributes := #[] }, { accessFlags := 26, nameIndex := 41, descriptorIndex := 14, attributes := #[] }, { accessFlags := 128, nameIndex := 13, descriptorIndex := 14, attributes := #[] }, { accessFlags := 2, nameIndex := 50, descriptorIndex := 51, attributes := #[] }])
  fields := #[{ name := "serialVersionUID", type := .long, accessFlags := 26, slot := 0, constantValue := 0 }, { name := "DEFAULT_CAPACITY", type := .int, accessFlags := 26, slot := 1, constantValue := 0 }, { name := "EMPTY_ELEMENTDATA", type := (.array (.object "java/lang/Object")), accessFlags := 26, slot := 2, constantValue := 0 }, { name := "DEFAULTCAPACITY_EMPTY_ELEMENTDATA", type := (.array (.object "java/lang/Object")), accessFlags := 26, slot := 3, constantValue := 0 }, { name := "elementData", type := (.array (.object "java/lang/Object")), accessFlags := 128, slot := 1, constantValue := 0 }, { name := "size", type := .int, accessFlags := 2, slot := 2, constantValue := 0 }]
  methods := #[k12m0, k12m1, k12m2, k12m3, k12m4, k12m5, k12m6]
  instanceTypes := #[.int, (.array (.object "java/lang/Object")), .int]
  staticTypes := #[.long, .int, (.array (.object "java/lang/Object")), (.array (.object "java/lang/Object"))]
  resolved := Array.replicate 509 none
  statics := some 0 }

def pool13 : Array CpInfo := pool [(1, .methodref 2 3), (0, .class_ 4), (0, .nameAndType 5 6), (0, u "java/lang/Object"), (0, u "<init>"), (0, u "()V"), (0, .class_ 8), (0, u "java/lang/Record")] 13

def k13c0 : Code := { maxStack := 1, maxLocals := 1, code := jdk_30_method_1_code, exceptionTable := #[], attributes := #[] }
def k13m0 : Method := { name := "<init>", desc := "()V", sig := { parameters := [], returnType := none }, accessFlags := 4, code := some k13c0 }
/-- java/lang/Record -/
def k13 : Class := { plain "java/lang/Record" (some 0) with
  accessFlags := 1057
  interfaces := #[]
  cf := some (fileOf pool13 7 #[] #[{ accessFlags := 4, nameIndex := 5, descriptorIndex := 6, attributes := #[] }] 1057 2 #[] #[])
  fields := #[]
  methods := #[k13m0]
  instanceTypes := #[]
  staticTypes := #[]
  resolved := Array.replicate 22 none
  statics := none }

def pool14 : Array CpInfo := pool [(2, .class_ 4), (1, u "com/example/redoubt/redoubt/engine/ParallelJob"), (25, .class_ 31), (0, u "java/lang/Object")] 26

/-- com/example/redoubt/redoubt/engine/ParallelJob -/
def k14 : Class := { plain "com/example/redoubt/redoubt/engine/ParallelJob" (some 0) with
  accessFlags := 1537
  interfaces := #[]
  cf := some (fileOf pool14 2 #[] #[] 1537 30 #[] #[])
  fields := #[]
  methods := #[]
  instanceTypes := #[]
  staticTypes := #[]
  resolved := Array.replicate 58 none
  statics := none }

def pool15 : Array CpInfo := pool [(1, .methodref 2 3), (0, .class_ 4), (0, .nameAndType 5 6), (0, u "java/lang/Record"), (0, u "<init>"), (0, u "()V"), (0, .methodref 8 9), (0, .class_ 10), (0, .nameAndType 11 12), (0, u "com/example/redoubt/redoubt/engine/Job"), (0, u "requireId"), (0, u "(Ljava/lang/String;)Ljava/lang/String;"), (2, .double 9218868437227405312), (5, .fieldref 8 22), (0, .nameAndType 23 24), (0, u "id"), (0, u "Ljava/lang/String;"), (0, .fieldref 8 26), (0, .nameAndType 27 28), (0, u "procs"), (0, u "I"), (0, .fieldref 8 30), (0, .nameAndType 31 32), (0, u "time"), (0, u "D"), (18, .string 23), (0, .methodref 53 54), (0, .class_ 55), (0, .nameAndType 56 57), (0, u "java/util/Objects"), (0, u "requireNonNull"), (0, u "(Ljava/lang/Object;Ljava/lang/String;)Ljava/lang/Object;"), (0, .methodref 59 60), (0, .class_ 61), (0, .nameAndType 62 63), (0, u "java/lang/String"), (0, u "isEmpty"), (0, u "()Z"), (2, .methodref 67 68), (0, .class_ 69), (0, .nameAndType 70 71), (0, u "com/example/redoubt/redoubt/engine/Names"), (0, u "fitsCsvField"), (0, u "(Ljava/lang/String;)Z"), (18, .class_ 91), (0, u "com/example/redoubt/redoubt/engine/ParallelJob"), (0, u "(Ljava/lang/String;ID)V"), (5, u "()I"), (5, u "()D")] 36

def k15c0 : Code := { maxStack := 4, maxLocals := 5, code := prog_28_method_1_code, exceptionTable := #[], attributes := #[] }
def k15m0 : Method := { name := "<init>", desc := "(Ljava/lang/String;ID)V", sig := { parameters := [(.object "java/lang/String"), .int, .double], returnType := none }, accessFlags := 1, code := some k15c0 }
def k15c1 : Code := { maxStack := 3, maxLocals := 1, code := prog_28_method_7_code, exceptionTable := #[], attributes := #[] }
def k15m1 : Method := { name := "requireId", desc := "(Ljava/lang/String;)Ljava/lang/String;", sig := { parameters := [(.object "java/lang/String")], returnType := some (.object "java/lang/String") }, accessFlags := 8, code := some k15c1 }
def k15c2 : Code := { maxStack := 1, maxLocals := 1, code := prog_28_method_13_code, exceptionTable := #[], attributes := #[] }
def k15m2 : Method := { name := "procs", desc := "()I", sig := { parameters := [], returnType := some .int }, accessFlags := 1, code := some k15c2 }
def k15c3 : Code := { maxStack := 2, maxLocals := 1, code := prog_28_method_14_code, exceptionTable := #[], attributes := #[] }
def k15m3 : Method := { name := "time", desc := "()D", sig := { parameters := [], returnType := some .double }, accessFlags := 1, code := some k15c3 }
/-- com/example/redoubt/redoubt/engine/Job -/
def k15 : Class := { plain "com/example/redoubt/redoubt/engine/Job" (some 13) with
  accessFlags := 49
  interfaces := #[14]
  cf := some (fileOf pool15 8 #[] #[{ accessFlags := 1, nameIndex := 5, descriptorIndex := 92, attributes := #[] }, { accessFlags := 8, nameIndex := 11, descriptorIndex := 12, attributes := #[] }, { accessFlags := 1, nameIndex := 27, descriptorIndex := 98, attributes := #[] }, { accessFlags := 1, nameIndex := 31, descriptorIndex := 104, attributes := #[] }] 49 2 #[90] #[{ accessFlags := 18, nameIndex := 23, descriptorIndex := 24, attributes := #[] }, { accessFlags := 18, nameIndex := 27, descriptorIndex := 28, attributes := #[] }, { accessFlags := 18, nameIndex := 31, descriptorIndex := 32, attributes := #[] }])
  fields := #[{ name := "id", type := (.object "java/lang/String"), accessFlags := 18, slot := 0, constantValue := 0 }, { name := "procs", type := .int, accessFlags := 18, slot := 1, constantValue := 0 }, { name := "time", type := .double, accessFlags := 18, slot := 2, constantValue := 0 }]
  methods := #[k15m0, k15m1, k15m2, k15m3]
  instanceTypes := #[(.object "java/lang/String"), .int, .double]
  staticTypes := #[]
  resolved := Array.replicate 141 none
  statics := none }

def pool16 : Array CpInfo := pool [(1, .class_ 2), (0, u "java/lang/Comparable"), (0, .class_ 4), (0, u "java/lang/Object")] 7

/-- java/lang/Comparable -/
def k16 : Class := { plain "java/lang/Comparable" (some 0) with
  accessFlags := 1537
  interfaces := #[]
  cf := some (fileOf pool16 1 #[] #[] 1537 3 #[] #[])
  fields := #[]
  methods := #[]
  instanceTypes := #[]
  staticTypes := #[]
  resolved := Array.replicate 12 none
  statics := none }

def pool17 : Array CpInfo := pool [(2, .class_ 4), (1, u "java/lang/CharSequence"), (42, .class_ 48), (0, u "java/lang/CharSequence$1CodePointIterator"), (10, .class_ 60), (0, u "java/lang/CharSequence$1CharIterator"), (5, .class_ 67), (0, u "java/lang/Object")] 63

/-- java/lang/CharSequence -/
def k17 : Class := { plain "java/lang/CharSequence" (some 0) with
  accessFlags := 1537
  interfaces := #[]
  cf := some (fileOf pool17 2 #[.nestMembers #[47, 59]] #[] 1537 66 #[] #[])
  fields := #[]
  methods := #[]
  instanceTypes := #[]
  staticTypes := #[]
  resolved := Array.replicate 131 none
  statics := none }

def pool18 : Array CpInfo := pool [(1, .class_ 2), (0, u "java/lang/constant/Constable"), (0, .class_ 4), (0, u "java/lang/Object")] 6

/-- java/lang/constant/Constable -/
def k18 : Class := { plain "java/lang/constant/Constable" (some 0) with
  accessFlags := 1537
  interfaces := #[]
  cf := some (fileOf pool18 1 #[] #[] 1537 3 #[] #[])
  fields := #[]
  methods := #[]
  instanceTypes := #[]
  staticTypes := #[]
  resolved := Array.replicate 11 none
  statics := none }

def pool19 : Array CpInfo := pool [(1, .class_ 2), (0, u "java/lang/constant/ConstantDesc"), (0, .class_ 4), (0, u "java/lang/Object")] 32

/-- java/lang/constant/ConstantDesc -/
def k19 : Class := { plain "java/lang/constant/ConstantDesc" (some 0) with
  accessFlags := 1537
  interfaces := #[]
  cf := some (fileOf pool19 1 #[] #[] 1537 3 #[] #[])
  fields := #[]
  methods := #[]
  instanceTypes := #[]
  staticTypes := #[]
  resolved := Array.replicate 37 none
  statics := none }

def pool20 : Array CpInfo := pool [(2, .class_ 4), (1, u "java/lang/Object"), (0, u "<init>"), (0, u "()V"), (2, .fieldref 10 11), (0, .class_ 12), (0, .nameAndType 13 14), (0, u "java/lang/String"), (0, u "value"), (0, u "[B"), (0, .fieldref 10 16), (0, .nameAndType 17 18), (0, u "coder"), (0, u "B"), (2, u "hash"), (0, u "I"), (2, u "hashIsZero"), (0, u "Z"), (11, .fieldref 10 39), (0, .nameAndType 40 26), (0, u "COMPACT_STRINGS"), (66, .class_ 109), (1, u "java/lang/StringLatin1"), (32, u "()Z"), (191, u "()I"), (0, .methodref 10 336), (0, .nameAndType 17 337), (0, u "()B"), (25, u "([BI)C"), (27, u "(II)V"), (35, u "(I)C"), (64, .methodref 10 493), (0, .nameAndType 494 142), (0, u "isLatin1"), (0, .methodref 107 496), (0, .nameAndType 497 363), (0, u "charAt"), (3, u "checkIndex"), (5, u "length"), (67, .class_ 576), (0, u "java/lang/CharSequence"), (22, u "CASE_INSENSITIVE_ORDER"), (0, u "Ljava/util/Comparator;"), (91, u "isEmpty"), (360, .fieldref 1054 1055), (0, .class_ 1056), (0, .nameAndType 1057 1058), (0, u "jdk/internal/util/Preconditions"), (0, u "SIOOBE_FORMATTER"), (0, u "Ljava/util/function/BiFunction;"), (0, .methodref 1054 1060), (0, .nameAndType 501 1061), (0, u "(IILjava/util/function/BiFunction;)I"), (39, u "serialPersistentFields"), (0, u "[Ljava/io/ObjectStreamField;"), (0, .class_ 1104), (0, u "java/lang/String$CaseInsensitiveComparator"), (1, .class_ 1107), (0, u "java/io/Serializable"), (0, .class_ 1109), (0, u "java/lang/Comparable"), (0, .class_ 1111), (0, u "java/lang/constant/Constable"), (0, .class_ 1113), (0, u "java/lang/constant/ConstantDesc"), (2, u "serialVersionUID"), (0, u "J"), (3, u "REPL"), (0, u "C"), (2, u "LATIN1"), (1, u "UTF16")] 323

def k20m0 : Method := { name := "<init>", desc := "()V", sig := { parameters := [], returnType := none }, accessFlags := 1, code := none }
def k20c1 : Code := { maxStack := 2, maxLocals := 1, code := jdk_42_method_54_code, exceptionTable := #[], attributes := #[] }
def k20m1 : Method := { name := "length", desc := "()I", sig := { parameters := [], returnType := some .int }, accessFlags := 1, code := some k20c1 }
def k20c2 : Code := { maxStack := 1, maxLocals := 1, code := jdk_42_method_55_code, exceptionTable := #[], attributes := #[] }
def k20m2 : Method := { name := "isEmpty", desc := "()Z", sig := { parameters := [], returnType := some .boolean }, accessFlags := 1, code := some k20c2 }
def k20c3 : Code := { maxStack := 2, maxLocals := 2, code := jdk_42_method_56_code, exceptionTable := #[], attributes := #[] }
def k20m3 : Method := { name := "charAt", desc := "(I)C", sig := { parameters := [.int], returnType := some .char }, accessFlags := 1, code := some k20c3 }
def k20c4 : Code := { maxStack := 1, maxLocals := 1, code := jdk_42_method_152_code, exceptionTable := #[], attributes := #[] }
def k20m4 : Method := { name := "coder", desc := "()B", sig := { parameters := [], returnType := some .byte }, accessFlags := 0, code := some k20c4 }
def k20c5 : Code := { maxStack := 1, maxLocals := 1, code := jdk_42_method_154_code, exceptionTable := #[], attributes := #[] }
def k20m5 : Method := { name := "isLatin1", desc := "()Z", sig := { parameters := [], returnType := some .boolean }, accessFlags := 0, code := some k20c5 }
def k20c6 : Code := { maxStack := 3, maxLocals := 2, code := jdk_42_method_155_code, exceptionTable := #[], attributes := #[] }
def k20m6 : Method := { name := "checkIndex", desc := "(II)V", sig := { parameters := [.int, .int], returnType := none }, accessFlags := 8, code := some k20c6 }
/-- java/lang/String -/
def k20 : Class := { plain "java/lang/String" (some 0) with
  accessFlags := 49
  interfaces := #[11, 16, 17, 18, 19]
  cf := some (fileOf pool20 10 #[.nestMembers #[1103]] #[{ accessFlags := 1, nameIndex := 5, descriptorIndex := 6, attributes := #[] }, { accessFlags := 1, nameIndex := 507, descriptorIndex := 334, attributes := #[] }, { accessFlags := 1, nameIndex := 692, descriptorIndex := 142, attributes := #[] }, { accessFlags := 1, nameIndex := 497, descriptorIndex := 427, attributes := #[] }, { accessFlags := 0, nameIndex := 17, descriptorIndex := 337, attributes := #[] }, { accessFlags := 0, nameIndex := 494, descriptorIndex := 142, attributes := #[] }, { accessFlags := 8, nameIndex := 501, descriptorIndex := 391, attributes := #[] }] 49 2 #[1106, 1108, 575, 1110, 1112] #[{ accessFlags := 18, nameIndex := 13, descriptorIndex := 14, attributes := #[] }, { accessFlags := 18, nameIndex := 17, descriptorIndex := 18, attributes := #[] }, { accessFlags := 2, nameIndex := 21, descriptorIndex := 22, attributes := #[] }, { accessFlags := 2, nameIndex := 25, descriptorIndex := 26, attributes := #[] }, { accessFlags := 26, nameIndex := 1116, descriptorIndex := 1117, attributes := #[] }, { accessFlags := 24, nameIndex := 40, descriptorIndex := 26, attributes := #[] }, { accessFlags := 26, nameIndex := 1101, descriptorIndex := 1102, attributes := #[] }, { accessFlags := 26, nameIndex := 1121, descriptorIndex := 1122, attributes := #[] }, { accessFlags := 25, nameIndex := 599, descriptorIndex := 600, attributes := #[] }, { accessFlags := 24, nameIndex := 1125, descriptorIndex := 18, attributes := #[] }, { accessFlags := 24, nameIndex := 1127, descriptorIndex := 18, attributes := #[] }])
  fields := #[{ name := "value", type := (.array .byte), accessFlags := 18, slot := 0, constantValue := 0 }, { name := "coder", type := .byte, accessFlags := 18, slot := 1, constantValue := 0 }, { name := "hash", type := .int, accessFlags := 2, slot := 2, constantValue := 0 }, { name := "hashIsZero", type := .boolean, accessFlags := 2, slot := 3, constantValue := 0 }, { name := "serialVersionUID", type := .long, accessFlags := 26, slot := 0, constantValue := 0 }, { name := "COMPACT_STRINGS", type := .boolean, accessFlags := 24, slot := 1, constantValue := 0 }, { name := "serialPersistentFields", type := (.array (.object "java/io/ObjectStreamField")), accessFlags := 26, slot := 2, constantValue := 0 }, { name := "REPL", type := .char, accessFlags := 26, slot := 3, constantValue := 0 }, { name := "CASE_INSENSITIVE_ORDER", type := (.object "java/util/Comparator"), accessFlags := 25, slot := 4, constantValue := 0 }, { name := "LATIN1", type := .byte, accessFlags := 24, slot := 5, constantValue := 0 }, { name := "UTF16", type := .byte, accessFlags := 24, slot := 6, constantValue := 0 }]
  methods := #[k20m0, k20m1, k20m2, k20m3, k20m4, k20m5, k20m6]
  instanceTypes := #[(.array .byte), .byte, .int, .boolean]
  staticTypes := #[.long, .boolean, (.array (.object "java/io/ObjectStreamField")), .char, (.object "java/util/Comparator"), .byte, .byte]
  resolved := Array.replicate 1451 none
  statics := some 1 }

def pool21 : Array CpInfo := pool [(2, .class_ 4), (1, u "java/lang/Object"), (0, u "<init>"), (0, u "()V"), (35, .class_ 44), (1, u "java/util/Objects"), (0, u "requireNonNull"), (48, u "(Ljava/lang/Object;Ljava/lang/String;)Ljava/lang/Object;"), (10, .methodref 106 107), (0, .class_ 108), (0, .nameAndType 109 110), (0, u "jdk/internal/util/Preconditions"), (0, u "checkIndex"), (0, u "(IILjava/util/function/BiFunction;)I"), (60, u "(II)I")] 12

def k21m0 : Method := { name := "<init>", desc := "()V", sig := { parameters := [], returnType := none }, accessFlags := 2, code := none }
def k21c1 : Code := { maxStack := 3, maxLocals := 2, code := jdk_31_method_11_code, exceptionTable := #[], attributes := #[] }
def k21m1 : Method := { name := "requireNonNull", desc := "(Ljava/lang/Object;Ljava/lang/String;)Ljava/lang/Object;", sig := { parameters := [(.object "java/lang/Object"), (.object "java/lang/String")], returnType := some (.object "java/lang/Object") }, accessFlags := 9, code := some k21c1 }
def k21c2 : Code := { maxStack := 3, maxLocals := 2, code := jdk_31_method_17_code, exceptionTable := #[], attributes := #[] }
def k21m2 : Method := { name := "checkIndex", desc := "(II)I", sig := { parameters := [.int, .int], returnType := some .int }, accessFlags := 9, code := some k21c2 }
/-- java/util/Objects -/
def k21 : Class := { plain "java/util/Objects" (some 0) with
  accessFlags := 49
  interfaces := #[]
  cf := some (fileOf pool21 42 #[] #[{ accessFlags := 2, nameIndex := 5, descriptorIndex := 6, attributes := #[] }, { accessFlags := 9, nameIndex := 45, descriptorIndex := 94, attributes := #[] }, { accessFlags := 9, nameIndex := 109, descriptorIndex := 171, attributes := #[] }] 49 2 #[] #[])
  fields := #[]
  methods := #[k21m0, k21m1, k21m2]
  instanceTypes := #[]
  staticTypes := #[]
  resolved := Array.replicate 184 none
  statics := none }

def pool22 : Array CpInfo := pool [(2, .class_ 4), (1, u "java/lang/Object"), (0, u "<init>"), (0, u "()V"), (0, .methodref 8 9), (0, .class_ 10), (0, .nameAndType 11 12), (0, u "java/lang/String"), (0, u "length"), (0, u "()I"), (0, .methodref 8 14), (0, .nameAndType 15 16), (0, u "charAt"), (0, u "(I)C"), (45, .class_ 63), (0, u "com/example/redoubt/redoubt/engine/Names"), (0, u "CSV_BREAKS"), (0, u "Ljava/lang/String;"), (5, u "fitsCsvField"), (0, u "(Ljava/lang/String;)Z")] 36

def k22m0 : Method := { name := "<init>", desc := "()V", sig := { parameters := [], returnType := none }, accessFlags := 2, code := none }
def k22c1 : Code := { maxStack := 2, maxLocals := 3, code := prog_39_method_2_code, exceptionTable := #[], attributes := #[] }
def k22m1 : Method := { name := "fitsCsvField", desc := "(Ljava/lang/String;)Z", sig := { parameters := [(.object "java/lang/String")], returnType := some .boolean }, accessFlags := 9, code := some k22c1 }
/-- com/example/redoubt/redoubt/engine/Names -/
def k22 : Class := { plain "com/example/redoubt/redoubt/engine/Names" (some 0) with
  accessFlags := 49
  interfaces := #[]
  cf := some (fileOf pool22 62 #[] #[{ accessFlags := 2, nameIndex := 5, descriptorIndex := 6, attributes := #[] }, { accessFlags := 9, nameIndex := 71, descriptorIndex := 72, attributes := #[] }] 49 2 #[] #[{ accessFlags := 25, nameIndex := 64, descriptorIndex := 65, attributes := #[] }])
  fields := #[{ name := "CSV_BREAKS", type := (.object "java/lang/String"), accessFlags := 25, slot := 0, constantValue := 0 }]
  methods := #[k22m0, k22m1]
  instanceTypes := #[]
  staticTypes := #[(.object "java/lang/String")]
  resolved := Array.replicate 109 none
  statics := none }

def pool23 : Array CpInfo := pool [(1, .class_ 2), (0, u "java/lang/String"), (1, .class_ 6), (1, u "java/lang/Object"), (0, u "<init>"), (0, u "()V"), (0, .methodref 1 10), (0, .nameAndType 11 12), (0, u "checkIndex"), (0, u "(II)V"), (1, .class_ 16), (1, u "java/lang/StringLatin1"), (36, u "([BI)C"), (67, u "$assertionsDisabled"), (0, u "Z"), (98, .class_ 223), (1, u "java/lang/StringLatin1$LinesSpliterator"), (28, u "charAt"), (137, .class_ 391), (0, u "java/lang/StringLatin1$CharsSpliterator")] 3

def k23m0 : Method := { name := "<init>", desc := "()V", sig := { parameters := [], returnType := none }, accessFlags := 0, code := none }
def k23c1 : Code := { maxStack := 2, maxLocals := 2, code := jdk_43_method_2_code, exceptionTable := #[], attributes := #[] }
def k23m1 : Method := { name := "charAt", desc := "([BI)C", sig := { parameters := [(.array .byte), .int], returnType := some .char }, accessFlags := 9, code := some k23c1 }
/-- java/lang/StringLatin1 -/
def k23 : Class := { plain "java/lang/StringLatin1" (some 0) with
  accessFlags := 48
  interfaces := #[]
  cf := some (fileOf pool23 14 #[.nestMembers #[390, 221]] #[{ accessFlags := 0, nameIndex := 7, descriptorIndex := 8, attributes := #[] }, { accessFlags := 9, nameIndex := 252, descriptorIndex := 53, attributes := #[] }] 48 4 #[] #[{ accessFlags := 4120, nameIndex := 121, descriptorIndex := 122, attributes := #[] }])
  fields := #[{ name := "$assertionsDisabled", type := .boolean, accessFlags := 4120, slot := 0, constantValue := 0 }]
  methods := #[k23m0, k23m1]
  instanceTypes := #[]
  staticTypes := #[.boolean]
  resolved := Array.replicate 395 none
  statics := none }

def pool24 : Array CpInfo := pool [(2, .class_ 4), (1, u "java/lang/Object"), (0, u "<init>"), (0, u "()V"), (17, .class_ 26), (1, u "jdk/internal/util/Preconditions"), (6, u "checkIndex"), (21, .class_ 56), (0, u "jdk/internal/util/Preconditions$4"), (57, .class_ 115), (0, u "jdk/internal/util/Preconditions$1"), (7, u "SIOOBE_FORMATTER"), (0, u "Ljava/util/function/BiFunction;"), (0, .class_ 126), (0, u "jdk/internal/util/Preconditions$2"), (3, u "AIOOBE_FORMATTER"), (0, .class_ 132), (0, u "jdk/internal/util/Preconditions$3"), (3, u "IOOBE_FORMATTER"), (41, u "(IILjava/util/function/BiFunction;)I")] 15

def k24m0 : Method := { name := "<init>", desc := "()V", sig := { parameters := [], returnType := none }, accessFlags := 1, code := none }
def k24c1 : Code := { maxStack := 3, maxLocals := 3, code := jdk_41_method_11_code, exceptionTable := #[], attributes := #[] }
def k24m1 : Method := { name := "checkIndex", desc := "(IILjava/util/function/BiFunction;)I", sig := { parameters := [.int, .int, (.object "java/util/function/BiFunction")], returnType := some .int }, accessFlags := 9, code := some k24c1 }
/-- jdk/internal/util/Preconditions -/
def k24 : Class := { plain "jdk/internal/util/Preconditions" (some 0) with
  accessFlags := 33
  interfaces := #[]
  cf := some (fileOf pool24 24 #[.nestMembers #[55, 131, 125, 114]] #[{ accessFlags := 1, nameIndex := 5, descriptorIndex := 6, attributes := #[] }, { accessFlags := 9, nameIndex := 33, descriptorIndex := 178, attributes := #[] }] 33 2 #[] #[{ accessFlags := 25, nameIndex := 123, descriptorIndex := 124, attributes := #[] }, { accessFlags := 25, nameIndex := 130, descriptorIndex := 124, attributes := #[] }, { accessFlags := 25, nameIndex := 136, descriptorIndex := 124, attributes := #[] }])
  fields := #[{ name := "SIOOBE_FORMATTER", type := (.object "java/util/function/BiFunction"), accessFlags := 25, slot := 0, constantValue := 0 }, { name := "AIOOBE_FORMATTER", type := (.object "java/util/function/BiFunction"), accessFlags := 25, slot := 1, constantValue := 0 }, { name := "IOOBE_FORMATTER", type := (.object "java/util/function/BiFunction"), accessFlags := 25, slot := 2, constantValue := 0 }]
  methods := #[k24m0, k24m1]
  instanceTypes := #[]
  staticTypes := #[(.object "java/util/function/BiFunction"), (.object "java/util/function/BiFunction"), (.object "java/util/function/BiFunction")]
  resolved := Array.replicate 194 none
  statics := some 2 }

def pool25 : Array CpInfo := pool [(3, .methodref 4 5), (0, .class_ 6), (0, .nameAndType 7 8), (0, u "java/lang/Object"), (0, u "<init>"), (0, u "()V"), (0, .fieldref 10 11), (0, .class_ 12), (0, .nameAndType 13 14), (0, u "com/example/redoubt/redoubt/policies/FirstFitQueue"), (0, u "stale"), (0, u "[I"), (0, .fieldref 10 16), (0, .nameAndType 17 14), (0, u "order"), (0, .fieldref 10 19), (0, .nameAndType 20 14), (0, u "rankOf"), (0, .fieldref 10 22), (0, .nameAndType 23 14), (0, u "procs"), (0, .fieldref 10 25), (0, .nameAndType 26 27), (0, u "times"), (0, u "[D"), (0, .interfaceMethodref 29 30), (0, .class_ 31), (0, .nameAndType 32 33), (0, u "java/util/List"), (0, u "get"), (0, u "(I)Ljava/lang/Object;"), (0, .class_ 35), (0, u "com/example/redoubt/redoubt/engine/Job"), (0, .methodref 34 37), (0, .nameAndType 23 38), (0, u "()I"), (0, .methodref 34 40), (0, .nameAndType 41 42), (0, u "time"), (0, u "()D"), (0, .fieldref 10 44), (0, .nameAndType 45 46), (0, u "places"), (0, u "I"), (0, .fieldref 10 48), (0, .nameAndType 49 46), (0, u "leaves"), (0, .fieldref 10 51), (0, .nameAndType 52 14), (0, u "fewest"), (0, .integer 2147483647), (0, .methodref 55 56), (0, .class_ 57), (0, .nameAndType 58 59), (0, u "java/util/Arrays"), (0, u "fill"), (0, u "([II)V"), (0, .methodref 10 61), (0, .nameAndType 62 63), (0, u "place"), (0, u "(II)I"), (0, .methodref 10 65), (0, .nameAndType 66 67), (0, u "set"), (0, u "(IZ)V"), (0, .methodref 10 69), (0, .nameAndType 70 71), (0, u "rankAt"), (0, u "(I)I"), (3, u "firstFitting"), (0, .fieldref 10 77), (0, .nameAndType 78 27), (0, u "shortest"), (8, u "smallest"), (1, .class_ 91), (1, u "com/example/redoubt/redoubt/policies/FirstFitQueue$Fit"), (6, .methodref 10 99), (0, .nameAndType 100 101), (0, u "liftFewest"), (0, u "(I)Z"), (2, u "staleCount"), (14, .methodref 120 121), (0, .class_ 122), (0, .nameAndType 123 63), (0, u "java/lang/Math"), (0, u "min"), (4, u "ABSENT"), (1, u "(Ljava/util/List;[II)V"), (6, u "add")] 12

def k25c0 : Code := { maxStack := 4, maxLocals := 6, code := prog_106_method_1_code, exceptionTable := #[], attributes := #[] }
def k25m0 : Method := { name := "<init>", desc := "(Ljava/util/List;[II)V", sig := { parameters := [(.object "java/util/List"), (.array .int), .int], returnType := none }, accessFlags := 0, code := some k25c0 }
def k25c1 : Code := { maxStack := 3, maxLocals := 4, code := prog_106_method_2_code, exceptionTable := #[], attributes := #[] }
def k25m1 : Method := { name := "add", desc := "(II)I", sig := { parameters := [.int, .int], returnType := some .int }, accessFlags := 0, code := some k25c1 }
def k25c2 : Code := { maxStack := 3, maxLocals := 3, code := prog_106_method_3_code, exceptionTable := #[], attributes := #[] }
def k25m2 : Method := { name := "place", desc := "(II)I", sig := { parameters := [.int, .int], returnType := some .int }, accessFlags := 0, code := some k25c2 }
def k25c3 : Code := { maxStack := 2, maxLocals := 3, code := prog_106_method_7_code, exceptionTable := #[], attributes := #[] }
def k25m3 : Method := { name := "rankAt", desc := "(I)I", sig := { parameters := [.int], returnType := some .int }, accessFlags := 2, code := some k25c3 }
def k25c4 : Code := { maxStack := 3, maxLocals := 4, code := prog_106_method_11_code, exceptionTable := #[], attributes := #[] }
def k25m4 : Method := { name := "firstFitting", desc := "(II)I", sig := { parameters := [.int, .int], returnType := some .int }, accessFlags := 0, code := some k25c4 }
def k25c5 : Code := { maxStack := 5, maxLocals := 5, code := prog_106_method_13_code, exceptionTable := #[], attributes := #[] }
def k25m5 : Method := { name := "set", desc := "(IZ)V", sig := { parameters := [.int, .boolean], returnType := none }, accessFlags := 2, code := some k25c5 }
def k25c6 : Code := { maxStack := 4, maxLocals := 4, code := prog_106_method_18_code, exceptionTable := #[], attributes := #[] }
def k25m6 : Method := { name := "liftFewest", desc := "(I)Z", sig := { parameters := [.int], returnType := some .boolean }, accessFlags := 2, code := some k25c6 }
/-- com/example/redoubt/redoubt/policies/FirstFitQueue -/
def k25 : Class := { plain "com/example/redoubt/redoubt/policies/FirstFitQueue" (some 0) with
  accessFlags := 48
  interfaces := #[]
  cf := some (fileOf pool25 10 #[.nestMembers #[89]] #[{ accessFlags := 0, nameIndex := 7, descriptorIndex := 130, attributes := #[] }, { accessFlags := 0, nameIndex := 137, descriptorIndex := 63, attributes := #[] }, { accessFlags := 0, nameIndex := 62, descriptorIndex := 63, attributes := #[] }, { accessFlags := 2, nameIndex := 70, descriptorIndex := 71, attributes := #[] }, { accessFlags := 0, nameIndex := 75, descriptorIndex := 63, attributes := #[] }, { accessFlags := 2, nameIndex := 66, descriptorIndex := 67, attributes := #[] }, { accessFlags := 2, nameIndex := 100, descriptorIndex := 101, attributes := #[] }] 48 4 #[] #[{ accessFlags := 26, nameIndex := 128, descriptorIndex := 46, attributes := #[] }, { accessFlags := 18, nameIndex := 17, descriptorIndex := 14, attributes := #[] }, { accessFlags := 18, nameIndex := 20, descriptorIndex := 14, attributes := #[] }, { accessFlags := 18, nameIndex := 23, descriptorIndex := 14, attributes := #[] }, { accessFlags := 18, nameIndex := 26, descriptorIndex := 27, attributes := #[] }, { accessFlags := 18, nameIndex := 45, descriptorIndex := 46, attributes := #[] }, { accessFlags := 18, nameIndex := 49, descriptorIndex := 46, attributes := #[] }, { accessFlags := 18, nameIndex := 52, descriptorIndex := 14, attributes := #[] }, { accessFlags := 2, nameIndex := 78, descriptorIndex := 27, attributes := #[] }, { accessFlags := 2, nameIndex := 87, descriptorIndex := 27, attributes := #[] }, { accessFlags := 2, nameIndex := 13, descriptorIndex := 14, attributes := #[] }, { accessFlags := 2, nameIndex := 104, descriptorIndex := 46, attributes := #[] }])
  fields := #[{ name := "ABSENT", type := .int, accessFlags := 26, slot := 0, constantValue := 0 }, { name := "order", type := (.array .int), accessFlags := 18, slot := 0, constantValue := 0 }, { name := "rankOf", type := (.array .int), accessFlags := 18, slot := 1, constantValue := 0 }, { name := "procs", type := (.array .int), accessFlags := 18, slot := 2, constantValue := 0 }, { name := "times", type := (.array .double), accessFlags := 18, slot := 3, constantValue := 0 }, { name := "places", type := .int, accessFlags := 18, slot := 4, constantValue := 0 }, { name := "leaves", type := .int, accessFlags := 18, slot := 5, constantValue := 0 }, { name := "fewest", type := (.array .int), accessFlags := 18, slot := 6, constantValue := 0 }, { name := "shortest", type := (.array .double), accessFlags := 2, slot := 7, constantValue := 0 }, { name := "smallest", type := (.array .double), accessFlags := 2, slot := 8, constantValue := 0 }, { name := "stale", type := (.array .int), accessFlags := 2, slot := 9, constantValue := 0 }, { name := "staleCount", type := .int, accessFlags := 2, slot := 10, constantValue := 0 }]
  methods := #[k25m0, k25m1, k25m2, k25m3, k25m4, k25m5, k25m6]
  instanceTypes := #[(.array .int), (.array .int), (.array .int), (.array .double), .int, .int, (.array .int), (.array .double), (.array .double), (.array .int), .int]
  staticTypes := #[.int]
  resolved := Array.replicate 150 none
  statics := none }

def pool26 : Array CpInfo := pool [(2, .class_ 4), (1, u "java/lang/Object"), (0, u "<init>"), (0, u "()V"), (7, .class_ 16), (1, u "java/util/Arrays"), (57, .class_ 76), (1, u "java/util/Arrays$NaturalOrder"), (36, .class_ 115), (1, u "java/util/Arrays$LegacyMergeSort"), (1, u "Z"), (257, .class_ 376), (0, u "java/util/Arrays$ArrayList"), (68, u "$assertionsDisabled"), (269, u "MIN_ARRAY_SORT_GRAN"), (0, u "I"), (2, u "INSERTIONSORT_THRESHOLD"), (120, u "fill"), (4, u "([II)V"), (129, .class_ 976), (0, u "java/util/Arrays$ArrayItr")] 52

def k26m0 : Method := { name := "<init>", desc := "()V", sig := { parameters := [], returnType := none }, accessFlags := 2, code := none }
def k26c1 : Code := { maxStack := 3, maxLocals := 4, code := jdk_65_method_103_code, exceptionTable := #[], attributes := #[] }
def k26m1 : Method := { name := "fill", desc := "([II)V", sig := { parameters := [(.array .int), .int], returnType := none }, accessFlags := 9, code := some k26c1 }
/-- java/util/Arrays -/
def k26 : Class := { plain "java/util/Arrays" (some 0) with
  accessFlags := 49
  interfaces := #[]
  cf := some (fileOf pool26 14 #[.nestMembers #[975, 375, 113, 74]] #[{ accessFlags := 2, nameIndex := 5, descriptorIndex := 6, attributes := #[] }, { accessFlags := 9, nameIndex := 840, descriptorIndex := 845, attributes := #[] }] 49 2 #[] #[{ accessFlags := 26, nameIndex := 715, descriptorIndex := 716, attributes := #[] }, { accessFlags := 26, nameIndex := 719, descriptorIndex := 716, attributes := #[] }, { accessFlags := 4120, nameIndex := 445, descriptorIndex := 117, attributes := #[] }])
  fields := #[{ name := "MIN_ARRAY_SORT_GRAN", type := .int, accessFlags := 26, slot := 0, constantValue := 0 }, { name := "INSERTIONSORT_THRESHOLD", type := .int, accessFlags := 26, slot := 1, constantValue := 0 }, { name := "$assertionsDisabled", type := .boolean, accessFlags := 4120, slot := 2, constantValue := 0 }]
  methods := #[k26m0, k26m1]
  instanceTypes := #[]
  staticTypes := #[.int, .int, .boolean]
  resolved := Array.replicate 1029 none
  statics := none }

def pool27 : Array CpInfo := pool [(9, u "<init>"), (6, .class_ 18), (1, u "java/lang/Object"), (0, u "()V"), (1, .class_ 23), (1, u "jdk/internal/util/ArraysSupport"), (0, u "LOG2_ARRAY_LONG_INDEX_SCALE"), (0, u "I"), (2, u "U"), (0, u "Ljdk/internal/misc/Unsafe;"), (8, u "BIG_ENDIAN"), (0, u "Z"), (8, u "LOG2_BYTE_BIT_SIZE"), (4, u "LOG2_ARRAY_INT_INDEX_SCALE"), (54, u "JLA"), (0, u "Ljdk/internal/access/JavaLangAccess;"), (11, u "LOG2_ARRAY_BOOLEAN_INDEX_SCALE"), (9, u "LOG2_ARRAY_BYTE_INDEX_SCALE"), (5, u "LOG2_ARRAY_CHAR_INDEX_SCALE"), (5, u "LOG2_ARRAY_SHORT_INDEX_SCALE"), (18, u "LOG2_ARRAY_FLOAT_INDEX_SCALE"), (24, u "LOG2_ARRAY_DOUBLE_INDEX_SCALE"), (89, u "T_BOOLEAN"), (2, u "T_CHAR"), (1, u "T_FLOAT"), (1, u "T_DOUBLE"), (1, u "T_BYTE"), (1, u "T_SHORT"), (1, u "T_INT"), (1, u "T_LONG"), (1, u "SOFT_MAX_ARRAY_LENGTH")] 83

def k27m0 : Method := { name := "<init>", desc := "()V", sig := { parameters := [], returnType := none }, accessFlags := 2, code := none }
/-- jdk/internal/util/ArraysSupport -/
def k27 : Class := { plain "jdk/internal/util/ArraysSupport" (some 0) with
  accessFlags := 33
  interfaces := #[]
  cf := some (fileOf pool27 21 #[] #[{ accessFlags := 2, nameIndex := 9, descriptorIndex := 19, attributes := #[] }] 33 16 #[] #[{ accessFlags := 24, nameIndex := 28, descriptorIndex := 29, attributes := #[] }, { accessFlags := 26, nameIndex := 38, descriptorIndex := 39, attributes := #[] }, { accessFlags := 25, nameIndex := 121, descriptorIndex := 25, attributes := #[] }, { accessFlags := 25, nameIndex := 131, descriptorIndex := 25, attributes := #[] }, { accessFlags := 25, nameIndex := 137, descriptorIndex := 25, attributes := #[] }, { accessFlags := 25, nameIndex := 143, descriptorIndex := 25, attributes := #[] }, { accessFlags := 25, nameIndex := 53, descriptorIndex := 25, attributes := #[] }, { accessFlags := 25, nameIndex := 24, descriptorIndex := 25, attributes := #[] }, { accessFlags := 25, nameIndex := 162, descriptorIndex := 25, attributes := #[] }, { accessFlags := 25, nameIndex := 187, descriptorIndex := 25, attributes := #[] }, { accessFlags := 26, nameIndex := 48, descriptorIndex := 25, attributes := #[] }, { accessFlags := 25, nameIndex := 277, descriptorIndex := 25, attributes := #[] }, { accessFlags := 25, nameIndex := 280, descriptorIndex := 25, attributes := #[] }, { accessFlags := 25, nameIndex := 282, descriptorIndex := 25, attributes := #[] }, { accessFlags := 25, nameIndex := 284, descriptorIndex := 25, attributes := #[] }, { accessFlags := 25, nameIndex := 286, descriptorIndex := 25, attributes := #[] }, { accessFlags := 25, nameIndex := 288, descriptorIndex := 25, attributes := #[] }, { accessFlags := 25, nameIndex := 290, descriptorIndex := 25, attributes := #[] }, { accessFlags := 25, nameIndex := 292, descriptorIndex := 25, attributes := #[] }, { accessFlags := 26, nameIndex := 108, descriptorIndex := 109, attributes := #[] }, { accessFlags := 25, nameIndex := 294, descriptorIndex := 25, attributes := #[] }])
  fields := #[{ name := "U", type := (.object "jdk/internal/misc/Unsafe"), accessFlags := 24, slot := 0, constantValue := 0 }, { name := "BIG_ENDIAN", type := .boolean, accessFlags := 26, slot := 1, constantValue := 0 }, { name := "LOG2_ARRAY_BOOLEAN_INDEX_SCALE", type := .int, accessFlags := 25, slot := 2, constantValue := 0 }, { name := "LOG2_ARRAY_BYTE_INDEX_SCALE", type := .int, accessFlags := 25, slot := 3, constantValue := 0 }, { name := "LOG2_ARRAY_CHAR_INDEX_SCALE", type := .int, accessFlags := 25, slot := 4, constantValue := 0 }, { name := "LOG2_ARRAY_SHORT_INDEX_SCALE", type := .int, accessFlags := 25, slot := 5, constantValue := 0 }, { name := "LOG2_ARRAY_INT_INDEX_SCALE", type := .int, accessFlags := 25, slot := 6, constantValue := 0 }, { name := "LOG2_ARRAY_LONG_INDEX_SCALE", type := .int, accessFlags := 25, slot := 7, constantValue := 0 }, { name := "LOG2_ARRAY_FLOAT_INDEX_SCALE", type := .int, accessFlags := 25, slot := 8, constantValue := 0 }, { name := "LOG2_ARRAY_DOUBLE_INDEX_SCALE", type := .int, accessFlags := 25, slot := 9, constantValue := 0 }, { name := "LOG2_BYTE_BIT_SIZE", type := .int, accessFlags := 26, slot := 10, constantValue := 0 }, { name := "T_BOOLEAN", type := .int, accessFlags := 25, slot := 11, constantValue := 0 }, { name := "T_CHAR", type := .int, accessFlags := 25, slot := 12, constantValue := 0 }, { name := "T_FLOAT", type := .int, accessFlags := 25, slot := 13, constantValue := 0 }, { name := "T_DOUBLE", type := .int, accessFlags := 25, slot := 14, constantValue := 0 }, { name := "T_BYTE", type := .int, accessFlags := 25, slot := 15, constantValue := 0 }, { name := "T_SHORT", type := .int, accessFlags := 25, slot := 16, constantValue := 0 }, { name := "T_INT", type := .int, accessFlags := 25, slot := 17, constantValue := 0 }, { name := "T_LONG", type := .int, accessFlags := 25, slot := 18, constantValue := 0 }, { name := "JLA", type := (.object "jdk/internal/access/JavaLangAccess"), accessFlags := 26, slot := 19, constantValue := 0 }, { name := "SOFT_MAX_ARRAY_LENGTH", type := .int, accessFlags := 25, slot := 20, constantValue := 0 }]
  methods := #[k27m0]
  instanceTypes := #[]
  staticTypes := #[(.object "jdk/internal/misc/Unsafe"), .boolean, .int, .int, .int, .int, .int, .int, .int, .int, .int, .int, .int, .int, .int, .int, .int, .int, .int, (.object "jdk/internal/access/JavaLangAccess"), .int]
  resolved := Array.replicate 378 none
  statics := none }

/-- the primitive byte -/
def k28 : Class := { plain "byte" none with kind := .primitive 'B', accessFlags := 0x411 }
/-- [B -/
def k29 : Class := { plain "[B" (some 0) with kind := .array 28 .byte, interfaces := #[10, 11], accessFlags := 1041 }

/-- the primitive double -/
def k30 : Class := { plain "double" none with kind := .primitive 'D', accessFlags := 0x411 }
/-- [D -/
def k31 : Class := { plain "[D" (some 0) with kind := .array 30 .double, interfaces := #[10, 11], accessFlags := 1041 }

/-- the primitive int -/
def k32 : Class := { plain "int" none with kind := .primitive 'I', accessFlags := 0x411 }
/-- [I -/
def k33 : Class := { plain "[I" (some 0) with kind := .array 32 .int, interfaces := #[10, 11], accessFlags := 1041 }

/-- [Ljava/lang/Object; -/
def k34 : Class := { plain "[Ljava/lang/Object;" (some 0) with kind := .array 0 (.object "java/lang/Object"), interfaces := #[10, 11], accessFlags := 1041 }

def heap : Heap := #[{ cls := 12, slots := #[.long 0, .int 0, .ref 3, .ref 4], vm := .statics 12 },
  { cls := 20, slots := #[.long 0, .int 1, .null, .int 0, .null, .int 0, .int 0], vm := .statics 20 },
  { cls := 24, slots := #[.null, .null, .null], vm := .statics 24 },
  { cls := 34, slots := #[], vm := .none },
  { cls := 34, slots := #[], vm := .none }]
/-- int[][] -/
def k35 : Class := { plain "[[I" (some 0) with kind := .array 33 (.array .int), interfaces := #[10, 11], accessFlags := 1041 }
def classes : Array Class := #[k0, k1, k2, k3, k4, k5, k6, k7, k8, k9, k10, k11, k12, k13, k14, k15, k16, k17, k18, k19, k20, k21, k22, k23, k24, k25, k26, k27, k28, k29, k30, k31, k32, k33, k34, k35]
def interned : List (Array UInt16 × Addr) := []
def slotsUsed : Nat := 14
def theMethod : MethodId := ⟨1, 1⟩
def args0 : Array Value := #[.int 5, .int 7, .int 9, .int 3, .int 1, .int 256]
def aboutOver (below : List Frame) : State where
  vm := { classes := classes, interned := interned.toArray }
  heap := heap
  slotsUsed := slotsUsed
  threads := #[{ frames := .invoking theMethod args0 :: below }]
def below0 : List Frame := [.native { method := ⟨0, 0⟩, args := #[] }]
def about1 : State := aboutOver below0
def p0 : Program := .bare "" "" ""
def e0 : Env := launch0.env 0 0 0
theorem w_frames : about1.frames = Frame.invoking theMethod args0 :: below0 := rfl
set_option maxRecDepth 65536 in
theorem w_args : argsFit about1.vm theMethod args0 = true := by decide +kernel
set_option maxRecDepth 65536 in
theorem w_heap : heapFits about1 = true := by decide +kernel
set_option maxRecDepth 65536 in
theorem w_runnable : about1.curStatus? = some .runnable := by decide +kernel
set_option maxRecDepth 65536 in
theorem w_alone : about1.alone = true := by decide +kernel
set_option maxRecDepth 65536 in
theorem w_named : about1.methodNamed? x = some theMethod := by decide +kernel
set_option maxRecDepth 65536 in
theorem w_hears : about1.hears theMethod below0 = true := by decide +kernel
set_option maxRecDepth 65536 in
theorem w_ripe : about1.ripe theMethod args0 below0 = true := by decide +kernel
theorem w_running : about1.status = .running := rfl
set_option maxRecDepth 65536 in
theorem w_room : about1.hasRoom e0.platform room_1 = true :=
  launch0.hasRoom_least _ room_1 (by decide +kernel) (by decide +kernel) (by decide +kernel) (by decide +kernel) (by decide +kernel) (by decide +kernel)
theorem allAtoms_all (ts : List Jvm.Cond) (a : Array Jvm.Value) (st : Jvm.State) : (allAtoms ts).before a st = ts.all (fun c => c.before a st) := by
  induction ts with
  | nil => rfl
  | cons c t ih =>
    show (Jvm.Cond.and c (allAtoms t)).before a st = _
    rw [Jvm.Cond.before_and, ih, List.all_cons]
def words1 : List Jvm.Cond := Jvm.Cond.code x code maxLocals ret :: tables_1
/-- a 'code' word, met by the world's own term for the bytes: nothing is compared byte by byte -/
theorem code_word {y : MethodName} {bytes : ByteArray} {mx : Nat} {rt : Option FieldType} {a : Array Value} {s : State} {m : MethodId} {meth : Method} {c : Code} (h1 : s.methodNamed? y = some m) (h2 : s.vm.method? m = some meth) (h3 : meth.code = some c) (h4 : c.code = bytes)
    (h5 : (c.maxLocals == mx && c.exceptionTable.isEmpty && decide (c.maxStack ≤ mostOperands) && decide (meth.sig.returnType = rt) && !meth.locks && decide (parseMethodDescriptor y.desc = some meth.sig)) = true) : (Jvm.Cond.code y bytes mx rt).before a s = true := by
  simp only [Bool.and_eq_true, beq_iff_eq, Bool.not_eq_true', decide_eq_true_eq] at h5
  obtain ⟨⟨⟨⟨⟨g1, g2⟩, g3⟩, g4⟩, g5⟩, g6⟩ := h5
  simp [Cond.before, Cond.holds, Cond.value, h1, h2, h3, h4, g1, g2, g3, g4, g5, g6]
def isCode : Jvm.Cond → Bool
  | .code _ _ _ _ => true
  | _ => false
theorem all_split {L : List Jvm.Cond} {P : Jvm.Cond → Bool} (h1 : L.all (fun c => isCode c || P c) = true) (h2 : ∀ c ∈ L.filter isCode, P c = true) : L.all P = true := by
  refine List.all_eq_true.mpr fun c hc => ?_
  have h := List.all_eq_true.mp h1 c hc
  rcases Bool.eq_false_or_eq_true (isCode c) with hi | hi
  · exact h2 c (List.mem_filter.mpr ⟨hc, hi⟩)
  · simpa [hi] using h
set_option maxRecDepth 65536 in
theorem w_c0 : (Jvm.Cond.code x code maxLocals ret).before args0 about1 = true := code_word (m := ⟨1, 1⟩) (meth := k1m1) (c := k1c1) (by decide +kernel) rfl rfl rfl (by decide +kernel)
set_option maxRecDepth 65536 in
theorem w_c1 : (Jvm.Cond.code ({ cls := "java/lang/Math", name := "max", desc := "(II)I" } : Jvm.MethodName) jdk_29_method_65_code (2 : Nat) (Option.some Jvm.ClassFile.FieldType.int)).before args0 about1 = true := code_word (m := ⟨2, 1⟩) (meth := k2m1) (c := k2c1) (by decide +kernel) rfl rfl rfl (by decide +kernel)
set_option maxRecDepth 65536 in
theorem w_c2 : (Jvm.Cond.code ({ cls := "java/util/ArrayList", name := "<init>", desc := "()V" } : Jvm.MethodName) jdk_38_method_2_code (1 : Nat) (Option.none : Option Jvm.ClassFile.FieldType)).before args0 about1 = true := code_word (m := ⟨12, 0⟩) (meth := k12m0) (c := k12c0) (by decide +kernel) rfl rfl rfl (by decide +kernel)
set_option maxRecDepth 65536 in
theorem w_c3 : (Jvm.Cond.code ({ cls := "java/util/AbstractList", name := "<init>", desc := "()V" } : Jvm.MethodName) jdk_39_method_1_code (1 : Nat) (Option.none : Option Jvm.ClassFile.FieldType)).before args0 about1 = true := code_word (m := ⟨8, 0⟩) (meth := k8m0) (c := k8c0) (by decide +kernel) rfl rfl rfl (by decide +kernel)
set_option maxRecDepth 65536 in
theorem w_c4 : (Jvm.Cond.code ({ cls := "java/util/AbstractCollection", name := "<init>", desc := "()V" } : Jvm.MethodName) jdk_22_method_1_code (1 : Nat) (Option.none : Option Jvm.ClassFile.FieldType)).before args0 about1 = true := code_word (m := ⟨5, 0⟩) (meth := k5m0) (c := k5c0) (by decide +kernel) rfl rfl rfl (by decide +kernel)
set_option maxRecDepth 65536 in
theorem w_c5 : (Jvm.Cond.code ({ cls := "java/lang/Object", name := "<init>", desc := "()V" } : Jvm.MethodName) object_method_1_code (1 : Nat) (Option.none : Option Jvm.ClassFile.FieldType)).before args0 about1 = true := code_word (m := ⟨0, 0⟩) (meth := k0m0) (c := k0c0) (by decide +kernel) rfl rfl rfl (by decide +kernel)
set_option maxRecDepth 65536 in
theorem w_c6 : (Jvm.Cond.code ({ cls := "com/example/redoubt/redoubt/engine/Job", name := "<init>", desc := "(Ljava/lang/String;ID)V" } : Jvm.MethodName) prog_28_method_1_code (5 : Nat) (Option.none : Option Jvm.ClassFile.FieldType)).before args0 about1 = true := code_word (m := ⟨15, 0⟩) (meth := k15m0) (c := k15c0) (by decide +kernel) rfl rfl rfl (by decide +kernel)
set_option maxRecDepth 65536 in
theorem w_c7 : (Jvm.Cond.code ({ cls := "java/lang/Record", name := "<init>", desc := "()V" } : Jvm.MethodName) jdk_30_method_1_code (1 : Nat) (Option.none : Option Jvm.ClassFile.FieldType)).before args0 about1 = true := code_word (m := ⟨13, 0⟩) (meth := k13m0) (c := k13c0) (by decide +kernel) rfl rfl rfl (by decide +kernel)
set_option maxRecDepth 65536 in
theorem w_c8 : (Jvm.Cond.code ({ cls := "com/example/redoubt/redoubt/engine/Job", name := "requireId", desc := "(Ljava/lang/String;)Ljava/lang/String;" } : Jvm.MethodName) prog_28_method_7_code (1 : Nat) (Option.some (Jvm.ClassFile.FieldType.object "java/lang/String"))).before args0 about1 = true := code_word (m := ⟨15, 1⟩) (meth := k15m1) (c := k15c1) (by decide +kernel) rfl rfl rfl (by decide +kernel)
set_option maxRecDepth 65536 in
theorem w_c9 : (Jvm.Cond.code ({ cls := "java/util/Objects", name := "requireNonNull", desc := "(Ljava/lang/Object;Ljava/lang/String;)Ljava/lang/Object;" } : Jvm.MethodName) jdk_31_method_11_code (2 : Nat) (Option.some (Jvm.ClassFile.FieldType.object "java/lang/Object"))).before args0 about1 = true := code_word (m := ⟨21, 1⟩) (meth := k21m1) (c := k21c1) (by decide +kernel) rfl rfl rfl (by decide +kernel)
set_option maxRecDepth 65536 in
theorem w_c10 : (Jvm.Cond.code ({ cls := "java/lang/String", name := "isEmpty", desc := "()Z" } : Jvm.MethodName) jdk_42_method_55_code (1 : Nat) (Option.some Jvm.ClassFile.FieldType.boolean)).before args0 about1 = true := code_word (m := ⟨20, 2⟩) (meth := k20m2) (c := k20c2) (by decide +kernel) rfl rfl rfl (by decide +kernel)
set_option maxRecDepth 65536 in
theorem w_c11 : (Jvm.Cond.code ({ cls := "com/example/redoubt/redoubt/engine/Names", name := "fitsCsvField", desc := "(Ljava/lang/String;)Z" } : Jvm.MethodName) prog_39_method_2_code (3 : Nat) (Option.some Jvm.ClassFile.FieldType.boolean)).before args0 about1 = true := code_word (m := ⟨22, 1⟩) (meth := k22m1) (c := k22c1) (by decide +kernel) rfl rfl rfl (by decide +kernel)
set_option maxRecDepth 65536 in
theorem w_c12 : (Jvm.Cond.code ({ cls := "java/lang/String", name := "length", desc := "()I" } : Jvm.MethodName) jdk_42_method_54_code (1 : Nat) (Option.some Jvm.ClassFile.FieldType.int)).before args0 about1 = true := code_word (m := ⟨20, 1⟩) (meth := k20m1) (c := k20c1) (by decide +kernel) rfl rfl rfl (by decide +kernel)
set_option maxRecDepth 65536 in
theorem w_c13 : (Jvm.Cond.code ({ cls := "java/lang/String", name := "coder", desc := "()B" } : Jvm.MethodName) jdk_42_method_152_code (1 : Nat) (Option.some Jvm.ClassFile.FieldType.byte)).before args0 about1 = true := code_word (m := ⟨20, 4⟩) (meth := k20m4) (c := k20c4) (by decide +kernel) rfl rfl rfl (by decide +kernel)
set_option maxRecDepth 65536 in
theorem w_c14 : (Jvm.Cond.code ({ cls := "java/lang/String", name := "charAt", desc := "(I)C" } : Jvm.MethodName) jdk_42_method_56_code (2 : Nat) (Option.some Jvm.ClassFile.FieldType.char)).before args0 about1 = true := code_word (m := ⟨20, 3⟩) (meth := k20m3) (c := k20c3) (by decide +kernel) rfl rfl rfl (by decide +kernel)
set_option maxRecDepth 65536 in
theorem w_c15 : (Jvm.Cond.code ({ cls := "java/lang/String", name := "isLatin1", desc := "()Z" } : Jvm.MethodName) jdk_42_method_154_code (1 : Nat) (Option.some Jvm.ClassFile.FieldType.boolean)).before args0 about1 = true := code_word (m := ⟨20, 5⟩) (meth := k20m5) (c := k20c5) (by decide +kernel) rfl rfl rfl (by decide +kernel)
set_option maxRecDepth 65536 in
theorem w_c16 : (Jvm.Cond.code ({ cls := "java/lang/StringLatin1", name := "charAt", desc := "([BI)C" } : Jvm.MethodName) jdk_43_method_2_code (2 : Nat) (Option.some Jvm.ClassFile.FieldType.char)).before args0 about1 = true := code_word (m := ⟨23, 1⟩) (meth := k23m1) (c := k23c1) (by decide +kernel) rfl rfl rfl (by decide +kernel)
set_option maxRecDepth 65536 in
theorem w_c17 : (Jvm.Cond.code ({ cls := "java/lang/String", name := "checkIndex", desc := "(II)V" } : Jvm.MethodName) jdk_42_method_155_code (2 : Nat) (Option.none : Option Jvm.ClassFile.FieldType)).before args0 about1 = true := code_word (m := ⟨20, 6⟩) (meth := k20m6) (c := k20c6) (by decide +kernel) rfl rfl rfl (by decide +kernel)
set_option maxRecDepth 65536 in
theorem w_c18 : (Jvm.Cond.code ({ cls := "jdk/internal/util/Preconditions", name := "checkIndex", desc := "(IILjava/util/function/BiFunction;)I" } : Jvm.MethodName) jdk_41_method_11_code (3 : Nat) (Option.some Jvm.ClassFile.FieldType.int)).before args0 about1 = true := code_word (m := ⟨24, 1⟩) (meth := k24m1) (c := k24c1) (by decide +kernel) rfl rfl rfl (by decide +kernel)
set_option maxRecDepth 65536 in
theorem w_c19 : (Jvm.Cond.code ({ cls := "java/util/ArrayList", name := "add", desc := "(Ljava/lang/Object;)Z" } : Jvm.MethodName) jdk_38_method_25_code (2 : Nat) (Option.some Jvm.ClassFile.FieldType.boolean)).before args0 about1 = true := code_word (m := ⟨12, 6⟩) (meth := k12m6) (c := k12c6) (by decide +kernel) rfl rfl rfl (by decide +kernel)
set_option maxRecDepth 65536 in
theorem w_c20 : (Jvm.Cond.code ({ cls := "java/util/ArrayList", name := "add", desc := "(Ljava/lang/Object;[Ljava/lang/Object;I)V" } : Jvm.MethodName) jdk_38_method_24_code (4 : Nat) (Option.none : Option Jvm.ClassFile.FieldType)).before args0 about1 = true := code_word (m := ⟨12, 5⟩) (meth := k12m5) (c := k12c5) (by decide +kernel) rfl rfl rfl (by decide +kernel)
set_option maxRecDepth 65536 in
theorem w_c21 : (Jvm.Cond.code ({ cls := "java/util/ArrayList", name := "grow", desc := "()[Ljava/lang/Object;" } : Jvm.MethodName) jdk_38_method_7_code (1 : Nat) (Option.some (Jvm.ClassFile.FieldType.array (Jvm.ClassFile.FieldType.object "java/lang/Object")))).before args0 about1 = true := code_word (m := ⟨12, 2⟩) (meth := k12m2) (c := k12c2) (by decide +kernel) rfl rfl rfl (by decide +kernel)
set_option maxRecDepth 65536 in
theorem w_c22 : (Jvm.Cond.code ({ cls := "java/util/ArrayList", name := "grow", desc := "(I)[Ljava/lang/Object;" } : Jvm.MethodName) jdk_38_method_6_code (4 : Nat) (Option.some (Jvm.ClassFile.FieldType.array (Jvm.ClassFile.FieldType.object "java/lang/Object")))).before args0 about1 = true := code_word (m := ⟨12, 1⟩) (meth := k12m1) (c := k12c1) (by decide +kernel) rfl rfl rfl (by decide +kernel)
set_option maxRecDepth 65536 in
theorem w_c23 : (Jvm.Cond.code ({ cls := "com/example/redoubt/redoubt/policies/FirstFitQueue", name := "<init>", desc := "(Ljava/util/List;[II)V" } : Jvm.MethodName) prog_106_method_1_code (6 : Nat) (Option.none : Option Jvm.ClassFile.FieldType)).before args0 about1 = true := code_word (m := ⟨25, 0⟩) (meth := k25m0) (c := k25c0) (by decide +kernel) rfl rfl rfl (by decide +kernel)
set_option maxRecDepth 65536 in
theorem w_c24 : (Jvm.Cond.code ({ cls := "java/util/ArrayList", name := "get", desc := "(I)Ljava/lang/Object;" } : Jvm.MethodName) jdk_38_method_20_code (2 : Nat) (Option.some (Jvm.ClassFile.FieldType.object "java/lang/Object"))).before args0 about1 = true := code_word (m := ⟨12, 4⟩) (meth := k12m4) (c := k12c4) (by decide +kernel) rfl rfl rfl (by decide +kernel)
set_option maxRecDepth 65536 in
theorem w_c25 : (Jvm.Cond.code ({ cls := "java/util/Objects", name := "checkIndex", desc := "(II)I" } : Jvm.MethodName) jdk_31_method_17_code (2 : Nat) (Option.some Jvm.ClassFile.FieldType.int)).before args0 about1 = true := code_word (m := ⟨21, 2⟩) (meth := k21m2) (c := k21c2) (by decide +kernel) rfl rfl rfl (by decide +kernel)
set_option maxRecDepth 65536 in
theorem w_c26 : (Jvm.Cond.code ({ cls := "java/util/ArrayList", name := "elementData", desc := "(I)Ljava/lang/Object;" } : Jvm.MethodName) jdk_38_method_18_code (2 : Nat) (Option.some (Jvm.ClassFile.FieldType.object "java/lang/Object"))).before args0 about1 = true := code_word (m := ⟨12, 3⟩) (meth := k12m3) (c := k12c3) (by decide +kernel) rfl rfl rfl (by decide +kernel)
set_option maxRecDepth 65536 in
theorem w_c27 : (Jvm.Cond.code ({ cls := "com/example/redoubt/redoubt/engine/Job", name := "procs", desc := "()I" } : Jvm.MethodName) prog_28_method_13_code (1 : Nat) (Option.some Jvm.ClassFile.FieldType.int)).before args0 about1 = true := code_word (m := ⟨15, 2⟩) (meth := k15m2) (c := k15c2) (by decide +kernel) rfl rfl rfl (by decide +kernel)
set_option maxRecDepth 65536 in
theorem w_c28 : (Jvm.Cond.code ({ cls := "com/example/redoubt/redoubt/engine/Job", name := "time", desc := "()D" } : Jvm.MethodName) prog_28_method_14_code (1 : Nat) (Option.some Jvm.ClassFile.FieldType.double)).before args0 about1 = true := code_word (m := ⟨15, 3⟩) (meth := k15m3) (c := k15c3) (by decide +kernel) rfl rfl rfl (by decide +kernel)
set_option maxRecDepth 65536 in
theorem w_c29 : (Jvm.Cond.code ({ cls := "java/util/Arrays", name := "fill", desc := "([II)V" } : Jvm.MethodName) jdk_65_method_103_code (4 : Nat) (Option.none : Option Jvm.ClassFile.FieldType)).before args0 about1 = true := code_word (m := ⟨26, 1⟩) (meth := k26m1) (c := k26c1) (by decide +kernel) rfl rfl rfl (by decide +kernel)
set_option maxRecDepth 65536 in
theorem w_c30 : (Jvm.Cond.code ({ cls := "com/example/redoubt/redoubt/policies/FirstFitQueue", name := "add", desc := "(II)I" } : Jvm.MethodName) prog_106_method_2_code (4 : Nat) (Option.some Jvm.ClassFile.FieldType.int)).before args0 about1 = true := code_word (m := ⟨25, 1⟩) (meth := k25m1) (c := k25c1) (by decide +kernel) rfl rfl rfl (by decide +kernel)
set_option maxRecDepth 65536 in
theorem w_c31 : (Jvm.Cond.code ({ cls := "com/example/redoubt/redoubt/policies/FirstFitQueue", name := "place", desc := "(II)I" } : Jvm.MethodName) prog_106_method_3_code (3 : Nat) (Option.some Jvm.ClassFile.FieldType.int)).before args0 about1 = true := code_word (m := ⟨25, 2⟩) (meth := k25m2) (c := k25c2) (by decide +kernel) rfl rfl rfl (by decide +kernel)
set_option maxRecDepth 65536 in
theorem w_c32 : (Jvm.Cond.code ({ cls := "com/example/redoubt/redoubt/policies/FirstFitQueue", name := "set", desc := "(IZ)V" } : Jvm.MethodName) prog_106_method_13_code (5 : Nat) (Option.none : Option Jvm.ClassFile.FieldType)).before args0 about1 = true := code_word (m := ⟨25, 5⟩) (meth := k25m5) (c := k25c5) (by decide +kernel) rfl rfl rfl (by decide +kernel)
set_option maxRecDepth 65536 in
theorem w_c33 : (Jvm.Cond.code ({ cls := "com/example/redoubt/redoubt/policies/FirstFitQueue", name := "rankAt", desc := "(I)I" } : Jvm.MethodName) prog_106_method_7_code (3 : Nat) (Option.some Jvm.ClassFile.FieldType.int)).before args0 about1 = true := code_word (m := ⟨25, 3⟩) (meth := k25m3) (c := k25c3) (by decide +kernel) rfl rfl rfl (by decide +kernel)
set_option maxRecDepth 65536 in
theorem w_c34 : (Jvm.Cond.code ({ cls := "com/example/redoubt/redoubt/policies/FirstFitQueue", name := "liftFewest", desc := "(I)Z" } : Jvm.MethodName) prog_106_method_18_code (4 : Nat) (Option.some Jvm.ClassFile.FieldType.boolean)).before args0 about1 = true := code_word (m := ⟨25, 6⟩) (meth := k25m6) (c := k25c6) (by decide +kernel) rfl rfl rfl (by decide +kernel)
set_option maxRecDepth 65536 in
theorem w_c35 : (Jvm.Cond.code ({ cls := "java/lang/Math", name := "min", desc := "(II)I" } : Jvm.MethodName) jdk_29_method_69_code (2 : Nat) (Option.some Jvm.ClassFile.FieldType.int)).before args0 about1 = true := code_word (m := ⟨2, 2⟩) (meth := k2m2) (c := k2c2) (by decide +kernel) rfl rfl rfl (by decide +kernel)
set_option maxRecDepth 65536 in
theorem w_c36 : (Jvm.Cond.code ({ cls := "com/example/redoubt/redoubt/policies/FirstFitQueue", name := "firstFitting", desc := "(II)I" } : Jvm.MethodName) prog_106_method_11_code (4 : Nat) (Option.some Jvm.ClassFile.FieldType.int)).before args0 about1 = true := code_word (m := ⟨25, 4⟩) (meth := k25m4) (c := k25c4) (by decide +kernel) rfl rfl rfl (by decide +kernel)
set_option maxRecDepth 65536 in
theorem w_c37 : (Jvm.Cond.code ({ cls := "com/example/redoubt/redoubt/policies/FirstFitQueueFirstFittingPinLaw", name := "rankIn", desc := "([II)I" } : Jvm.MethodName) method_3_code (2 : Nat) (Option.some Jvm.ClassFile.FieldType.int)).before args0 about1 = true := code_word (m := ⟨1, 2⟩) (meth := k1m2) (c := k1c2) (by decide +kernel) rfl rfl rfl (by decide +kernel)
set_option maxRecDepth 65536 in
theorem w_c38 : (Jvm.Cond.code ({ cls := "com/example/redoubt/redoubt/policies/FirstFitQueueFirstFittingPinLaw", name := "pick", desc := "(IZIIII)I" } : Jvm.MethodName) method_4_code (6 : Nat) (Option.some Jvm.ClassFile.FieldType.int)).before args0 about1 = true := code_word (m := ⟨1, 3⟩) (meth := k1m3) (c := k1c3) (by decide +kernel) rfl rfl rfl (by decide +kernel)
def codes1 : List Jvm.Cond := [Jvm.Cond.code x code maxLocals ret, Jvm.Cond.code ({ cls := "java/lang/Math", name := "max", desc := "(II)I" } : Jvm.MethodName) jdk_29_method_65_code (2 : Nat) (Option.some Jvm.ClassFile.FieldType.int), Jvm.Cond.code ({ cls := "java/util/ArrayList", name := "<init>", desc := "()V" } : Jvm.MethodName) jdk_38_method_2_code (1 : Nat) (Option.none : Option Jvm.ClassFile.FieldType), Jvm.Cond.code ({ cls := "java/util/AbstractList", name := "<init>", desc := "()V" } : Jvm.MethodName) jdk_39_method_1_code (1 : Nat) (Option.none : Option Jvm.ClassFile.FieldType), Jvm.Cond.code ({ cls := "java/util/AbstractCollection", name := "<init>", desc := "()V" } : Jvm.MethodName) jdk_22_method_1_code (1 : Nat) (Option.none : Option Jvm.ClassFile.FieldType), Jvm.Cond.code ({ cls := "java/lang/Object", name := "<init>", desc := "()V" } : Jvm.MethodName) object_method_1_code (1 : Nat) (Option.none : Option Jvm.ClassFile.FieldType), Jvm.Cond.code ({ cls := "com/example/redoubt/redoubt/engine/Job", name := "<init>", desc := "(Ljava/lang/String;ID)V" } : Jvm.MethodName) prog_28_method_1_code (5 : Nat) (Option.none : Option Jvm.ClassFile.FieldType), Jvm.Cond.code ({ cls := "java/lang/Record", name := "<init>", desc := "()V" } : Jvm.MethodName) jdk_30_method_1_code (1 : Nat) (Option.none : Option Jvm.ClassFile.FieldType), Jvm.Cond.code ({ cls := "com/example/redoubt/redoubt/engine/Job", name := "requireId", desc := "(Ljava/lang/String;)Ljava/lang/String;" } : Jvm.MethodName) prog_28_method_7_code (1 : Nat) (Option.some (Jvm.ClassFile.FieldType.object "java/lang/String")), Jvm.Cond.code ({ cls := "java/util/Objects", name := "requireNonNull", desc := "(Ljava/lang/Object;Ljava/lang/String;)Ljava/lang/Object;" } : Jvm.MethodName) jdk_31_method_11_code (2 : Nat) (Option.some (Jvm.ClassFile.FieldType.object "java/lang/Object")), Jvm.Cond.code ({ cls := "java/lang/String", name := "isEmpty", desc := "()Z" } : Jvm.MethodName) jdk_42_method_55_code (1 : Nat) (Option.some Jvm.ClassFile.FieldType.boolean), Jvm.Cond.code ({ cls := "com/example/redoubt/redoubt/engine/Names", name := "fitsCsvField", desc := "(Ljava/lang/String;)Z" } : Jvm.MethodName) prog_39_method_2_code (3 : Nat) (Option.some Jvm.ClassFile.FieldType.boolean), Jvm.Cond.code ({ cls := "java/lang/String", name := "length", desc := "()I" } : Jvm.MethodName) jdk_42_method_54_code (1 : Nat) (Option.some Jvm.ClassFile.FieldType.int), Jvm.Cond.code ({ cls := "java/lang/String", name := "coder", desc := "()B" } : Jvm.MethodName) jdk_42_method_152_code (1 : Nat) (Option.some Jvm.ClassFile.FieldType.byte), Jvm.Cond.code ({ cls := "java/lang/String", name := "charAt", desc := "(I)C" } : Jvm.MethodName) jdk_42_method_56_code (2 : Nat) (Option.some Jvm.ClassFile.FieldType.char), Jvm.Cond.code ({ cls := "java/lang/String", name := "isLatin1", desc := "()Z" } : Jvm.MethodName) jdk_42_method_154_code (1 : Nat) (Option.some Jvm.ClassFile.FieldType.boolean), Jvm.Cond.code ({ cls := "java/lang/StringLatin1", name := "charAt", desc := "([BI)C" } : Jvm.MethodName) jdk_43_method_2_code (2 : Nat) (Option.some Jvm.ClassFile.FieldType.char), Jvm.Cond.code ({ cls := "java/lang/String", name := "checkIndex", desc := "(II)V" } : Jvm.MethodName) jdk_42_method_155_code (2 : Nat) (Option.none : Option Jvm.ClassFile.FieldType), Jvm.Cond.code ({ cls := "jdk/internal/util/Preconditions", name := "checkIndex", desc := "(IILjava/util/function/BiFunction;)I" } : Jvm.MethodName) jdk_41_method_11_code (3 : Nat) (Option.some Jvm.ClassFile.FieldType.int), Jvm.Cond.code ({ cls := "java/util/ArrayList", name := "add", desc := "(Ljava/lang/Object;)Z" } : Jvm.MethodName) jdk_38_method_25_code (2 : Nat) (Option.some Jvm.ClassFile.FieldType.boolean), Jvm.Cond.code ({ cls := "java/util/ArrayList", name := "add", desc := "(Ljava/lang/Object;[Ljava/lang/Object;I)V" } : Jvm.MethodName) jdk_38_method_24_code (4 : Nat) (Option.none : Option Jvm.ClassFile.FieldType), Jvm.Cond.code ({ cls := "java/util/ArrayList", name := "grow", desc := "()[Ljava/lang/Object;" } : Jvm.MethodName) jdk_38_method_7_code (1 : Nat) (Option.some (Jvm.ClassFile.FieldType.array (Jvm.ClassFile.FieldType.object "java/lang/Object"))), Jvm.Cond.code ({ cls := "java/util/ArrayList", name := "grow", desc := "(I)[Ljava/lang/Object;" } : Jvm.MethodName) jdk_38_method_6_code (4 : Nat) (Option.some (Jvm.ClassFile.FieldType.array (Jvm.ClassFile.FieldType.object "java/lang/Object"))), Jvm.Cond.code ({ cls := "com/example/redoubt/redoubt/policies/FirstFitQueue", name := "<init>", desc := "(Ljava/util/List;[II)V" } : Jvm.MethodName) prog_106_method_1_code (6 : Nat) (Option.none : Option Jvm.ClassFile.FieldType), Jvm.Cond.code ({ cls := "java/util/ArrayList", name := "get", desc := "(I)Ljava/lang/Object;" } : Jvm.MethodName) jdk_38_method_20_code (2 : Nat) (Option.some (Jvm.ClassFile.FieldType.object "java/lang/Object")), Jvm.Cond.code ({ cls := "java/util/Objects", name := "checkIndex", desc := "(II)I" } : Jvm.MethodName) jdk_31_method_17_code (2 : Nat) (Option.some Jvm.ClassFile.FieldType.int), Jvm.Cond.code ({ cls := "java/util/ArrayList", name := "elementData", desc := "(I)Ljava/lang/Object;" } : Jvm.MethodName) jdk_38_method_18_code (2 : Nat) (Option.some (Jvm.ClassFile.FieldType.object "java/lang/Object")), Jvm.Cond.code ({ cls := "com/example/redoubt/redoubt/engine/Job", name := "procs", desc := "()I" } : Jvm.MethodName) prog_28_method_13_code (1 : Nat) (Option.some Jvm.ClassFile.FieldType.int), Jvm.Cond.code ({ cls := "com/example/redoubt/redoubt/engine/Job", name := "time", desc := "()D" } : Jvm.MethodName) prog_28_method_14_code (1 : Nat) (Option.some Jvm.ClassFile.FieldType.double), Jvm.Cond.code ({ cls := "java/util/Arrays", name := "fill", desc := "([II)V" } : Jvm.MethodName) jdk_65_method_103_code (4 : Nat) (Option.none : Option Jvm.ClassFile.FieldType), Jvm.Cond.code ({ cls := "com/example/redoubt/redoubt/policies/FirstFitQueue", name := "add", desc := "(II)I" } : Jvm.MethodName) prog_106_method_2_code (4 : Nat) (Option.some Jvm.ClassFile.FieldType.int), Jvm.Cond.code ({ cls := "com/example/redoubt/redoubt/policies/FirstFitQueue", name := "place", desc := "(II)I" } : Jvm.MethodName) prog_106_method_3_code (3 : Nat) (Option.some Jvm.ClassFile.FieldType.int), Jvm.Cond.code ({ cls := "com/example/redoubt/redoubt/policies/FirstFitQueue", name := "set", desc := "(IZ)V" } : Jvm.MethodName) prog_106_method_13_code (5 : Nat) (Option.none : Option Jvm.ClassFile.FieldType), Jvm.Cond.code ({ cls := "com/example/redoubt/redoubt/policies/FirstFitQueue", name := "rankAt", desc := "(I)I" } : Jvm.MethodName) prog_106_method_7_code (3 : Nat) (Option.some Jvm.ClassFile.FieldType.int), Jvm.Cond.code ({ cls := "com/example/redoubt/redoubt/policies/FirstFitQueue", name := "liftFewest", desc := "(I)Z" } : Jvm.MethodName) prog_106_method_18_code (4 : Nat) (Option.some Jvm.ClassFile.FieldType.boolean), Jvm.Cond.code ({ cls := "java/lang/Math", name := "min", desc := "(II)I" } : Jvm.MethodName) jdk_29_method_69_code (2 : Nat) (Option.some Jvm.ClassFile.FieldType.int), Jvm.Cond.code ({ cls := "com/example/redoubt/redoubt/policies/FirstFitQueue", name := "firstFitting", desc := "(II)I" } : Jvm.MethodName) prog_106_method_11_code (4 : Nat) (Option.some Jvm.ClassFile.FieldType.int), Jvm.Cond.code ({ cls := "com/example/redoubt/redoubt/policies/FirstFitQueueFirstFittingPinLaw", name := "rankIn", desc := "([II)I" } : Jvm.MethodName) method_3_code (2 : Nat) (Option.some Jvm.ClassFile.FieldType.int), Jvm.Cond.code ({ cls := "com/example/redoubt/redoubt/policies/FirstFitQueueFirstFittingPinLaw", name := "pick", desc := "(IZIIII)I" } : Jvm.MethodName) method_4_code (6 : Nat) (Option.some Jvm.ClassFile.FieldType.int)]
set_option maxRecDepth 65536 in
theorem codes_eq : words1.filter isCode = codes1 := rfl
theorem w_codes : ∀ c ∈ words1.filter isCode, c.before args0 about1 = true := by
  rw [codes_eq]
  intro c hc
  simp only [codes1, List.mem_cons, List.not_mem_nil, or_false] at hc
  rcases hc with rfl | rfl | rfl | rfl | rfl | rfl | rfl | rfl | rfl | rfl | rfl | rfl | rfl | rfl | rfl | rfl | rfl | rfl | rfl | rfl | rfl | rfl | rfl | rfl | rfl | rfl | rfl | rfl | rfl | rfl | rfl | rfl | rfl | rfl | rfl | rfl | rfl | rfl | rfl
  · exact w_c0
  · exact w_c1
  · exact w_c2
  · exact w_c3
  · exact w_c4
  · exact w_c5
  · exact w_c6
  · exact w_c7
  · exact w_c8
  · exact w_c9
  · exact w_c10
  · exact w_c11
  · exact w_c12
  · exact w_c13
  · exact w_c14
  · exact w_c15
  · exact w_c16
  · exact w_c17
  · exact w_c18
  · exact w_c19
  · exact w_c20
  · exact w_c21
  · exact w_c22
  · exact w_c23
  · exact w_c24
  · exact w_c25
  · exact w_c26
  · exact w_c27
  · exact w_c28
  · exact w_c29
  · exact w_c30
  · exact w_c31
  · exact w_c32
  · exact w_c33
  · exact w_c34
  · exact w_c35
  · exact w_c36
  · exact w_c37
  · exact w_c38
set_option maxRecDepth 65536 in
theorem w_t1 : (words1.take 24).all (fun c => isCode c || c.before args0 about1) = true := by decide +kernel
set_option maxRecDepth 65536 in
theorem w_t2 : ((words1.drop 24).take 24).all (fun c => isCode c || c.before args0 about1) = true := by decide +kernel
set_option maxRecDepth 65536 in
theorem w_t3 : (((words1.drop 24).drop 24).take 24).all (fun c => isCode c || c.before args0 about1) = true := by decide +kernel
set_option maxRecDepth 65536 in
theorem w_t4 : ((((words1.drop 24).drop 24).drop 24).take 24).all (fun c => isCode c || c.before args0 about1) = true := by decide +kernel
set_option maxRecDepth 65536 in
theorem w_t5 : (((((words1.drop 24).drop 24).drop 24).drop 24).take 24).all (fun c => isCode c || c.before args0 about1) = true := by decide +kernel
set_option maxRecDepth 65536 in
theorem w_t6 : ((((((words1.drop 24).drop 24).drop 24).drop 24).drop 24).take 24).all (fun c => isCode c || c.before args0 about1) = true := by decide +kernel
set_option maxRecDepth 65536 in
theorem w_t7 : (((((((words1.drop 24).drop 24).drop 24).drop 24).drop 24).drop 24).take 24).all (fun c => isCode c || c.before args0 about1) = true := by decide +kernel
set_option maxRecDepth 65536 in
theorem w_t8 : ((((((((words1.drop 24).drop 24).drop 24).drop 24).drop 24).drop 24).drop 24).take 24).all (fun c => isCode c || c.before args0 about1) = true := by decide +kernel
set_option maxRecDepth 65536 in
theorem w_t9 : (((((((((words1.drop 24).drop 24).drop 24).drop 24).drop 24).drop 24).drop 24).drop 24).take 24).all (fun c => isCode c || c.before args0 about1) = true := by decide +kernel
set_option maxRecDepth 65536 in
theorem w_t10 : ((((((((((words1.drop 24).drop 24).drop 24).drop 24).drop 24).drop 24).drop 24).drop 24).drop 24).take 24).all (fun c => isCode c || c.before args0 about1) = true := by decide +kernel
set_option maxRecDepth 65536 in
theorem w_t11 : ((((((((((words1.drop 24).drop 24).drop 24).drop 24).drop 24).drop 24).drop 24).drop 24).drop 24).drop 24).all (fun c => isCode c || c.before args0 about1) = true := by decide +kernel
theorem w_tables : (allAtoms (Jvm.Cond.code x code maxLocals ret :: tables_1)).before args0 about1 = true := by
  rw [allAtoms_all]
  show words1.all (fun c => c.before args0 about1) = true
  refine all_split ?_ w_codes
  rw [← List.take_append_drop 24 words1, List.all_append, w_t1, ← List.take_append_drop 24 (words1.drop 24), List.all_append, w_t2, ← List.take_append_drop 24 ((words1.drop 24).drop 24), List.all_append, w_t3, ← List.take_append_drop 24 (((words1.drop 24).drop 24).drop 24), List.all_append, w_t4, ← List.take_append_drop 24 ((((words1.drop 24).drop 24).drop 24).drop 24), List.all_append, w_t5, ← List.take_append_drop 24 (((((words1.drop 24).drop 24).drop 24).drop 24).drop 24), List.all_append, w_t6, ← List.take_append_drop 24 ((((((words1.drop 24).drop 24).drop 24).drop 24).drop 24).drop 24), List.all_append, w_t7, ← List.take_append_drop 24 (((((((words1.drop 24).drop 24).drop 24).drop 24).drop 24).drop 24).drop 24), List.all_append, w_t8, ← List.take_append_drop 24 ((((((((words1.drop 24).drop 24).drop 24).drop 24).drop 24).drop 24).drop 24).drop 24), List.all_append, w_t9, ← List.take_append_drop 24 (((((((((words1.drop 24).drop 24).drop 24).drop 24).drop 24).drop 24).drop 24).drop 24).drop 24), List.all_append, w_t10, w_t11]
  rfl
set_option maxRecDepth 65536 in
theorem w_rest : rest_1_c.before args0 about1 = true := by decide +kernel
set_option maxRecDepth 65536 in
theorem w_case : (Jvm.Cond.and given_1 narrow_1).before args0 about1 = true := by decide +kernel
set_option maxRecDepth 65536 in
theorem w_consts : constsHeld consts_1 about1 := Jvm.Lit.constsHeldB_iff.mp (by decide +kernel)
theorem w_applies : (headSpec (Jvm.Cond.code x code maxLocals ret :: tables_1) room_1).applies x e0.platform about1 = true :=
  (Spec.applies_iff w_frames).mpr ⟨w_running, w_runnable, w_alone, w_named, w_hears, w_ripe, w_room, w_tables⟩
theorem atStart : AtStart classFile x code maxLocals ret World_1 tables_1 room_1 Calls_1 rest_1 Pre_1 launch0 p0 e0 about1 theMethod args0 below0 :=
  ⟨lists_1, trivial, launch0.admits_env _ _ _, launch0.least_env, fairChoices_fair.cas, fairChoices_fair.clock, w_frames, w_args, w_heap, w_applies, ⟨w_consts, trivial⟩, w_rest, w_case⟩
end start1
theorem witness_1 : WitnessClaimed_1 := ⟨start1.p0, start1.e0, start1.about1, start1.theMethod, start1.args0, start1.below0, start1.atStart⟩
end Jvm.Pilot.@@N@@
