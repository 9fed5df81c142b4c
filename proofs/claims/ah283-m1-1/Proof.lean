import JvmDerived
import JvmDerived.Pilot.@@N@@Statement
import JvmDerived.Pilot.@@N@@Code
set_option linter.unusedVariables false
set_option linter.unusedSimpArgs false
namespace Jvm.RoadKit
open Sem ClassFile Op Lib Jvm.Stand Jvm.Free Jvm.LawKit
section OwnWalk
variable {p : Program} {l : Launch} {e : Env} {R : Room} {s : State} {m : MethodId} {args : Array Value} {below : List Frame} {meth : Method} {c : Code} {T : State} {locs : List Loc} {cells slots : Nat} {E : Outcome → State → Prop} {pc : Nat} {Ls : Array Slot} {sk : List Value}
/-- what a walk owes from a state on: it comes to an end as the contract says -/
def Goes (p : Program) (e : Env) (below : List Frame) (E : Outcome → State → Prop) (st : State) : Prop :=
  ∃ s₂ o, Steps p.tables e below st s₂ ∧ s₂.status = .running ∧ Ended s₂ below o ∧ E o s₂
abbrev Gs (p : Program) (e : Env) (below : List Frame) (E : Outcome → State → Prop) (T : State) (m : MethodId) (pc : Nat) (Ls : Array Slot) (st : List Value) : Prop := Goes p e below E (T.setTop (mkF m pc Ls st))
/-- the end, the table of interned texts as it was -/
abbrev EN (s : State) (Q : Option Value → Heap → List Loc → Prop) (cs ss : Nat) : Outcome → State → Prop := fun o u => ∃ v L, o = .returned v ∧ Q v u.heap L ∧ FrameEnd s o u L cs ss
/-- the end, where texts may have been interned -/
abbrev EV (s : State) (Q : Option Value → Heap → List Loc → Prop) (cs ss : Nat) : Outcome → State → Prop := fun o u => ∃ v L, o = .returned v ∧ Q v u.heap L ∧ ReturnedEndW s o u L cs ss
theorem Goes.st {st st' : State} (h : ∀ t, Steps p.tables e below st' t → Steps p.tables e below st t) (g : Goes p e below E st') : Goes p e below E st := by
  obtain ⟨s2, o, h1, r⟩ := g
  exact ⟨s2, o, h _ h1, r⟩
theorem Goes.sts {st st' : State} (h : Steps p.tables e below st st') (g : Goes p e below E st') : Goes p e below E st := Goes.st (fun _ k => h.trans k) g
/-- the frame can be left with v -/
def Lv (e : Env) (below : List Frame) (E : Outcome → State → Prop) (m : MethodId) (T : State) (v : Option Value) : Prop :=
  ∃ fs, (∀ (f : JFrame) (acts : List Action), f.method = m → f.locked = none → f.entered = [] → (doReturn e (T.setTop f) acts v).1 = T.setFrames fs) ∧ (T.setFrames fs).status = .running ∧ Ended (T.setFrames fs) below (.returned v) ∧ E (.returned v) (T.setFrames fs)
theorem lvN {Q : Option Value → Heap → List Loc → Prop} {cs ss : Nat} (X : Stand p l e R s m args below meth c T locs cells slots) (hlk : meth.locks = false) {v : Option Value} (hv : meth.sig.returnType = none → v = none) (hq : Q v T.heap locs) (hc : cells ≤ cs) (hs : slots ≤ ss) : Lv e below (EN s Q cs ss) m T v := by
  obtain ⟨fs, hr, hrun, hended, hW, hsame⟩ := X.leave (v := v) hv hlk
  exact ⟨fs, hr, hrun, hended, _, _, rfl, hq, ⟨_, rfl⟩, hW, hsame.mono hc hs⟩
theorem lvV {Q : Option Value → Heap → List Loc → Prop} {cs ss : Nat} {vm0 : Vm} (X : Stand p l e R (s.setVm vm0) m args below meth c T locs cells slots) (hlk : meth.locks = false) {k0 : Nat} (hS : s.Since vm0 k0) (hk : k0 ≤ T.heap.size) {v : Option Value} (hv : meth.sig.returnType = none → v = none) (hq : Q v T.heap locs) (hc : cells ≤ cs) (hs : slots ≤ ss) : Lv e below (EV s Q cs ss) m T v := by
  obtain ⟨fs, hr, hrun, hended, h1, h2, h3, h4⟩ := X.leaveW hS hk (v := v) hv hlk
  exact ⟨fs, hr, hrun, hended, _, _, rfl, hq, h1, h2, h3, h4.mono hc hs⟩
theorem vsome {rt : Option FieldType} {t : FieldType} {v : Option Value} (hret : rt = some t) : rt = none → v = none := fun h => by rw [hret] at h; cases h
theorem Goes.fin {v : Option Value} (lv : Lv e below E m T v) {F : JFrame} (hst : ∀ fs, (∀ (f : JFrame) (acts : List Action), f.method = m → f.locked = none → f.entered = [] → (doReturn e (T.setTop f) acts v).1 = T.setFrames fs) → Steps p.tables e below (T.setTop F) (T.setFrames fs)) : Goes p e below E (T.setTop F) := by
  obtain ⟨fs, hr, hrun, hended, hE⟩ := lv
  exact ⟨_, _, hst fs hr, hrun, hended, hE⟩
theorem Goes.retN (X : Stand p l e R s m args below meth c T locs cells slots) (hx : p.tables.exec = Jvm.exec) {t : FieldType} (hret : meth.sig.returnType = some t) (ht : t = .boolean ∨ t = .byte ∨ t = .char ∨ t = .short) {z : Int32} (hd : decode c.code pc = .ok (.ireturn, 1)) (hn : nar t z = z) (lv : Lv e below E m T (some (.int z))) : Goes p e below E (T.setTop (mkF m pc Ls (.int z :: sk))) :=
  Goes.fin lv fun fs hr => RoadKit.retN X hx hret ht hd (by rw [hn]; exact hr)
theorem Goes.retW (X : Stand p l e R s m args below meth c T locs cells slots) (hx : p.tables.exec = Jvm.exec) {t : FieldType} (hret : meth.sig.returnType = some t) {w : Value} {i : Instr} (hn : narrow t w = w) (hi : (i = .ireturn ∧ (t = .int ∨ t = .boolean ∨ t = .byte ∨ t = .char ∨ t = .short) ∧ ∃ z, w = .int z) ∨ (i = .lreturn ∧ t = .long ∧ ∃ z, w = .long z) ∨ (i = .dreturn ∧ t = .double ∧ ∃ z, w = .double z) ∨ (i = .freturn ∧ t = .float ∧ ∃ z, w = .float z) ∨ (i = .areturn ∧ t.isReference = true ∧ w.isRef = true))
    (hd : decode c.code pc = .ok (i, 1)) (lv : Lv e below E m T (some w)) : Goes p e below E (T.setTop (mkF m pc Ls (w :: sk))) :=
  Goes.fin lv fun fs hr => RoadKit.retOut X hx hret hn hi hd hr
theorem Goes.retI (X : Stand p l e R s m args below meth c T locs cells slots) (hx : p.tables.exec = Jvm.exec) (hret : meth.sig.returnType = some .int) {z : Int32} (hd : decode c.code pc = .ok (.ireturn, 1)) (lv : Lv e below E m T (some (.int z))) : Goes p e below E (T.setTop (mkF m pc Ls (.int z :: sk))) :=
  Goes.retW X hx hret rfl (Or.inl ⟨rfl, Or.inl rfl, _, rfl⟩) hd lv
theorem Goes.retL (X : Stand p l e R s m args below meth c T locs cells slots) (hx : p.tables.exec = Jvm.exec) (hret : meth.sig.returnType = some .long) {z : Int64} (hd : decode c.code pc = .ok (.lreturn, 1)) (lv : Lv e below E m T (some (.long z))) : Goes p e below E (T.setTop (mkF m pc Ls (.long z :: sk))) :=
  Goes.retW X hx hret rfl (Or.inr (Or.inl ⟨rfl, rfl, _, rfl⟩)) hd lv
theorem Goes.retD (X : Stand p l e R s m args below meth c T locs cells slots) (hx : p.tables.exec = Jvm.exec) (hret : meth.sig.returnType = some .double) {z : UInt64} (hd : decode c.code pc = .ok (.dreturn, 1)) (lv : Lv e below E m T (some (.double z))) : Goes p e below E (T.setTop (mkF m pc Ls (.double z :: sk))) :=
  Goes.retW X hx hret rfl (Or.inr (Or.inr (Or.inl ⟨rfl, rfl, _, rfl⟩))) hd lv
theorem Goes.retA (X : Stand p l e R s m args below meth c T locs cells slots) (hx : p.tables.exec = Jvm.exec) {t : FieldType} (hret : meth.sig.returnType = some t) (ht : t.isReference = true) {w : Value} (hn : narrow t w = w) (hw : w.isRef = true) (hd : decode c.code pc = .ok (.areturn, 1)) (lv : Lv e below E m T (some w)) : Goes p e below E (T.setTop (mkF m pc Ls (w :: sk))) :=
  Goes.retW X hx hret hn (Or.inr (Or.inr (Or.inr (Or.inr ⟨rfl, ht, hw⟩)))) hd lv
theorem Goes.retV (X : Stand p l e R s m args below meth c T locs cells slots) (hx : p.tables.exec = Jvm.exec) (hret : meth.sig.returnType = none) (hd : decode c.code pc = .ok (.return_, 1)) (lv : Lv e below E m T none) : Goes p e below E (T.setTop (mkF m pc Ls [])) :=
  Goes.fin lv fun fs hr => X.returnOut hx hret hd hr
theorem hwk {ws : List Jvm.Cond} {Z : State} {a0 : Array Value} (hw : ∀ d ∈ ws, d.before a0 Z = true) (k : Nat) {d : Jvm.Cond} (h : ws[k]? = some d) : d.before a0 Z = true := hw _ (List.mem_of_getElem? h)
theorem selP {U : State} {as : Array Value} {y : MethodName} {n : Nat} (wi : (Cond.instantiable y.cls n).before as U = true) (wp : (Cond.privateMethod y).before as U = true) (wm : (Cond.instanceMethod y).before as U = true) (hy : y.cls ≠ "java/lang/invoke/MethodHandle" ∧ y.cls ≠ "java/lang/invoke/VarHandle") : (Cond.selects y.cls y y).before as U = true := by
  obtain ⟨c, k, h1, h2, -, h3, -⟩ := Cond.instantiable_spec wi
  exact Stand.selects_self_of_private h1 h2 (by simp only [Bool.or_eq_false_iff] at h3; exact h3.1) (Cond.privateMethod_at wp) wm hy
theorem strW {Z : State} {a0 : Array Value} (h1 : (Cond.initialized Bundle.sN).before a0 Z = true) (h2 : (Cond.instantiable Bundle.sN 4).before a0 Z = true) (h3 : (Cond.arrayClass .byte).before a0 Z = true) (h4 : (Cond.laysFinal Bundle.sN Bundle.sN "value" "[B").before a0 Z = true) (h5 : (Cond.laysFinal Bundle.sN Bundle.sN "coder" "B").before a0 Z = true) (h6 : (Cond.soleField Bundle.sN "value").before a0 Z = true) (h7 : (Cond.soleField Bundle.sN "coder").before a0 Z = true) : ∀ a ∈ Bundle.stringAtoms, a.before a0 Z = true := by
  intro d hd
  simp only [Bundle.stringAtoms, List.mem_cons, List.not_mem_nil, or_false] at hd
  rcases hd with rfl | rfl | rfl | rfl | rfl | rfl | rfl <;> assumption
theorem Sta.kept {Z : State} {h h' : Heap} {ws : List Addr} {C n d : String} {w : Value} (F : Sta Z h C n d w) (K : Keep h h' ws) (hns : ∀ x ∈ ws, ∀ cell : Cell, h[x]? = some cell → cell.vm.isStatics = false) : Sta Z h' C n d w := by
  obtain ⟨cf, i, k, f, st, cell, h1, h2, h3, h4, h5, h6, h7⟩ := F
  refine ⟨cf, i, k, f, st, cell, h1, h2, h3, h4, K.2.1 _ _ h5 fun q => ?_, h6, h7⟩
  have := hns _ q _ h5
  rw [h6] at this; cases this
end OwnWalk
section OwnSteps
variable {p : Program} {l : Launch} {e : Env} {R : Room} {s : State} {m : MethodId} {args : Array Value} {below : List Frame} {meth : Method} {c : Code} {T : State} {locs : List Loc} {cells slots : Nat} {E : Outcome → State → Prop} {pc : Nat} {Ls : Array Slot} {sk : List Value}
theorem giloadN (X : Stand p l e R s m args below meth c T locs cells slots) (hx : p.tables.exec = Jvm.exec) {i : Fin 4} {v : Int32} (hd : decode c.code pc = .ok (.iload_n i, 1)) (hl : Ls[i.val]? = some (.val (.int v))) (k : Goes p e below E (T.setTop (mkF m (pc + 1) Ls (.int v :: sk)))) : Goes p e below E (T.setTop (mkF m pc Ls sk)) :=
  Goes.st (fun _ q => XS.iloadN X.here hx rfl hd hl q) k
theorem glloadN (X : Stand p l e R s m args below meth c T locs cells slots) (hx : p.tables.exec = Jvm.exec) {i : Fin 4} {v : Int64} (hd : decode c.code pc = .ok (.lload_n i, 1)) (hl : Ls[i.val]? = some (.val (.long v))) (k : Goes p e below E (T.setTop (mkF m (pc + 1) Ls (.long v :: sk)))) : Goes p e below E (T.setTop (mkF m pc Ls sk)) :=
  Goes.st (fun _ q => XT.lloadN X.here hx rfl hd hl q) k
theorem gdloadN (X : Stand p l e R s m args below meth c T locs cells slots) (hx : p.tables.exec = Jvm.exec) {i : Fin 4} {v : UInt64} (hd : decode c.code pc = .ok (.dload_n i, 1)) (hl : Ls[i.val]? = some (.val (.double v))) (k : Goes p e below E (T.setTop (mkF m (pc + 1) Ls (.double v :: sk)))) : Goes p e below E (T.setTop (mkF m pc Ls sk)) :=
  Goes.st (fun _ q => XS.dloadN X.here hx rfl hd hl q) k
theorem giload (X : Stand p l e R s m args below meth c T locs cells slots) (hx : p.tables.exec = Jvm.exec) {i : Nat} {v : Int32} (hd : decode c.code pc = .ok (.iload i, 2)) (hl : Ls[i]? = some (.val (.int v))) (k : Goes p e below E (T.setTop (mkF m (pc + 2) Ls (.int v :: sk)))) : Goes p e below E (T.setTop (mkF m pc Ls sk)) :=
  Goes.st (fun _ q => XS.iload X.here hx rfl hd hl q) k
theorem glload (X : Stand p l e R s m args below meth c T locs cells slots) (hx : p.tables.exec = Jvm.exec) {i : Nat} {v : Int64} (hd : decode c.code pc = .ok (.lload i, 2)) (hl : Ls[i]? = some (.val (.long v))) (k : Goes p e below E (T.setTop (mkF m (pc + 2) Ls (.long v :: sk)))) : Goes p e below E (T.setTop (mkF m pc Ls sk)) :=
  Goes.st (fun _ q => XT.lload X.here hx rfl hd hl q) k
theorem gdload (X : Stand p l e R s m args below meth c T locs cells slots) (hx : p.tables.exec = Jvm.exec) {i : Nat} {v : UInt64} (hd : decode c.code pc = .ok (.dload i, 2)) (hl : Ls[i]? = some (.val (.double v))) (k : Goes p e below E (T.setTop (mkF m (pc + 2) Ls (.double v :: sk)))) : Goes p e below E (T.setTop (mkF m pc Ls sk)) :=
  Goes.st (fun _ q => XS.dload X.here hx rfl hd hl q) k
theorem galoadN (X : Stand p l e R s m args below meth c T locs cells slots) (hx : p.tables.exec = Jvm.exec) {i : Fin 4} {v : Value} (hd : decode c.code pc = .ok (.aload_n i, 1)) (hl : Ls[i.val]? = some (.val v)) (hv : v.isRef = true) (k : Goes p e below E (T.setTop (mkF m (pc + 1) Ls (v :: sk)))) : Goes p e below E (T.setTop (mkF m pc Ls sk)) :=
  Goes.st (fun _ q => XS.aloadN X.here hx rfl hd hl hv q) k
theorem gaload (X : Stand p l e R s m args below meth c T locs cells slots) (hx : p.tables.exec = Jvm.exec) {i : Nat} {v : Value} (hd : decode c.code pc = .ok (.aload i, 2)) (hl : Ls[i]? = some (.val v)) (hv : v.isRef = true) (k : Goes p e below E (T.setTop (mkF m (pc + 2) Ls (v :: sk)))) : Goes p e below E (T.setTop (mkF m pc Ls sk)) :=
  Goes.st (fun _ q => XS.aload X.here hx rfl hd hl hv q) k
theorem giconst (X : Stand p l e R s m args below meth c T locs cells slots) (hx : p.tables.exec = Jvm.exec) {i : Int} (hd : decode c.code pc = .ok (.iconst i, 1)) (k : Goes p e below E (T.setTop (mkF m (pc + 1) Ls (.int (Int32.ofInt i) :: sk)))) : Goes p e below E (T.setTop (mkF m pc Ls sk)) :=
  Goes.st (fun _ q => XS.iconst X.here hx rfl hd q) k
theorem giadd (X : Stand p l e R s m args below meth c T locs cells slots) (hx : p.tables.exec = Jvm.exec) {x y : Int32} (hd : decode c.code pc = .ok (.iadd, 1)) (_ : True) (k : Goes p e below E (T.setTop (mkF m (pc + 1) Ls (.int (x + y) :: sk)))) : Goes p e below E (T.setTop (mkF m pc Ls (.int y :: .int x :: sk))) :=
  Goes.st (fun _ q => XS.iadd X.here hx rfl hd rfl q) k
theorem gisub (X : Stand p l e R s m args below meth c T locs cells slots) (hx : p.tables.exec = Jvm.exec) {x y : Int32} (hd : decode c.code pc = .ok (.isub, 1)) (_ : True) (k : Goes p e below E (T.setTop (mkF m (pc + 1) Ls (.int (x - y) :: sk)))) : Goes p e below E (T.setTop (mkF m pc Ls (.int y :: .int x :: sk))) :=
  Goes.st (fun _ q => XS.isub X.here hx rfl hd rfl q) k
theorem giand (X : Stand p l e R s m args below meth c T locs cells slots) (hx : p.tables.exec = Jvm.exec) {x y : Int32} (hd : decode c.code pc = .ok (.iand, 1)) (_ : True) (k : Goes p e below E (T.setTop (mkF m (pc + 1) Ls (.int (x &&& y) :: sk)))) : Goes p e below E (T.setTop (mkF m pc Ls (.int y :: .int x :: sk))) :=
  Goes.st (fun _ q => XS.iand X.here hx rfl hd rfl q) k
theorem gimul (X : Stand p l e R s m args below meth c T locs cells slots) (hx : p.tables.exec = Jvm.exec) {x y : Int32} (hd : decode c.code pc = .ok (.imul, 1)) (_ : True) (k : Goes p e below E (T.setTop (mkF m (pc + 1) Ls (.int (x * y) :: sk)))) : Goes p e below E (T.setTop (mkF m pc Ls (.int y :: .int x :: sk))) :=
  Goes.st (fun _ q => XS.imul X.here hx rfl hd rfl q) k
theorem gdup (X : Stand p l e R s m args below meth c T locs cells slots) (hx : p.tables.exec = Jvm.exec) {x : Value} (hd : decode c.code pc = .ok (.dup, 1)) (_ : True) (hc : x.category = 1) (k : Goes p e below E (T.setTop (mkF m (pc + 1) Ls (x :: x :: sk)))) : Goes p e below E (T.setTop (mkF m pc Ls (x :: sk))) :=
  Goes.st (fun _ q => XS.dup X.here hx rfl hd rfl hc q) k
theorem gistoreN (X : Stand p l e R s m args below meth c T locs cells slots) (hx : p.tables.exec = Jvm.exec) {i : Fin 4} {x : Int32} {l' : Array Slot} (hd : decode c.code pc = .ok (.istore_n i, 1)) (_ : True) (hl : storeLocals Ls i.val (.int x) = some l') (k : Goes p e below E (T.setTop (mkF m (pc + 1) l' sk))) : Goes p e below E (T.setTop (mkF m pc Ls (.int x :: sk))) :=
  Goes.st (fun _ q => XS.istoreN X.here hx rfl hd rfl hl q) k
theorem gistore (X : Stand p l e R s m args below meth c T locs cells slots) (hx : p.tables.exec = Jvm.exec) {i : Nat} {x : Int32} {l' : Array Slot} (hd : decode c.code pc = .ok (.istore i, 2)) (_ : True) (hl : storeLocals Ls i (.int x) = some l') (k : Goes p e below E (T.setTop (mkF m (pc + 2) l' sk))) : Goes p e below E (T.setTop (mkF m pc Ls (.int x :: sk))) :=
  Goes.st (fun _ q => XS.istore X.here hx rfl hd rfl hl q) k
theorem gdstoreN (X : Stand p l e R s m args below meth c T locs cells slots) (hx : p.tables.exec = Jvm.exec) {i : Fin 4} {x : UInt64} {l' : Array Slot} (hd : decode c.code pc = .ok (.dstore_n i, 1)) (_ : True) (hl : storeLocals Ls i.val (.double x) = some l') (k : Goes p e below E (T.setTop (mkF m (pc + 1) l' sk))) : Goes p e below E (T.setTop (mkF m pc Ls (.double x :: sk))) :=
  Goes.st (fun _ q => XS.dstoreN X.here hx rfl hd rfl hl q) k
theorem gdstore (X : Stand p l e R s m args below meth c T locs cells slots) (hx : p.tables.exec = Jvm.exec) {i : Nat} {x : UInt64} {l' : Array Slot} (hd : decode c.code pc = .ok (.dstore i, 2)) (_ : True) (hl : storeLocals Ls i (.double x) = some l') (k : Goes p e below E (T.setTop (mkF m (pc + 2) l' sk))) : Goes p e below E (T.setTop (mkF m pc Ls (.double x :: sk))) :=
  Goes.st (fun _ q => XS.dstore X.here hx rfl hd rfl hl q) k
theorem glstore (X : Stand p l e R s m args below meth c T locs cells slots) (hx : p.tables.exec = Jvm.exec) {i : Nat} {x : Int64} {l' : Array Slot} (hd : decode c.code pc = .ok (.lstore i, 2)) (_ : True) (hl : storeLocals Ls i (.long x) = some l') (k : Goes p e below E (T.setTop (mkF m (pc + 2) l' sk))) : Goes p e below E (T.setTop (mkF m pc Ls (.long x :: sk))) :=
  Goes.st (fun _ q => XT.lstore X.here hx rfl hd rfl hl q) k
theorem gastoreN (X : Stand p l e R s m args below meth c T locs cells slots) (hx : p.tables.exec = Jvm.exec) {i : Fin 4} {x : Value} {l' : Array Slot} (hd : decode c.code pc = .ok (.astore_n i, 1)) (_ : True) (hv : x.isRef = true) (hl : storeLocals Ls i.val x = some l') (k : Goes p e below E (T.setTop (mkF m (pc + 1) l' sk))) : Goes p e below E (T.setTop (mkF m pc Ls (x :: sk))) :=
  Goes.st (fun _ q => XS.astoreN X.here hx rfl hd rfl hv hl q) k
theorem gastore (X : Stand p l e R s m args below meth c T locs cells slots) (hx : p.tables.exec = Jvm.exec) {i : Nat} {x : Value} {l' : Array Slot} (hd : decode c.code pc = .ok (.astore i, 2)) (_ : True) (hv : x.isRef = true) (hl : storeLocals Ls i x = some l') (k : Goes p e below E (T.setTop (mkF m (pc + 2) l' sk))) : Goes p e below E (T.setTop (mkF m pc Ls (x :: sk))) :=
  Goes.st (fun _ q => XS.astore X.here hx rfl hd rfl hv hl q) k
theorem ggoto (X : Stand p l e R s m args below meth c T locs cells slots) (hx : p.tables.exec = Jvm.exec) {o : Int} {pc' : Nat} (hd : decode c.code pc = .ok (.goto o, 3)) (ho : 0 ≤ (pc : Int) + o) (hp : ((pc : Int) + o).toNat = pc') (k : Goes p e below E (T.setTop (mkF m pc' Ls sk))) : Goes p e below E (T.setTop (mkF m pc Ls sk)) :=
  Goes.st (fun _ q => XS.goto X.here hx rfl rfl hd ho hp q) k
theorem gifYes (X : Stand p l e R s m args below meth c T locs cells slots) (hx : p.tables.exec = Jvm.exec) {cd : ClassFile.Cond} {o : Int} {x : Int32} {pc' : Nat} (hd : decode c.code pc = .ok (.ifCond cd o, 3)) (hc : ifCond.holds cd x = true) (ho : 0 ≤ (pc : Int) + o) (hp : ((pc : Int) + o).toNat = pc') (k : Goes p e below E (T.setTop (mkF m pc' Ls sk))) : Goes p e below E (T.setTop (mkF m pc Ls (.int x :: sk))) :=
  Goes.st (fun _ q => XS.ifYes X.here hx rfl rfl hd rfl hc ho hp q) k
theorem gifNo (X : Stand p l e R s m args below meth c T locs cells slots) (hx : p.tables.exec = Jvm.exec) {cd : ClassFile.Cond} {o : Int} {x : Int32} (hd : decode c.code pc = .ok (.ifCond cd o, 3)) (hc : ifCond.holds cd x = false) (k : Goes p e below E (T.setTop (mkF m (pc + 3) Ls sk))) : Goes p e below E (T.setTop (mkF m pc Ls (.int x :: sk))) :=
  Goes.st (fun _ q => XS.ifNo X.here hx rfl hd rfl hc q) k
theorem gicmpYes (X : Stand p l e R s m args below meth c T locs cells slots) (hx : p.tables.exec = Jvm.exec) {cd : ClassFile.Cond} {o : Int} {x y : Int32} {pc' : Nat} (hd : decode c.code pc = .ok (.if_icmp cd o, 3)) (hc : if_icmp.holds cd x y = true) (ho : 0 ≤ (pc : Int) + o) (hp : ((pc : Int) + o).toNat = pc') (k : Goes p e below E (T.setTop (mkF m pc' Ls sk))) : Goes p e below E (T.setTop (mkF m pc Ls (.int y :: .int x :: sk))) :=
  Goes.st (fun _ q => XS.icmpYes X.here hx rfl rfl hd rfl hc ho hp q) k
theorem gicmpNo (X : Stand p l e R s m args below meth c T locs cells slots) (hx : p.tables.exec = Jvm.exec) {cd : ClassFile.Cond} {o : Int} {x y : Int32} (hd : decode c.code pc = .ok (.if_icmp cd o, 3)) (hc : if_icmp.holds cd x y = false) (k : Goes p e below E (T.setTop (mkF m (pc + 3) Ls sk))) : Goes p e below E (T.setTop (mkF m pc Ls (.int y :: .int x :: sk))) :=
  Goes.st (fun _ q => XS.icmpNo X.here hx rfl hd rfl hc q) k
end OwnSteps
end Jvm.RoadKit
namespace Jvm.Pilot.@@N@@
open Jvm Jvm.ClassFile Sem Op Lib Jvm.Free Jvm.Stand Jvm.LawKit Jvm.RoadKit Bundle Jvm.Free.Fl Jvm.Pilot.@@N@@.Jvm.D
abbrev mN0 : MethodName := (⟨"java/lang/StringLatin1", "canEncode", "(C)Z"⟩ : MethodName)
abbrev mN1 : MethodName := (⟨"java/lang/StringLatin1", "toBytes", "(C)[B"⟩ : MethodName)
abbrev mN2 : MethodName := (⟨"java/lang/String", "<init>", "([BB)V"⟩ : MethodName)
abbrev mN3 : MethodName := (⟨"java/lang/String", "valueOf", "(C)Ljava/lang/String;"⟩ : MethodName)
abbrev mN4 : MethodName := (⟨"java/lang/StringUTF16", "compress", "([CI[BII)I"⟩ : MethodName)
abbrev mN5 : MethodName := (⟨"java/lang/StringUTF16", "compress", "([CII)[B"⟩ : MethodName)
abbrev mN6 : MethodName := (⟨"java/lang/StringUTF16", "coderFromArrayLen", "([BI)B"⟩ : MethodName)
abbrev mN7 : MethodName := (⟨"java/lang/String", "<init>", "([CIILjava/lang/Void;)V"⟩ : MethodName)
abbrev mN8 : MethodName := (⟨"java/lang/String", "<init>", "([C)V"⟩ : MethodName)
abbrev mN9 : MethodName := (⟨"java/lang/Record", "<init>", "()V"⟩ : MethodName)
abbrev mN10 : MethodName := (⟨"java/util/Objects", "requireNonNull", "(Ljava/lang/Object;Ljava/lang/String;)Ljava/lang/Object;"⟩ : MethodName)
abbrev mN11 : MethodName := (⟨"com/example/lean_renewal/leanrenewal/service/EarlyAdopterOffer", "<init>", "(ILjava/lang/String;Ljava/lang/String;)V"⟩ : MethodName)
abbrev mN12 : MethodName := (⟨"com/example/lean_renewal/leanrenewal/service/EarlyAdopterOffer", "productFor", "(J)Ljava/lang/String;"⟩ : MethodName)
abbrev mN13 : MethodName := (⟨"java/lang/String", "equals", "(Ljava/lang/Object;)Z"⟩ : MethodName)
theorem own_c (x : Int32) : ¬ (255 : Int32) < (x &&& 255) := by
  have h := c_and x 255 (by decide)
  rw [Int32.lt_iff_toInt_lt, show (255 : Int32).toInt = 255 by decide]
  rw [show (255 : Int32).toInt = 255 by decide] at h
  omega
theorem own_nar (x : Int32) : nar .char (x &&& 255) = x &&& 255 := i2c_mask x
theorem own_irr (x : Int64) : ¬ x < x := by rw [Int64.lt_iff_toInt_lt]; omega
theorem own_pred (x : Int32) : x.toInt64 - 1 < x.toInt64 := by
  have h := rng32 x
  have e : x.toInt64.toInt = x.toInt := c_i2l x
  rw [Int64.lt_iff_toInt_lt, Int64.toInt_sub, e, show (1 : Int64).toInt = 1 by decide, Int.bmod_eq_of_le (by omega) (by omega)]
  omega
theorem own_b1 {p : Int64} {q : Int32} (h1 : ¬ p < (-2147483648 : Int64)) (h2 : ¬ (2147483647 : Int64) < p) : p.toInt32 < q ↔ p < q.toInt64 := by
  rw [Int64.lt_iff_toInt_lt] at h1 h2
  rw [show (-2147483648 : Int64).toInt = -2147483648 by decide] at h1
  rw [show (2147483647 : Int64).toInt = 2147483647 by decide] at h2
  have e : p.toInt32.toInt = p.toInt := by rw [Int64.toInt_toInt32]; exact Int.bmod_eq_of_le (by omega) (by omega)
  rw [Int64.lt_iff_toInt_lt, Int32.lt_iff_toInt_lt, c_i2l, e]
theorem own_b2 {p : Int64} {q : Int32} (h1 : p < (-2147483648 : Int64)) : p < q.toInt64 ∧ p < (0 : Int64) := by
  have h := rng32 q
  rw [Int64.lt_iff_toInt_lt] at h1
  rw [show (-2147483648 : Int64).toInt = -2147483648 by decide] at h1
  rw [Int64.lt_iff_toInt_lt, Int64.lt_iff_toInt_lt, c_i2l, show (0 : Int64).toInt = 0 by decide]
  omega
theorem own_b3 {p : Int64} {q : Int32} (h1 : (2147483647 : Int64) < p) : ¬ p < q.toInt64 ∧ ¬ p < (0 : Int64) := by
  have h := rng32 q
  rw [Int64.lt_iff_toInt_lt] at h1
  rw [show (2147483647 : Int64).toInt = 2147483647 by decide] at h1
  rw [Int64.lt_iff_toInt_lt, Int64.lt_iff_toInt_lt, c_i2l, show (0 : Int64).toInt = 0 by decide]
  omega
theorem dj43_3_0 : decode jdk_43_method_3_code 0 = .ok (.iload_n 0, 1) := by decide +kernel
theorem dj43_3_1 : decode jdk_43_method_3_code 1 = .ok (.sipush 255, 3) := by decide +kernel
theorem dj43_3_4 : decode jdk_43_method_3_code 4 = .ok (.if_icmp .gt 7, 3) := by decide +kernel
theorem dj43_3_7 : decode jdk_43_method_3_code 7 = .ok (.iconst 1, 1) := by decide +kernel
theorem dj43_3_8 : decode jdk_43_method_3_code 8 = .ok (.goto 4, 3) := by decide +kernel
theorem dj43_3_11 : decode jdk_43_method_3_code 11 = .ok (.iconst 0, 1) := by decide +kernel
theorem dj43_3_12 : decode jdk_43_method_3_code 12 = .ok (.ireturn, 1) := by decide +kernel
theorem pn_java_lang_StringLatin1 : plainName "java/lang/StringLatin1" = true := by first | (simp [plainName, overriddenIn]; done) | decide +kernel
theorem ef_Ce (m : MethodId) (x0 : Int32) : entryFrame m #[(.int x0)] 1 = mkF m 0 #[iv x0] [] := by first | (simp [entryFrame, mkF, argsToLocals, Value.category]; done) | rfl
def QCe (Z : State) (ch : Int32) (h0 : Heap) (n0 : Nat) (v : Option Value) (h : Heap) (L : List Loc) : Prop := v = some (.int 1) ∧ Fr n0 L ∧ h = h0
set_option maxRecDepth 65536 in
set_option maxHeartbeats 40000000 in
theorem rmCe (l : Launch) (Z : State) (a0 : Array Value) (hw : ∀ d ∈ tables_1, d.before a0 Z = true) (ws : List Jvm.Cond) (ch : Int32) (h0 : Heap) (n0 : Nat) (Z0 : n0 ≤ h0.size) (hch : ¬ (255 : Int32) < ch) :
    MetFree l mN0 (head1 (Jvm.Cond.code mN0 jdk_43_method_3_code 1 (some .boolean) :: ws) ({ frames := 0, cells := 0, slots := 0, locals := 0 } : Room)) (fun aa U => aa = #[(.int ch)] ∧ Z.Warmed39 U.vm ∧ U.heap = h0) (fun _ _ _ _ _ => True) (fun _ u1_ o_ u2_ => ∃ v_ l_, o_ = .returned v_ ∧ QCe Z ch h0 n0 v_ u2_.heap l_ ∧ FrameEnd u1_ o_ u2_ l_ ({ frames := 0, cells := 0, slots := 0, locals := 0 } : Room).cells ({ frames := 0, cells := 0, slots := 0, locals := 0 } : Room).slots) := by
  refine MetFree.of_bodySF (plainFor_of_name pn_java_lang_StringLatin1) hisR ?_
  intro p e s m args below meth c s₁ Bd hml0 hP hK
  obtain ⟨rfl, hZ, hh⟩ := hP
  have hx := Bd.exec
  have hby := Bd.bytes
  have hlk := BodyLoose.notSynchronized Bd
  have hret := Bd.returns
  have hml : c.maxLocals = 1 := hml0
  have hown : s.vm.findClass "java/lang/StringLatin1" = some m.cls := findClass_of_methodNamed Bd.named
  have hnm := (name_of_methodNamed Bd.named Bd.method).1
  have X0 : Stand p l e ({ frames := 0, cells := 0, slots := 0, locals := 0 } : Room) s m #[(.int ch)] below meth c s₁ [] 0 0 := Stand.of_body Bd
  have e0 : s₁.heap = h0 := by rw [← hh, Bd.state]; rfl
  have N0 := Fr.nil n0
  refine Goes.st (E := (EN s (QCe Z ch h0 n0) ({ frames := 0, cells := 0, slots := 0, locals := 0 } : Room).cells ({ frames := 0, cells := 0, slots := 0, locals := 0 } : Room).slots)) (fun tg kg => castTop (ef_Ce m ch) kg) ?_
  show Gs p e below _ s₁ m 0 #[iv ch] []
  refine giloadN X0 hx (hb hby dj43_3_0) rfl ?_
  refine Goes.st (fun tg kg => XS.sipush X0.here hx rfl (hb hby dj43_3_1) kg) ?_
  show Gs p e below _ s₁ m 4 #[iv ch] [(.int (255 : Int32)), (.int ch)]
  refine gicmpNo X0 hx (hb hby dj43_3_4) (flt hch).2.2.1 ?_
  show Gs p e below _ s₁ m 7 #[iv ch] []
  refine giconst X0 hx (hb hby dj43_3_7) ?_
  show Gs p e below _ s₁ m 8 #[iv ch] [(.int (1 : Int32))]
  refine ggoto X0 hx (pc' := 12) (hb hby dj43_3_8) (by decide) (by decide) ?_
  show Gs p e below _ s₁ m 12 #[iv ch] [(.int (1 : Int32))]
  refine Goes.retN X0 hx hret (by simp) (hb hby dj43_3_12) (by decide) (lvN X0 hlk (vsome hret) ?_ (by decide) (by decide))
  rw [e0]
  exact ⟨rfl, N0, rfl⟩
theorem dj43_46_0 : decode jdk_43_method_46_code 0 = .ok (.iconst 1, 1) := by decide +kernel
theorem dj43_46_1 : decode jdk_43_method_46_code 1 = .ok (.newarray .byte, 2) := by decide +kernel
theorem dj43_46_3 : decode jdk_43_method_46_code 3 = .ok (.dup, 1) := by decide +kernel
theorem dj43_46_4 : decode jdk_43_method_46_code 4 = .ok (.iconst 0, 1) := by decide +kernel
theorem dj43_46_5 : decode jdk_43_method_46_code 5 = .ok (.iload_n 0, 1) := by decide +kernel
theorem dj43_46_6 : decode jdk_43_method_46_code 6 = .ok (.i2b, 1) := by decide +kernel
theorem dj43_46_7 : decode jdk_43_method_46_code 7 = .ok (.bastore, 1) := by decide +kernel
theorem dj43_46_8 : decode jdk_43_method_46_code 8 = .ok (.areturn, 1) := by decide +kernel
theorem ef_Tb (m : MethodId) (x0 : Int32) : entryFrame m #[(.int x0)] 1 = mkF m 0 #[iv x0] [] := by first | (simp [entryFrame, mkF, argsToLocals, Value.category]; done) | rfl
def QTb (Z : State) (ch : Int32) (h0 : Heap) (n0 : Nat) (v : Option Value) (h : Heap) (L : List Loc) : Prop := ∃ (b : Addr) (kA : ClassId) (x1 : Int32), v = some (.ref b) ∧ Fr n0 L ∧ Keep h0 h [] ∧ h0.size ≤ b ∧ n0 ≤ b ∧ Arv Z h b kA .byte (1 : Int32) [(.int x1)] (.int (0 : Int32))
set_option maxRecDepth 65536 in
set_option maxHeartbeats 40000000 in
theorem rmTb (l : Launch) (Z : State) (a0 : Array Value) (hw : ∀ d ∈ tables_1, d.before a0 Z = true) (ws : List Jvm.Cond) (ch : Int32) (h0 : Heap) (n0 : Nat) (Z0 : n0 ≤ h0.size)  :
    MetFree l mN1 (head1 (Jvm.Cond.code mN1 jdk_43_method_46_code 1 (some (.array .byte)) :: ws) ({ frames := 0, cells := 1, slots := 1, locals := 0 } : Room)) (fun aa U => aa = #[(.int ch)] ∧ Z.Warmed39 U.vm ∧ U.heap = h0) (fun _ _ _ _ _ => True) (fun _ u1_ o_ u2_ => ∃ v_ l_, o_ = .returned v_ ∧ QTb Z ch h0 n0 v_ u2_.heap l_ ∧ FrameEnd u1_ o_ u2_ l_ ({ frames := 0, cells := 1, slots := 1, locals := 0 } : Room).cells ({ frames := 0, cells := 1, slots := 1, locals := 0 } : Room).slots) := by
  refine MetFree.of_bodySF (plainFor_of_name pn_java_lang_StringLatin1) hisR ?_
  intro p e s m args below meth c s₁ Bd hml0 hP hK
  obtain ⟨rfl, hZ, hh⟩ := hP
  have hx := Bd.exec
  have hby := Bd.bytes
  have hlk := BodyLoose.notSynchronized Bd
  have hret := Bd.returns
  have hml : c.maxLocals = 1 := hml0
  have hown : s.vm.findClass "java/lang/StringLatin1" = some m.cls := findClass_of_methodNamed Bd.named
  have hnm := (name_of_methodNamed Bd.named Bd.method).1
  have X0 : Stand p l e ({ frames := 0, cells := 1, slots := 1, locals := 0 } : Room) s m #[(.int ch)] below meth c s₁ [] 0 0 := Stand.of_body Bd
  have e0 : s₁.heap = h0 := by rw [← hh, Bd.state]; rfl
  have N0 := Fr.nil n0
  refine Goes.st (E := (EN s (QTb Z ch h0 n0) ({ frames := 0, cells := 1, slots := 1, locals := 0 } : Room).cells ({ frames := 0, cells := 1, slots := 1, locals := 0 } : Room).slots)) (fun tg kg => castTop (ef_Tb m ch) kg) ?_
  have K0 : Keep h0 h0 [] := Keep.refl _ _
  show Gs p e below _ s₁ m 0 #[iv ch] []
  refine giconst X0 hx (hb hby dj43_46_0) ?_
  obtain ⟨T1, h1, cA1, X1, e1, E1, A1, st1⟩ := newP X0 hx hZ (hwk hw 14 rfl) e0 (g := (mkF m 1 #[iv ch] [(.int (1 : Int32))])) rfl (hb hby dj43_46_1) rfl (by decide) (cap := 1) (by decide) (by decide) (by decide) (by decide)
  obtain ⟨b1, g1⟩ : ∃ z, z = h0.size := ⟨_, rfl⟩
  rw [← g1] at A1 st1
  have lo_b1 : n0 ≤ b1 := by have := Z0; omega
  have sz_b1 : h0.size ≤ b1 := by have := K0.1; omega
  have KK2 := K0.ext E1
  have V1 : Arv Z h1 b1 cA1 .byte (1 : Int32) [(.int (0 : Int32))] (.int (0 : Int32)) := (Arv.new A1 (by decide)).pad (pad_rep [] _ 1)
  refine Goes.st st1 ?_
  have Z1 : n0 ≤ h1.size := Nat.le_trans Z0 E1.1
  show Gs p e below _ T1 m 3 #[iv ch] [(.ref b1)]
  refine gdup X1 hx (hb hby dj43_46_3) trivial rfl ?_
  refine giconst X1 hx (hb hby dj43_46_4) ?_
  refine giloadN X1 hx (hb hby dj43_46_5) rfl ?_
  show Gs p e below _ T1 m 6 #[iv ch] [(.int ch), (.int (0 : Int32)), (.ref b1), (.ref b1)]
  refine Goes.st (fun tg kg => XT.i2b X1.here hx rfl (hb hby dj43_46_6) rfl kg) ?_
  show Gs p e below _ T1 m 7 #[iv ch] [(.int (ch).toInt8.toInt32), (.int (0 : Int32)), (.ref b1), (.ref b1)]
  obtain ⟨cl3, Ar3, qk3, Sz3, qz3, Ha3, Gf3⟩ := id V1
  obtain ⟨T3, h3, X3, e3, W3, st3⟩ := stB X1 hx hZ e1 Ar3 (inb_of Sz3 ⟨by decide, by decide⟩) (g := (mkF m 7 #[iv ch] [(.int (ch).toInt8.toInt32), (.int (0 : Int32)), (.ref b1), (.ref b1)])) rfl rfl (hb hby dj43_46_7)
  have N3 := Fr.snoc X3 N0 lo_b1
  have V3 : Arv Z h3 b1 cA1 .byte (1 : Int32) [(.int (nar .byte (ch).toInt8.toInt32))] (.int (0 : Int32)) := Arv.set Ar3 qk3 Sz3 qz3 Ha3 Gf3 (fits_nar_byte _) W3 0 (by decide) (by simp)
  refine Goes.st st3 ?_
  have KK4 := KK2.wr W3 (Or.inr sz_b1)
  have Z3 : n0 ≤ h3.size := by have := W3.size; have := Z1; omega
  show Gs p e below _ T3 m 8 #[iv ch] [(.ref b1)]
  refine Goes.retA X3 hx hret rfl rfl rfl (hb hby dj43_46_8) (lvN X3 hlk (vsome hret) ?_ (by decide) (by decide))
  rw [e3]
  exact ⟨b1, cA1, _, rfl, N3, KK4, sz_b1, lo_b1, V3⟩
theorem dj42_151_0 : decode jdk_42_method_151_code 0 = .ok (.aload_n 0, 1) := by decide +kernel
theorem dj42_151_1 : decode jdk_42_method_151_code 1 = .ok (.invokespecial 1, 3) := by decide +kernel
theorem dj42_151_4 : decode jdk_42_method_151_code 4 = .ok (.aload_n 0, 1) := by decide +kernel
theorem dj42_151_5 : decode jdk_42_method_151_code 5 = .ok (.aload_n 1, 1) := by decide +kernel
theorem dj42_151_6 : decode jdk_42_method_151_code 6 = .ok (.putfield 9, 3) := by decide +kernel
theorem dj42_151_9 : decode jdk_42_method_151_code 9 = .ok (.aload_n 0, 1) := by decide +kernel
theorem dj42_151_10 : decode jdk_42_method_151_code 10 = .ok (.iload_n 2, 1) := by decide +kernel
theorem dj42_151_11 : decode jdk_42_method_151_code 11 = .ok (.putfield 15, 3) := by decide +kernel
theorem dj42_151_14 : decode jdk_42_method_151_code 14 = .ok (.return_, 1) := by decide +kernel
theorem pn_java_lang_String : plainName "java/lang/String" = true := by first | (simp [plainName, overriddenIn]; done) | decide +kernel
theorem ef_Ib (m : MethodId) (x0 : Addr) (x1 : Addr) (x2 : Int32) : entryFrame m #[(.ref x0), (.ref x1), (.int x2)] 3 = mkF m 0 #[rv x0, rv x1, iv x2] [] := by first | (simp [entryFrame, mkF, argsToLocals, Value.category]; done) | rfl
def QIb (Z : State) (a rb : Addr) (u0 u1 : Value) (h0 : Heap) (n0 : Nat) (v : Option Value) (h : Heap) (L : List Loc) : Prop := v = none ∧ Fr n0 L ∧ Keep h0 h [a]
set_option maxRecDepth 65536 in
set_option maxHeartbeats 40000000 in
theorem rmIb (l : Launch) (Z : State) (a0 : Array Value) (hw : ∀ d ∈ tables_1, d.before a0 Z = true) (ws : List Jvm.Cond) (a rb : Addr) (u0 u1 : Value) (h0 : Heap) (n0 : Nat) (Z0 : n0 ≤ h0.size) (Ea : Exa Z h0 a "java/lang/String") (ga : n0 ≤ a) (Fv : Fld Z h0 a "java/lang/String" "value" "[B" u0) (Fc : Fld Z h0 a "java/lang/String" "coder" "B" u1) :
    MetFree l mN2 (head1 (Jvm.Cond.code mN2 jdk_42_method_151_code 3 none :: ws) ({ frames := 1, cells := 0, slots := 0, locals := 12 } : Room)) (fun aa U => aa = #[(.ref a), (.ref rb), (.int (0 : Int32))] ∧ Z.Warmed39 U.vm ∧ U.heap = h0) (fun _ _ _ _ _ => True) (fun _ u1_ o_ u2_ => ∃ v_ l_, o_ = .returned v_ ∧ QIb Z a rb u0 u1 h0 n0 v_ u2_.heap l_ ∧ FrameEnd u1_ o_ u2_ l_ ({ frames := 1, cells := 0, slots := 0, locals := 12 } : Room).cells ({ frames := 1, cells := 0, slots := 0, locals := 12 } : Room).slots) := by
  refine MetFree.of_bodySF (plainFor_of_name pn_java_lang_String) hisR ?_
  intro p e s m args below meth c s₁ Bd hml0 hP hK
  obtain ⟨rfl, hZ, hh⟩ := hP
  have hx := Bd.exec
  have hby := Bd.bytes
  have hlk := BodyLoose.notSynchronized Bd
  have hret := Bd.returns
  have hml : c.maxLocals = 3 := hml0
  have hown : s.vm.findClass "java/lang/String" = some m.cls := findClass_of_methodNamed Bd.named
  have hnm := (name_of_methodNamed Bd.named Bd.method).1
  have X0 : Stand p l e ({ frames := 1, cells := 0, slots := 0, locals := 12 } : Room) s m #[(.ref a), (.ref rb), (.int (0 : Int32))] below meth c s₁ [] 0 0 := Stand.of_body Bd
  have e0 : s₁.heap = h0 := by rw [← hh, Bd.state]; rfl
  have N0 := Fr.nil n0
  refine Goes.st (E := (EN s (QIb Z a rb u0 u1 h0 n0) ({ frames := 1, cells := 0, slots := 0, locals := 12 } : Room).cells ({ frames := 1, cells := 0, slots := 0, locals := 12 } : Room).slots)) (fun tg kg => castTop (ef_Ib m a rb (0 : Int32)) kg) ?_
  have K0 : Keep h0 h0 [a] := Keep.refl _ _
  show Gs p e below _ s₁ m 0 #[rv a, rv rb, iv (0 : Int32)] []
  refine galoadN X0 hx (hb hby dj42_151_0) rfl rfl ?_
  obtain ⟨T1, X1, e1, st1⟩ := initO X0 hx hZ hown (hwk hw 19 rfl) (hwk hw 20 rfl) (hwk hw 21 rfl) e0 (g := (mkF m 1 #[rv a, rv rb, iv (0 : Int32)] [(.ref a)])) rfl (by rw [hml]; rfl) rfl (hb hby dj42_151_1) (by decide) (W := 0) (by show 2 * 0 + _ ≤ _; exact Nat.le_of_eq rfl) (by decide)
  refine Goes.st st1 ?_
  show Gs p e below _ T1 m 4 #[rv a, rv rb, iv (0 : Int32)] []
  refine galoadN X1 hx (hb hby dj42_151_4) rfl rfl ?_
  refine galoadN X1 hx (hb hby dj42_151_5) rfl rfl ?_
  obtain ⟨T2, h2, X2, e2, W2, st2⟩ := putF X1 hx hZ hown (host := "") (Or.inl (hwk hw 22 rfl)) Via.refl e1 Fv Ea (Or.inr ⟨(hwk hw 23 rfl), rfl, hnm⟩) (hwk hw 10 rfl) (ty := (.array .byte)) (by decide) rfl rfl (g := (mkF m 6 #[rv a, rv rb, iv (0 : Int32)] [(.ref rb), (.ref a)])) rfl rfl (hb hby dj42_151_6)
  have N2 := Fr.snoc X2 N0 ga
  have G2 := Fv.same W2
  refine Goes.st st2 ?_
  have KK3 := K0.wr W2 (Or.inl (List.mem_of_getElem? (i := 0) rfl))
  have Z2 : n0 ≤ h2.size := by have := W2.size; have := Z0; omega
  show Gs p e below _ T2 m 9 #[rv a, rv rb, iv (0 : Int32)] []
  refine galoadN X2 hx (hb hby dj42_151_9) rfl rfl ?_
  refine giloadN X2 hx (hb hby dj42_151_10) rfl ?_
  have f5 := (Fc.other W2 (Or.inr (slot_ne (Or.inr (hwk hw 25 rfl)) (Or.inr (hwk hw 23 rfl)) (by decide) (t := .byte) (t' := (.array .byte)) (by decide) (by decide))))
  have f6 := (Ea.wr W2)
  obtain ⟨T4, h4, X4, e4, W4, st4⟩ := putFN X2 hx hZ hown (hwk hw 24 rfl) Via.refl e2 f5 f6 (Or.inr ⟨(hwk hw 25 rfl), rfl, hnm⟩) (hwk hw 10 rfl) (ty := .byte) (v' := (.int (0 : Int32))) (by decide) rfl (by decide) (g := (mkF m 11 #[rv a, rv rb, iv (0 : Int32)] [(.int (0 : Int32)), (.ref a)])) rfl rfl (hb hby dj42_151_11)
  have N4 := Fr.snoc X4 N2 ga
  have G4 := f5.same W4
  refine Goes.st st4 ?_
  have KK7 := KK3.wr W4 (Or.inl (List.mem_of_getElem? (i := 0) rfl))
  have Z4 : n0 ≤ h4.size := by have := W4.size; have := Z2; omega
  show Gs p e below _ T4 m 14 #[rv a, rv rb, iv (0 : Int32)] []
  refine Goes.retV X4 hx hret (hb hby dj42_151_14) (lvN X4 hlk (fun _ => rfl) ?_ (by decide) (by decide))
  rw [e4]
  exact ⟨rfl, N4, KK7⟩
theorem dj42_139_0 : decode jdk_42_method_139_code 0 = .ok (.getstatic 38, 3) := by decide +kernel
theorem dj42_139_3 : decode jdk_42_method_139_code 3 = .ok (.ifCond .eq 23, 3) := by decide +kernel
theorem dj42_139_6 : decode jdk_42_method_139_code 6 = .ok (.iload_n 0, 1) := by decide +kernel
theorem dj42_139_7 : decode jdk_42_method_139_code 7 = .ok (.invokestatic 1015, 3) := by decide +kernel
theorem dj42_139_10 : decode jdk_42_method_139_code 10 = .ok (.ifCond .eq 16, 3) := by decide +kernel
theorem dj42_139_13 : decode jdk_42_method_139_code 13 = .ok (.new 10, 3) := by decide +kernel
theorem dj42_139_16 : decode jdk_42_method_139_code 16 = .ok (.dup, 1) := by decide +kernel
theorem dj42_139_17 : decode jdk_42_method_139_code 17 = .ok (.iload_n 0, 1) := by decide +kernel
theorem dj42_139_18 : decode jdk_42_method_139_code 18 = .ok (.invokestatic 1018, 3) := by decide +kernel
theorem dj42_139_21 : decode jdk_42_method_139_code 21 = .ok (.iconst 0, 1) := by decide +kernel
theorem dj42_139_22 : decode jdk_42_method_139_code 22 = .ok (.invokespecial 209, 3) := by decide +kernel
theorem dj42_139_25 : decode jdk_42_method_139_code 25 = .ok (.areturn, 1) := by decide +kernel
theorem dj42_139_26 : decode jdk_42_method_139_code 26 = .ok (.new 10, 3) := by decide +kernel
theorem dj42_139_29 : decode jdk_42_method_139_code 29 = .ok (.dup, 1) := by decide +kernel
theorem dj42_139_30 : decode jdk_42_method_139_code 30 = .ok (.iload_n 0, 1) := by decide +kernel
theorem dj42_139_31 : decode jdk_42_method_139_code 31 = .ok (.invokestatic 1021, 3) := by decide +kernel
theorem dj42_139_34 : decode jdk_42_method_139_code 34 = .ok (.iconst 1, 1) := by decide +kernel
theorem dj42_139_35 : decode jdk_42_method_139_code 35 = .ok (.invokespecial 209, 3) := by decide +kernel
theorem dj42_139_38 : decode jdk_42_method_139_code 38 = .ok (.areturn, 1) := by decide +kernel
theorem pd__C_Z_825 : parseMethodDescriptor "(C)Z" = some ⟨[.char], some .boolean⟩ := by decide +kernel
theorem pd__C__B_b05 : parseMethodDescriptor "(C)[B" = some ⟨[.char], some (.array .byte)⟩ := by decide +kernel
theorem pd___BB_V_ea1 : parseMethodDescriptor "([BB)V" = some ⟨[(.array .byte), .byte], none⟩ := by decide +kernel
theorem ef_Vo (m : MethodId) (x0 : Int32) : entryFrame m #[(.int x0)] 1 = mkF m 0 #[iv x0] [] := by first | (simp [entryFrame, mkF, argsToLocals, Value.category]; done) | rfl
def QVo (Z : State) (ch cs : Int32) (h0 : Heap) (n0 : Nat) (v : Option Value) (h : Heap) (L : List Loc) : Prop := ∃ (b : Addr), v = some (.ref b) ∧ Fr n0 L ∧ Keep h0 h [] ∧ h0.size ≤ b ∧ n0 ≤ b ∧ Exa Z h b "java/lang/String"
set_option maxRecDepth 65536 in
set_option maxHeartbeats 40000000 in
theorem rmVo (l : Launch) (Z : State) (a0 : Array Value) (hw : ∀ d ∈ tables_1, d.before a0 Z = true) (ws : List Jvm.Cond) (ch cs : Int32) (h0 : Heap) (n0 : Nat) (Z0 : n0 ≤ h0.size) (Scs : Sta Z h0 "java/lang/String" "COMPACT_STRINGS" "Z" (.int cs)) (hcs : ¬ cs = (0 : Int32)) (hch : ¬ (255 : Int32) < ch) :
    MetFree l mN3 (head1 (Jvm.Cond.code mN3 jdk_42_method_139_code 1 (some (.object "java/lang/String")) :: ws) ({ frames := 2, cells := 2, slots := 5, locals := 27 } : Room)) (fun aa U => aa = #[(.int ch)] ∧ Z.Warmed39 U.vm ∧ U.heap = h0) (fun _ _ _ _ _ => True) (fun _ u1_ o_ u2_ => ∃ v_ l_, o_ = .returned v_ ∧ QVo Z ch cs h0 n0 v_ u2_.heap l_ ∧ FrameEnd u1_ o_ u2_ l_ ({ frames := 2, cells := 2, slots := 5, locals := 27 } : Room).cells ({ frames := 2, cells := 2, slots := 5, locals := 27 } : Room).slots) := by
  refine MetFree.of_bodySF (plainFor_of_name pn_java_lang_String) hisR ?_
  intro p e s m args below meth c s₁ Bd hml0 hP hK
  obtain ⟨rfl, hZ, hh⟩ := hP
  have hx := Bd.exec
  have hby := Bd.bytes
  have hlk := BodyLoose.notSynchronized Bd
  have hret := Bd.returns
  have hml : c.maxLocals = 1 := hml0
  have hown : s.vm.findClass "java/lang/String" = some m.cls := findClass_of_methodNamed Bd.named
  have hnm := (name_of_methodNamed Bd.named Bd.method).1
  have X0 : Stand p l e ({ frames := 2, cells := 2, slots := 5, locals := 27 } : Room) s m #[(.int ch)] below meth c s₁ [] 0 0 := Stand.of_body Bd
  have e0 : s₁.heap = h0 := by rw [← hh, Bd.state]; rfl
  have N0 := Fr.nil n0
  refine Goes.st (E := (EN s (QVo Z ch cs h0 n0) ({ frames := 2, cells := 2, slots := 5, locals := 27 } : Room).cells ({ frames := 2, cells := 2, slots := 5, locals := 27 } : Room).slots)) (fun tg kg => castTop (ef_Vo m ch) kg) ?_
  have K0 : Keep h0 h0 [] := Keep.refl _ _
  show Gs p e below _ s₁ m 0 #[iv ch] []
  obtain ⟨T1, X1, e1, st1⟩ := getS X0 hx hZ hown (host := "") (hwk hw 4 rfl) Via.refl e0 Scs (g := (mkF m 0 #[iv ch] [])) rfl (hb hby dj42_139_0)
  refine Goes.st st1 ?_
  show Gs p e below _ T1 m 3 #[iv ch] [(.int cs)]
  refine gifNo X1 hx (hb hby dj42_139_3) ((if0 _ _).trans (feq hcs).1) ?_
  show Gs p e below _ T1 m 6 #[iv ch] []
  refine giloadN X1 hx (hb hby dj42_139_6) rfl ?_
  obtain ⟨_, _, ⟨T2, L2, k2, n2⟩, -, X2, ⟨Lc2, hQ2, l2, y2, z2⟩, st2⟩ := Jvm.LawKit.callS X1 hx (y := mN0) hown (mvT hZ (hwk hw 5 rfl)) (mvT hZ (hwk hw 6 rfl)) (mvT hZ (hwk hw 7 rfl)) (mvT hZ (hwk hw 8 rfl)) (by decide) (backOf (W := 0) (rmCe l Z a0 hw [] ch h0 n0 Z0 hch) hZ (hwk hw 8 rfl) (hwk hw 7 rfl) (by decide) (by decide)) (g := (mkF m 7 #[iv ch] [(.int ch)])) rfl (by rw [hml]; rfl) (argsL := [(.int ch)]) (rest := []) (lenOf pd__C_Z_825 rfl) rfl (by show 2 * 0 + _ ≤ _; exact Nat.le_of_eq rfl) (hb hby dj42_139_7) (fun _ _ => ⟨rfl, e1, (by decide : 0 + 0 ≤ 2), (by decide : 0 + 0 ≤ 5)⟩)
  dsimp only [Pt.U, Pt.locs, Pt.cells, Pt.slots] at X2 l2 y2 z2 st2 hQ2
  subst l2 y2 z2
  obtain ⟨rfl, N2q, eh2⟩ := hQ2
  have N2 := Fr.app N0 N2q
  refine Goes.st st2 ?_
  show Gs p e below _ T2 m 10 #[iv ch] [(.int (1 : Int32))]
  refine gifNo X2 hx (hb hby dj42_139_10) (by decide) ?_
  show Gs p e below _ T2 m 13 #[iv ch] []
  obtain ⟨T3, h3, X3, e3, E3, A3, D3, -, st3⟩ := newO X2 hx hZ hown (hwk hw 9 rfl) (hwk hw 10 rfl) (hwk hw 2 rfl) eh2 (g := (mkF m 13 #[iv ch] [])) rfl (hb hby dj42_139_13) (by decide) (by decide)
  obtain ⟨b3, g3⟩ : ∃ z, z = h0.size := ⟨_, rfl⟩
  rw [← g3] at A3 D3 st3
  have lo_b3 : n0 ≤ b3 := by have := Z0; omega
  have sz_b3 : h0.size ≤ b3 := by have := K0.1; omega
  refine Goes.st st3 ?_
  have KK4 := K0.ext E3
  have Z3 : n0 ≤ h3.size := Nat.le_trans Z0 E3.1
  have F3_value : Fld Z h3 b3 "java/lang/String" "value" "[B" .null := D3 (Or.inr (hwk hw 23 rfl)) (ty := (.array .byte)) (by decide)
  have F3_coder : Fld Z h3 b3 "java/lang/String" "coder" "B" (.int (0 : Int32)) := D3 (Or.inr (hwk hw 25 rfl)) (ty := .byte) (by decide)
  show Gs p e below _ T3 m 16 #[iv ch] [(.ref b3)]
  refine gdup X3 hx (hb hby dj42_139_16) trivial rfl ?_
  refine giloadN X3 hx (hb hby dj42_139_17) rfl ?_
  have lt5 : b3 < h3.size := A3.lt
  obtain ⟨_, _, ⟨T6, L6, k6, n6⟩, -, X6, ⟨Lc6, hQ6, l6, y6, z6⟩, st6⟩ := Jvm.LawKit.callS X3 hx (y := mN1) hown (mvT hZ (hwk hw 11 rfl)) (mvT hZ (hwk hw 12 rfl)) (mvT hZ (hwk hw 7 rfl)) (mvT hZ (hwk hw 13 rfl)) (by decide) (backOf (W := 2) (rmTb l Z a0 hw [] ch h3 n0 Z3 ) hZ (hwk hw 13 rfl) (hwk hw 7 rfl) (by decide) (by decide)) (g := (mkF m 18 #[iv ch] [(.int ch), (.ref b3), (.ref b3)])) rfl (by rw [hml]; rfl) (argsL := [(.int ch)]) (rest := [(.ref b3), (.ref b3)]) (lenOf pd__C__B_b05 rfl) rfl (by show 2 * 0 + _ ≤ _; exact Nat.le_of_eq rfl) (hb hby dj42_139_18) (fun _ _ => ⟨rfl, e3, (by decide : 1 + 1 ≤ 2), (by decide : 4 + 1 ≤ 5)⟩)
  dsimp only [Pt.U, Pt.locs, Pt.cells, Pt.slots] at X6 l6 y6 z6 st6 hQ6
  subst l6 y6 z6
  obtain ⟨b6, kA6, x6, rfl, N6q, K6, szq6, loq6, V6⟩ := hQ6
  have KK7 := KK4.trans K6 all0
  have ne_b3_b6 : b3 ≠ b6 := Nat.ne_of_lt (Nat.lt_of_lt_of_le lt5 szq6)
  have sz_b6 : h0.size ≤ b6 := by have := KK7.1; have := szq6; omega
  have Z6 : n0 ≤ T6.heap.size := Nat.le_trans Z3 K6.1
  have N6 := Fr.app N2 N6q
  refine Goes.st st6 ?_
  show Gs p e below _ T6 m 21 #[iv ch] [(.ref b6), (.ref b3), (.ref b3)]
  refine giconst X6 hx (hb hby dj42_139_21) ?_
  have f8 := (A3.keep K6)
  have f9 := (F3_value.keep K6 nin0)
  have f10 := (F3_coder.keep K6 nin0)
  obtain ⟨_, _, ⟨T11, L11, k11, n11⟩, -, X11, ⟨Lc11, hQ11, l11, y11, z11⟩, st11⟩ := X6.specialBack hx (y := mN2) rfl hown (mvT hZ (hwk hw 15 rfl)) (mvT hZ (hwk hw 16 rfl)) (mvT hZ (hwk hw 18 rfl)) (by decide) (backOf (W := 1) (rmIb l Z a0 hw [] b3 b6 .null (.int (0 : Int32)) T6.heap n0 Z6 f8 lo_b3 f9 f10) hZ (hwk hw 18 rfl) (hwk hw 2 rfl) (by decide) (by decide)) (g := (mkF m 22 #[iv ch] [(.int (0 : Int32)), (.ref b6), (.ref b3), (.ref b3)])) rfl (by rw [hml]; rfl) (Steps.refl _) (a := b3) (argsL := [(.ref b6), (.int (0 : Int32))]) (rest := [(.ref b3)]) (lenOf pd___BB_V_ea1 rfl) rfl (by show 2 * 0 + _ ≤ _; exact Nat.le_of_eq rfl) (hb hby dj42_139_22) (fun _ _ => ⟨rfl, rfl, (by decide : 2 + 0 ≤ 2), (by decide : 5 + 0 ≤ 5)⟩)
  dsimp only [Pt.U, Pt.locs, Pt.cells, Pt.slots] at X11 l11 y11 z11 st11 hQ11
  subst l11 y11 z11
  obtain ⟨rfl, N11q, K11⟩ := hQ11
  have KK12 := KK7.trans K11 (allS (Or.inr sz_b3) all0)
  have Z11 : n0 ≤ T11.heap.size := Nat.le_trans Z6 K11.1
  have N11 := Fr.app N6 N11q
  refine Goes.sts st11 ?_
  show Gs p e below _ T11 m 25 #[iv ch] [(.ref b3)]
  have f13 := (f8.keep K11)
  refine Goes.retA X11 hx hret rfl rfl rfl (hb hby dj42_139_25) (lvN X11 hlk (vsome hret) ?_ (by decide) (by decide))
  exact ⟨b3, rfl, N11, KK12, sz_b3, lo_b3, f13⟩
theorem dj52_21_0 : decode jdk_52_method_21_code 0 = .ok (.iconst 0, 1) := by decide +kernel
theorem dj52_21_1 : decode jdk_52_method_21_code 1 = .ok (.istore 5, 2) := by decide +kernel
theorem dj52_21_3 : decode jdk_52_method_21_code 3 = .ok (.iload 5, 2) := by decide +kernel
theorem dj52_21_5 : decode jdk_52_method_21_code 5 = .ok (.iload 4, 2) := by decide +kernel
theorem dj52_21_7 : decode jdk_52_method_21_code 7 = .ok (.if_icmp .ge 37, 3) := by decide +kernel
theorem dj52_21_10 : decode jdk_52_method_21_code 10 = .ok (.aload_n 0, 1) := by decide +kernel
theorem dj52_21_11 : decode jdk_52_method_21_code 11 = .ok (.iload_n 1, 1) := by decide +kernel
theorem dj52_21_12 : decode jdk_52_method_21_code 12 = .ok (.caload, 1) := by decide +kernel
theorem dj52_21_13 : decode jdk_52_method_21_code 13 = .ok (.istore 6, 2) := by decide +kernel
theorem dj52_21_15 : decode jdk_52_method_21_code 15 = .ok (.iload 6, 2) := by decide +kernel
theorem dj52_21_17 : decode jdk_52_method_21_code 17 = .ok (.sipush 255, 3) := by decide +kernel
theorem dj52_21_20 : decode jdk_52_method_21_code 20 = .ok (.if_icmp .le 6, 3) := by decide +kernel
theorem dj52_21_23 : decode jdk_52_method_21_code 23 = .ok (.iload 5, 2) := by decide +kernel
theorem dj52_21_25 : decode jdk_52_method_21_code 25 = .ok (.ireturn, 1) := by decide +kernel
theorem dj52_21_26 : decode jdk_52_method_21_code 26 = .ok (.aload_n 2, 1) := by decide +kernel
theorem dj52_21_27 : decode jdk_52_method_21_code 27 = .ok (.iload_n 3, 1) := by decide +kernel
theorem dj52_21_28 : decode jdk_52_method_21_code 28 = .ok (.iload 6, 2) := by decide +kernel
theorem dj52_21_30 : decode jdk_52_method_21_code 30 = .ok (.i2b, 1) := by decide +kernel
theorem dj52_21_31 : decode jdk_52_method_21_code 31 = .ok (.bastore, 1) := by decide +kernel
theorem dj52_21_32 : decode jdk_52_method_21_code 32 = .ok (.iinc 1 1, 3) := by decide +kernel
theorem dj52_21_35 : decode jdk_52_method_21_code 35 = .ok (.iinc 3 1, 3) := by decide +kernel
theorem dj52_21_38 : decode jdk_52_method_21_code 38 = .ok (.iinc 5 1, 3) := by decide +kernel
theorem dj52_21_41 : decode jdk_52_method_21_code 41 = .ok (.goto (-38), 3) := by decide +kernel
theorem dj52_21_44 : decode jdk_52_method_21_code 44 = .ok (.iload 4, 2) := by decide +kernel
theorem dj52_21_46 : decode jdk_52_method_21_code 46 = .ok (.ireturn, 1) := by decide +kernel
theorem pn_java_lang_StringUTF16 : plainName "java/lang/StringUTF16" = true := by first | (simp [plainName, overriddenIn]; done) | decide +kernel
theorem ef_Cm2 (m : MethodId) (x0 : Addr) (x1 : Int32) (x2 : Addr) (x3 : Int32) (x4 : Int32) : entryFrame m #[(.ref x0), (.int x1), (.ref x2), (.int x3), (.int x4)] 7 = mkF m 0 #[rv x0, iv x1, rv x2, iv x3, iv x4, .unset, .unset] [] := by first | (simp [entryFrame, mkF, argsToLocals, Value.category]; done) | rfl
def QCm2 (Z : State) (aC : Addr) (kC : ClassId) (c0 c1 : Int32) (aB : Addr) (kB : ClassId) (h0 : Heap) (n0 : Nat) (v : Option Value) (h : Heap) (L : List Loc) : Prop := ∃ (vs : List Value), v = some (.int (2 : Int32)) ∧ Fr n0 L ∧ Keep h0 h [aB] ∧ Arv Z h aB kB .byte (2 : Int32) vs (.int (0 : Int32))
set_option maxRecDepth 65536 in
set_option maxHeartbeats 40000000 in
theorem rmCm2 (l : Launch) (Z : State) (a0 : Array Value) (hw : ∀ d ∈ tables_1, d.before a0 Z = true) (ws : List Jvm.Cond) (aC : Addr) (kC : ClassId) (c0 c1 : Int32) (aB : Addr) (kB : ClassId) (h0 : Heap) (n0 : Nat) (Z0 : n0 ≤ h0.size) (VC : Arv Z h0 aC kC .char (2 : Int32) [(.int c0), (.int c1)] (.int (0 : Int32))) (VB : Arv Z h0 aB kB .byte (2 : Int32) [(.int (0 : Int32)), (.int (0 : Int32))] (.int (0 : Int32))) (lB : n0 ≤ aB) (nCB : aC ≠ aB) (hc0 : ¬ (255 : Int32) < c0) (hc1 : ¬ (255 : Int32) < c1) :
    MetFree l mN4 (head1 (Jvm.Cond.code mN4 jdk_52_method_21_code 7 (some .int) :: ws) ({ frames := 0, cells := 0, slots := 0, locals := 0 } : Room)) (fun aa U => aa = #[(.ref aC), (.int (0 : Int32)), (.ref aB), (.int (0 : Int32)), (.int (2 : Int32))] ∧ Z.Warmed39 U.vm ∧ U.heap = h0) (fun _ _ _ _ _ => True) (fun _ u1_ o_ u2_ => ∃ v_ l_, o_ = .returned v_ ∧ QCm2 Z aC kC c0 c1 aB kB h0 n0 v_ u2_.heap l_ ∧ FrameEnd u1_ o_ u2_ l_ ({ frames := 0, cells := 0, slots := 0, locals := 0 } : Room).cells ({ frames := 0, cells := 0, slots := 0, locals := 0 } : Room).slots) := by
  refine MetFree.of_bodySF (plainFor_of_name pn_java_lang_StringUTF16) hisR ?_
  intro p e s m args below meth c s₁ Bd hml0 hP hK
  obtain ⟨rfl, hZ, hh⟩ := hP
  have hx := Bd.exec
  have hby := Bd.bytes
  have hlk := BodyLoose.notSynchronized Bd
  have hret := Bd.returns
  have hml : c.maxLocals = 7 := hml0
  have hown : s.vm.findClass "java/lang/StringUTF16" = some m.cls := findClass_of_methodNamed Bd.named
  have hnm := (name_of_methodNamed Bd.named Bd.method).1
  have X0 : Stand p l e ({ frames := 0, cells := 0, slots := 0, locals := 0 } : Room) s m #[(.ref aC), (.int (0 : Int32)), (.ref aB), (.int (0 : Int32)), (.int (2 : Int32))] below meth c s₁ [] 0 0 := Stand.of_body Bd
  have e0 : s₁.heap = h0 := by rw [← hh, Bd.state]; rfl
  have N0 := Fr.nil n0
  refine Goes.st (E := (EN s (QCm2 Z aC kC c0 c1 aB kB h0 n0) ({ frames := 0, cells := 0, slots := 0, locals := 0 } : Room).cells ({ frames := 0, cells := 0, slots := 0, locals := 0 } : Room).slots)) (fun tg kg => castTop (ef_Cm2 m aC (0 : Int32) aB (0 : Int32) (2 : Int32)) kg) ?_
  have K0 : Keep h0 h0 [aB] := Keep.refl _ _
  show Gs p e below _ s₁ m 0 #[rv aC, iv (0 : Int32), rv aB, iv (0 : Int32), iv (2 : Int32), .unset, .unset] []
  refine giconst X0 hx (hb hby dj52_21_0) ?_
  refine gistore X0 hx (hb hby dj52_21_1) trivial (l' := #[rv aC, iv (0 : Int32), rv aB, iv (0 : Int32), iv (2 : Int32), iv (0 : Int32), .unset]) rfl ?_
  refine giload X0 hx (hb hby dj52_21_3) rfl ?_
  refine giload X0 hx (hb hby dj52_21_5) rfl ?_
  show Gs p e below _ s₁ m 7 #[rv aC, iv (0 : Int32), rv aB, iv (0 : Int32), iv (2 : Int32), iv (0 : Int32), .unset] [(.int (2 : Int32)), (.int (0 : Int32))]
  refine gicmpNo X0 hx (hb hby dj52_21_7) (by decide) ?_
  show Gs p e below _ s₁ m 10 #[rv aC, iv (0 : Int32), rv aB, iv (0 : Int32), iv (2 : Int32), iv (0 : Int32), .unset] []
  refine galoadN X0 hx (hb hby dj52_21_10) rfl rfl ?_
  refine giloadN X0 hx (hb hby dj52_21_11) rfl ?_
  show Gs p e below _ s₁ m 12 #[rv aC, iv (0 : Int32), rv aB, iv (0 : Int32), iv (2 : Int32), iv (0 : Int32), .unset] [(.int (0 : Int32)), (.ref aC)]
  obtain ⟨cl1, Ar1, qk1, Sz1, qz1, Ha1, Gf1⟩ := id VC
  have in1 := inb_of (j := (0 : Int32)) Sz1 ⟨by decide, by decide⟩
  refine Goes.st (fun tg kg => X0.caload hx (j := (0 : Int32)) (v := (.int c0)) (by rw [e0]; exact Ar1.1) (State.isArrayOf_alike hZ.alike Ar1.2.1) Ar1.2.2 in1 (Ha1.at in1 rfl) (g := (mkF m 12 #[rv aC, iv (0 : Int32), rv aB, iv (0 : Int32), iv (2 : Int32), iv (0 : Int32), .unset] [(.int (0 : Int32)), (.ref aC)])) rfl rfl (hb hby dj52_21_12) tg kg) ?_
  show Gs p e below _ s₁ m 13 #[rv aC, iv (0 : Int32), rv aB, iv (0 : Int32), iv (2 : Int32), iv (0 : Int32), .unset] [(.int c0)]
  refine gistore X0 hx (hb hby dj52_21_13) trivial (l' := #[rv aC, iv (0 : Int32), rv aB, iv (0 : Int32), iv (2 : Int32), iv (0 : Int32), iv c0]) rfl ?_
  refine giload X0 hx (hb hby dj52_21_15) rfl ?_
  refine Goes.st (fun tg kg => XS.sipush X0.here hx rfl (hb hby dj52_21_17) kg) ?_
  show Gs p e below _ s₁ m 20 #[rv aC, iv (0 : Int32), rv aB, iv (0 : Int32), iv (2 : Int32), iv (0 : Int32), iv c0] [(.int (255 : Int32)), (.int c0)]
  refine gicmpYes X0 hx (pc' := 26) (hb hby dj52_21_20) (flt hc0).2.2.2 (by decide) (by decide) ?_
  show Gs p e below _ s₁ m 26 #[rv aC, iv (0 : Int32), rv aB, iv (0 : Int32), iv (2 : Int32), iv (0 : Int32), iv c0] []
  refine galoadN X0 hx (hb hby dj52_21_26) rfl rfl ?_
  refine giloadN X0 hx (hb hby dj52_21_27) rfl ?_
  refine giload X0 hx (hb hby dj52_21_28) rfl ?_
  show Gs p e below _ s₁ m 30 #[rv aC, iv (0 : Int32), rv aB, iv (0 : Int32), iv (2 : Int32), iv (0 : Int32), iv c0] [(.int c0), (.int (0 : Int32)), (.ref aB)]
  refine Goes.st (fun tg kg => XT.i2b X0.here hx rfl (hb hby dj52_21_30) rfl kg) ?_
  show Gs p e below _ s₁ m 31 #[rv aC, iv (0 : Int32), rv aB, iv (0 : Int32), iv (2 : Int32), iv (0 : Int32), iv c0] [(.int (c0).toInt8.toInt32), (.int (0 : Int32)), (.ref aB)]
  obtain ⟨cl2, Ar2, qk2, Sz2, qz2, Ha2, Gf2⟩ := id VB
  obtain ⟨T2, h2, X2, e2, W2, st2⟩ := stB X0 hx hZ e0 Ar2 (inb_of Sz2 ⟨by decide, by decide⟩) (g := (mkF m 31 #[rv aC, iv (0 : Int32), rv aB, iv (0 : Int32), iv (2 : Int32), iv (0 : Int32), iv c0] [(.int (c0).toInt8.toInt32), (.int (0 : Int32)), (.ref aB)])) rfl rfl (hb hby dj52_21_31)
  have N2 := Fr.snoc X2 N0 lB
  have V2 : Arv Z h2 aB kB .byte (2 : Int32) [(.int (nar .byte (c0).toInt8.toInt32)), (.int (0 : Int32))] (.int (0 : Int32)) := Arv.set Ar2 qk2 Sz2 qz2 Ha2 Gf2 (fits_nar_byte _) W2 0 (by decide) (by simp)
  refine Goes.st st2 ?_
  have KK3 := K0.wr W2 (Or.inl (List.mem_of_getElem? (i := 0) rfl))
  have Z2 : n0 ≤ h2.size := by have := W2.size; have := Z0; omega
  show Gs p e below _ T2 m 32 #[rv aC, iv (0 : Int32), rv aB, iv (0 : Int32), iv (2 : Int32), iv (0 : Int32), iv c0] []
  refine Goes.st (fun tg kg => XS.iinc X2.here hx rfl (hb hby dj52_21_32) rfl (l' := #[rv aC, iv (1 : Int32), rv aB, iv (0 : Int32), iv (2 : Int32), iv (0 : Int32), iv c0]) rfl kg) ?_
  refine Goes.st (fun tg kg => XS.iinc X2.here hx rfl (hb hby dj52_21_35) rfl (l' := #[rv aC, iv (1 : Int32), rv aB, iv (1 : Int32), iv (2 : Int32), iv (0 : Int32), iv c0]) rfl kg) ?_
  refine Goes.st (fun tg kg => XS.iinc X2.here hx rfl (hb hby dj52_21_38) rfl (l' := #[rv aC, iv (1 : Int32), rv aB, iv (1 : Int32), iv (2 : Int32), iv (1 : Int32), iv c0]) rfl kg) ?_
  show Gs p e below _ T2 m 41 #[rv aC, iv (1 : Int32), rv aB, iv (1 : Int32), iv (2 : Int32), iv (1 : Int32), iv c0] []
  refine ggoto X2 hx (pc' := 3) (hb hby dj52_21_41) (by decide) (by decide) ?_
  show Gs p e below _ T2 m 3 #[rv aC, iv (1 : Int32), rv aB, iv (1 : Int32), iv (2 : Int32), iv (1 : Int32), iv c0] []
  refine giload X2 hx (hb hby dj52_21_3) rfl ?_
  refine giload X2 hx (hb hby dj52_21_5) rfl ?_
  show Gs p e below _ T2 m 7 #[rv aC, iv (1 : Int32), rv aB, iv (1 : Int32), iv (2 : Int32), iv (1 : Int32), iv c0] [(.int (2 : Int32)), (.int (1 : Int32))]
  refine gicmpNo X2 hx (hb hby dj52_21_7) (by decide) ?_
  show Gs p e below _ T2 m 10 #[rv aC, iv (1 : Int32), rv aB, iv (1 : Int32), iv (2 : Int32), iv (1 : Int32), iv c0] []
  refine galoadN X2 hx (hb hby dj52_21_10) rfl rfl ?_
  refine giloadN X2 hx (hb hby dj52_21_11) rfl ?_
  show Gs p e below _ T2 m 12 #[rv aC, iv (1 : Int32), rv aB, iv (1 : Int32), iv (2 : Int32), iv (1 : Int32), iv c0] [(.int (1 : Int32)), (.ref aC)]
  have f4 := (VC.other W2 nCB)
  obtain ⟨cl5, Ar5, qk5, Sz5, qz5, Ha5, Gf5⟩ := id f4
  have in5 := inb_of (j := (1 : Int32)) Sz5 ⟨by decide, by decide⟩
  refine Goes.st (fun tg kg => X2.caload hx (j := (1 : Int32)) (v := (.int c1)) (by rw [e2]; exact Ar5.1) (State.isArrayOf_alike hZ.alike Ar5.2.1) Ar5.2.2 in5 (Ha5.at in5 rfl) (g := (mkF m 12 #[rv aC, iv (1 : Int32), rv aB, iv (1 : Int32), iv (2 : Int32), iv (1 : Int32), iv c0] [(.int (1 : Int32)), (.ref aC)])) rfl rfl (hb hby dj52_21_12) tg kg) ?_
  show Gs p e below _ T2 m 13 #[rv aC, iv (1 : Int32), rv aB, iv (1 : Int32), iv (2 : Int32), iv (1 : Int32), iv c0] [(.int c1)]
  refine gistore X2 hx (hb hby dj52_21_13) trivial (l' := #[rv aC, iv (1 : Int32), rv aB, iv (1 : Int32), iv (2 : Int32), iv (1 : Int32), iv c1]) rfl ?_
  refine giload X2 hx (hb hby dj52_21_15) rfl ?_
  refine Goes.st (fun tg kg => XS.sipush X2.here hx rfl (hb hby dj52_21_17) kg) ?_
  show Gs p e below _ T2 m 20 #[rv aC, iv (1 : Int32), rv aB, iv (1 : Int32), iv (2 : Int32), iv (1 : Int32), iv c1] [(.int (255 : Int32)), (.int c1)]
  refine gicmpYes X2 hx (pc' := 26) (hb hby dj52_21_20) (flt hc1).2.2.2 (by decide) (by decide) ?_
  show Gs p e below _ T2 m 26 #[rv aC, iv (1 : Int32), rv aB, iv (1 : Int32), iv (2 : Int32), iv (1 : Int32), iv c1] []
  refine galoadN X2 hx (hb hby dj52_21_26) rfl rfl ?_
  refine giloadN X2 hx (hb hby dj52_21_27) rfl ?_
  refine giload X2 hx (hb hby dj52_21_28) rfl ?_
  show Gs p e below _ T2 m 30 #[rv aC, iv (1 : Int32), rv aB, iv (1 : Int32), iv (2 : Int32), iv (1 : Int32), iv c1] [(.int c1), (.int (1 : Int32)), (.ref aB)]
  refine Goes.st (fun tg kg => XT.i2b X2.here hx rfl (hb hby dj52_21_30) rfl kg) ?_
  show Gs p e below _ T2 m 31 #[rv aC, iv (1 : Int32), rv aB, iv (1 : Int32), iv (2 : Int32), iv (1 : Int32), iv c1] [(.int (c1).toInt8.toInt32), (.int (1 : Int32)), (.ref aB)]
  obtain ⟨cl6, Ar6, qk6, Sz6, qz6, Ha6, Gf6⟩ := id V2
  obtain ⟨T6, h6, X6, e6, W6, st6⟩ := stB X2 hx hZ e2 Ar6 (inb_of Sz6 ⟨by decide, by decide⟩) (g := (mkF m 31 #[rv aC, iv (1 : Int32), rv aB, iv (1 : Int32), iv (2 : Int32), iv (1 : Int32), iv c1] [(.int (c1).toInt8.toInt32), (.int (1 : Int32)), (.ref aB)])) rfl rfl (hb hby dj52_21_31)
  have N6 := Fr.snoc X6 N2 lB
  have V6 : Arv Z h6 aB kB .byte (2 : Int32) [(.int (nar .byte (c0).toInt8.toInt32)), (.int (nar .byte (c1).toInt8.toInt32))] (.int (0 : Int32)) := Arv.set Ar6 qk6 Sz6 qz6 Ha6 Gf6 (fits_nar_byte _) W6 1 (by decide) (by simp)
  refine Goes.st st6 ?_
  have KK7 := KK3.wr W6 (Or.inl (List.mem_of_getElem? (i := 0) rfl))
  have Z6 : n0 ≤ h6.size := by have := W6.size; have := Z2; omega
  show Gs p e below _ T6 m 32 #[rv aC, iv (1 : Int32), rv aB, iv (1 : Int32), iv (2 : Int32), iv (1 : Int32), iv c1] []
  refine Goes.st (fun tg kg => XS.iinc X6.here hx rfl (hb hby dj52_21_32) rfl (l' := #[rv aC, iv (2 : Int32), rv aB, iv (1 : Int32), iv (2 : Int32), iv (1 : Int32), iv c1]) rfl kg) ?_
  refine Goes.st (fun tg kg => XS.iinc X6.here hx rfl (hb hby dj52_21_35) rfl (l' := #[rv aC, iv (2 : Int32), rv aB, iv (2 : Int32), iv (2 : Int32), iv (1 : Int32), iv c1]) rfl kg) ?_
  refine Goes.st (fun tg kg => XS.iinc X6.here hx rfl (hb hby dj52_21_38) rfl (l' := #[rv aC, iv (2 : Int32), rv aB, iv (2 : Int32), iv (2 : Int32), iv (2 : Int32), iv c1]) rfl kg) ?_
  show Gs p e below _ T6 m 41 #[rv aC, iv (2 : Int32), rv aB, iv (2 : Int32), iv (2 : Int32), iv (2 : Int32), iv c1] []
  refine ggoto X6 hx (pc' := 3) (hb hby dj52_21_41) (by decide) (by decide) ?_
  show Gs p e below _ T6 m 3 #[rv aC, iv (2 : Int32), rv aB, iv (2 : Int32), iv (2 : Int32), iv (2 : Int32), iv c1] []
  refine giload X6 hx (hb hby dj52_21_3) rfl ?_
  refine giload X6 hx (hb hby dj52_21_5) rfl ?_
  show Gs p e below _ T6 m 7 #[rv aC, iv (2 : Int32), rv aB, iv (2 : Int32), iv (2 : Int32), iv (2 : Int32), iv c1] [(.int (2 : Int32)), (.int (2 : Int32))]
  refine gicmpYes X6 hx (pc' := 44) (hb hby dj52_21_7) (by decide) (by decide) (by decide) ?_
  show Gs p e below _ T6 m 44 #[rv aC, iv (2 : Int32), rv aB, iv (2 : Int32), iv (2 : Int32), iv (2 : Int32), iv c1] []
  refine giload X6 hx (hb hby dj52_21_44) rfl ?_
  show Gs p e below _ T6 m 46 #[rv aC, iv (2 : Int32), rv aB, iv (2 : Int32), iv (2 : Int32), iv (2 : Int32), iv c1] [(.int (2 : Int32))]
  refine Goes.retI X6 hx hret (hb hby dj52_21_46) (lvN X6 hlk (vsome hret) ?_ (by decide) (by decide))
  rw [e6]
  exact ⟨_, rfl, N6, KK7, V6⟩
theorem dj52_16_0 : decode jdk_52_method_16_code 0 = .ok (.iload_n 2, 1) := by decide +kernel
theorem dj52_16_1 : decode jdk_52_method_16_code 1 = .ok (.newarray .byte, 2) := by decide +kernel
theorem dj52_16_3 : decode jdk_52_method_16_code 3 = .ok (.astore_n 3, 1) := by decide +kernel
theorem dj52_16_4 : decode jdk_52_method_16_code 4 = .ok (.aload_n 0, 1) := by decide +kernel
theorem dj52_16_5 : decode jdk_52_method_16_code 5 = .ok (.iload_n 1, 1) := by decide +kernel
theorem dj52_16_6 : decode jdk_52_method_16_code 6 = .ok (.aload_n 3, 1) := by decide +kernel
theorem dj52_16_7 : decode jdk_52_method_16_code 7 = .ok (.iconst 0, 1) := by decide +kernel
theorem dj52_16_8 : decode jdk_52_method_16_code 8 = .ok (.iload_n 2, 1) := by decide +kernel
theorem dj52_16_9 : decode jdk_52_method_16_code 9 = .ok (.invokestatic 115, 3) := by decide +kernel
theorem dj52_16_12 : decode jdk_52_method_16_code 12 = .ok (.istore 4, 2) := by decide +kernel
theorem dj52_16_14 : decode jdk_52_method_16_code 14 = .ok (.iload 4, 2) := by decide +kernel
theorem dj52_16_16 : decode jdk_52_method_16_code 16 = .ok (.iload_n 2, 1) := by decide +kernel
theorem dj52_16_17 : decode jdk_52_method_16_code 17 = .ok (.if_icmp .eq 40, 3) := by decide +kernel
theorem dj52_16_20 : decode jdk_52_method_16_code 20 = .ok (.aload_n 0, 1) := by decide +kernel
theorem dj52_16_21 : decode jdk_52_method_16_code 21 = .ok (.iload_n 1, 1) := by decide +kernel
theorem dj52_16_22 : decode jdk_52_method_16_code 22 = .ok (.iload_n 2, 1) := by decide +kernel
theorem dj52_16_23 : decode jdk_52_method_16_code 23 = .ok (.invokestatic 119, 3) := by decide +kernel
theorem dj52_16_26 : decode jdk_52_method_16_code 26 = .ok (.astore 5, 2) := by decide +kernel
theorem dj52_16_28 : decode jdk_52_method_16_code 28 = .ok (.aload 5, 2) := by decide +kernel
theorem dj52_16_30 : decode jdk_52_method_16_code 30 = .ok (.iload 4, 2) := by decide +kernel
theorem dj52_16_32 : decode jdk_52_method_16_code 32 = .ok (.invokestatic 71, 3) := by decide +kernel
theorem dj52_16_35 : decode jdk_52_method_16_code 35 = .ok (.sipush 255, 3) := by decide +kernel
theorem dj52_16_38 : decode jdk_52_method_16_code 38 = .ok (.if_icmp .gt 16, 3) := by decide +kernel
theorem dj52_16_41 : decode jdk_52_method_16_code 41 = .ok (.aload 5, 2) := by decide +kernel
theorem dj52_16_43 : decode jdk_52_method_16_code 43 = .ok (.iconst 0, 1) := by decide +kernel
theorem dj52_16_44 : decode jdk_52_method_16_code 44 = .ok (.aload_n 3, 1) := by decide +kernel
theorem dj52_16_45 : decode jdk_52_method_16_code 45 = .ok (.iconst 0, 1) := by decide +kernel
theorem dj52_16_46 : decode jdk_52_method_16_code 46 = .ok (.iload_n 2, 1) := by decide +kernel
theorem dj52_16_47 : decode jdk_52_method_16_code 47 = .ok (.invokestatic 123, 3) := by decide +kernel
theorem dj52_16_50 : decode jdk_52_method_16_code 50 = .ok (.iload_n 2, 1) := by decide +kernel
theorem dj52_16_51 : decode jdk_52_method_16_code 51 = .ok (.if_icmp .eq 6, 3) := by decide +kernel
theorem dj52_16_54 : decode jdk_52_method_16_code 54 = .ok (.aload 5, 2) := by decide +kernel
theorem dj52_16_56 : decode jdk_52_method_16_code 56 = .ok (.areturn, 1) := by decide +kernel
theorem dj52_16_57 : decode jdk_52_method_16_code 57 = .ok (.aload_n 3, 1) := by decide +kernel
theorem dj52_16_58 : decode jdk_52_method_16_code 58 = .ok (.areturn, 1) := by decide +kernel
theorem pd___CI_BII_I_1ed0 : parseMethodDescriptor "([CI[BII)I" = some ⟨[(.array .char), .int, (.array .byte), .int, .int], some .int⟩ := by decide +kernel
theorem ef_Cx2 (m : MethodId) (x0 : Addr) (x1 : Int32) (x2 : Int32) : entryFrame m #[(.ref x0), (.int x1), (.int x2)] 6 = mkF m 0 #[rv x0, iv x1, iv x2, .unset, .unset, .unset] [] := by first | (simp [entryFrame, mkF, argsToLocals, Value.category]; done) | rfl
def QCx2 (Z : State) (aC : Addr) (kC : ClassId) (c0 c1 : Int32) (h0 : Heap) (n0 : Nat) (v : Option Value) (h : Heap) (L : List Loc) : Prop := ∃ (b : Addr) (kB : ClassId) (vs : List Value), v = some (.ref b) ∧ Fr n0 L ∧ Keep h0 h [] ∧ h0.size ≤ b ∧ n0 ≤ b ∧ Arv Z h b kB .byte (2 : Int32) vs (.int (0 : Int32))
set_option maxRecDepth 65536 in
set_option maxHeartbeats 40000000 in
theorem rmCx2 (l : Launch) (Z : State) (a0 : Array Value) (hw : ∀ d ∈ tables_1, d.before a0 Z = true) (ws : List Jvm.Cond) (aC : Addr) (kC : ClassId) (c0 c1 : Int32) (h0 : Heap) (n0 : Nat) (Z0 : n0 ≤ h0.size) (VC : Arv Z h0 aC kC .char (2 : Int32) [(.int c0), (.int c1)] (.int (0 : Int32))) (hc0 : ¬ (255 : Int32) < c0) (hc1 : ¬ (255 : Int32) < c1) :
    MetFree l mN5 (head1 (Jvm.Cond.code mN5 jdk_52_method_16_code 6 (some (.array .byte)) :: ws) ({ frames := 1, cells := 1, slots := 2, locals := 18 } : Room)) (fun aa U => aa = #[(.ref aC), (.int (0 : Int32)), (.int (2 : Int32))] ∧ Z.Warmed39 U.vm ∧ U.heap = h0) (fun _ _ _ _ _ => True) (fun _ u1_ o_ u2_ => ∃ v_ l_, o_ = .returned v_ ∧ QCx2 Z aC kC c0 c1 h0 n0 v_ u2_.heap l_ ∧ FrameEnd u1_ o_ u2_ l_ ({ frames := 1, cells := 1, slots := 2, locals := 18 } : Room).cells ({ frames := 1, cells := 1, slots := 2, locals := 18 } : Room).slots) := by
  refine MetFree.of_bodySF (plainFor_of_name pn_java_lang_StringUTF16) hisR ?_
  intro p e s m args below meth c s₁ Bd hml0 hP hK
  obtain ⟨rfl, hZ, hh⟩ := hP
  have hx := Bd.exec
  have hby := Bd.bytes
  have hlk := BodyLoose.notSynchronized Bd
  have hret := Bd.returns
  have hml : c.maxLocals = 6 := hml0
  have hown : s.vm.findClass "java/lang/StringUTF16" = some m.cls := findClass_of_methodNamed Bd.named
  have hnm := (name_of_methodNamed Bd.named Bd.method).1
  have X0 : Stand p l e ({ frames := 1, cells := 1, slots := 2, locals := 18 } : Room) s m #[(.ref aC), (.int (0 : Int32)), (.int (2 : Int32))] below meth c s₁ [] 0 0 := Stand.of_body Bd
  have e0 : s₁.heap = h0 := by rw [← hh, Bd.state]; rfl
  have N0 := Fr.nil n0
  refine Goes.st (E := (EN s (QCx2 Z aC kC c0 c1 h0 n0) ({ frames := 1, cells := 1, slots := 2, locals := 18 } : Room).cells ({ frames := 1, cells := 1, slots := 2, locals := 18 } : Room).slots)) (fun tg kg => castTop (ef_Cx2 m aC (0 : Int32) (2 : Int32)) kg) ?_
  have K0 : Keep h0 h0 [] := Keep.refl _ _
  show Gs p e below _ s₁ m 0 #[rv aC, iv (0 : Int32), iv (2 : Int32), .unset, .unset, .unset] []
  refine giloadN X0 hx (hb hby dj52_16_0) rfl ?_
  obtain ⟨T1, h1, cA1, X1, e1, E1, A1, st1⟩ := newP X0 hx hZ (hwk hw 14 rfl) e0 (g := (mkF m 1 #[rv aC, iv (0 : Int32), iv (2 : Int32), .unset, .unset, .unset] [(.int (2 : Int32))])) rfl (hb hby dj52_16_1) rfl (by decide) (cap := 2) (by decide) (by decide) (by decide) (by decide)
  obtain ⟨b1, g1⟩ : ∃ z, z = h0.size := ⟨_, rfl⟩
  rw [← g1] at A1 st1
  have ne_aC_b1 : aC ≠ b1 := Nat.ne_of_lt (Nat.lt_of_lt_of_le VC.lt (Nat.le_of_eq g1.symm))
  have lo_b1 : n0 ≤ b1 := by have := Z0; omega
  have sz_b1 : h0.size ≤ b1 := by have := K0.1; omega
  have KK2 := K0.ext E1
  have V1 : Arv Z h1 b1 cA1 .byte (2 : Int32) [(.int (0 : Int32)), (.int (0 : Int32))] (.int (0 : Int32)) := (Arv.new A1 (by decide)).pad (pad_rep [] _ 2)
  refine Goes.st st1 ?_
  have Z1 : n0 ≤ h1.size := Nat.le_trans Z0 E1.1
  show Gs p e below _ T1 m 3 #[rv aC, iv (0 : Int32), iv (2 : Int32), .unset, .unset, .unset] [(.ref b1)]
  refine gastoreN X1 hx (hb hby dj52_16_3) trivial rfl (l' := #[rv aC, iv (0 : Int32), iv (2 : Int32), rv b1, .unset, .unset]) rfl ?_
  refine galoadN X1 hx (hb hby dj52_16_4) rfl rfl ?_
  refine giloadN X1 hx (hb hby dj52_16_5) rfl ?_
  refine galoadN X1 hx (hb hby dj52_16_6) rfl rfl ?_
  refine giconst X1 hx (hb hby dj52_16_7) ?_
  show Gs p e below _ T1 m 8 #[rv aC, iv (0 : Int32), iv (2 : Int32), rv b1, .unset, .unset] [(.int (0 : Int32)), (.ref b1), (.int (0 : Int32)), (.ref aC)]
  refine giloadN X1 hx (hb hby dj52_16_8) rfl ?_
  have f3 := (VC.ext E1)
  obtain ⟨_, _, ⟨T4, L4, k4, n4⟩, -, X4, ⟨Lc4, hQ4, l4, y4, z4⟩, st4⟩ := Jvm.LawKit.callS X1 hx (y := mN4) hown (mvT hZ (hwk hw 38 rfl)) (mvT hZ (hwk hw 39 rfl)) (mvT hZ (hwk hw 36 rfl)) (mvT hZ (hwk hw 40 rfl)) (by decide) (backOf (W := 0) (rmCm2 l Z a0 hw [] aC kC c0 c1 b1 cA1 h1 n0 Z1 f3 V1 lo_b1 ne_aC_b1 hc0 hc1) hZ (hwk hw 40 rfl) (hwk hw 36 rfl) (by decide) (by decide)) (g := (mkF m 9 #[rv aC, iv (0 : Int32), iv (2 : Int32), rv b1, .unset, .unset] [(.int (2 : Int32)), (.int (0 : Int32)), (.ref b1), (.int (0 : Int32)), (.ref aC)])) rfl (by rw [hml]; rfl) (argsL := [(.ref aC), (.int (0 : Int32)), (.ref b1), (.int (0 : Int32)), (.int (2 : Int32))]) (rest := []) (lenOf pd___CI_BII_I_1ed0 rfl) rfl (by show 2 * 0 + _ ≤ _; exact Nat.le_of_eq rfl) (hb hby dj52_16_9) (fun _ _ => ⟨rfl, e1, (by decide : 1 + 0 ≤ 1), (by decide : 2 + 0 ≤ 2)⟩)
  dsimp only [Pt.U, Pt.locs, Pt.cells, Pt.slots] at X4 l4 y4 z4 st4 hQ4
  subst l4 y4 z4
  obtain ⟨vs4, rfl, N4q, K4, V4⟩ := hQ4
  have KK5 := KK2.trans K4 (allS (Or.inr sz_b1) all0)
  have Z4 : n0 ≤ T4.heap.size := Nat.le_trans Z1 K4.1
  have N4 := Fr.app N0 N4q
  refine Goes.st st4 ?_
  show Gs p e below _ T4 m 12 #[rv aC, iv (0 : Int32), iv (2 : Int32), rv b1, .unset, .unset] [(.int (2 : Int32))]
  refine gistore X4 hx (hb hby dj52_16_12) trivial (l' := #[rv aC, iv (0 : Int32), iv (2 : Int32), rv b1, iv (2 : Int32), .unset]) rfl ?_
  refine giload X4 hx (hb hby dj52_16_14) rfl ?_
  refine giloadN X4 hx (hb hby dj52_16_16) rfl ?_
  show Gs p e below _ T4 m 17 #[rv aC, iv (0 : Int32), iv (2 : Int32), rv b1, iv (2 : Int32), .unset] [(.int (2 : Int32)), (.int (2 : Int32))]
  refine gicmpYes X4 hx (pc' := 57) (hb hby dj52_16_17) (by decide) (by decide) (by decide) ?_
  show Gs p e below _ T4 m 57 #[rv aC, iv (0 : Int32), iv (2 : Int32), rv b1, iv (2 : Int32), .unset] []
  refine galoadN X4 hx (hb hby dj52_16_57) rfl rfl ?_
  show Gs p e below _ T4 m 58 #[rv aC, iv (0 : Int32), iv (2 : Int32), rv b1, iv (2 : Int32), .unset] [(.ref b1)]
  refine Goes.retA X4 hx hret rfl rfl rfl (hb hby dj52_16_58) (lvN X4 hlk (vsome hret) ?_ (by decide) (by decide))
  exact ⟨b1, cA1, _, rfl, N4, KK5, sz_b1, lo_b1, V4⟩
theorem dj52_15_0 : decode jdk_52_method_15_code 0 = .ok (.iload_n 1, 1) := by decide +kernel
theorem dj52_15_1 : decode jdk_52_method_15_code 1 = .ok (.aload_n 0, 1) := by decide +kernel
theorem dj52_15_2 : decode jdk_52_method_15_code 2 = .ok (.arraylength, 1) := by decide +kernel
theorem dj52_15_3 : decode jdk_52_method_15_code 3 = .ok (.isub, 1) := by decide +kernel
theorem dj52_15_4 : decode jdk_52_method_15_code 4 = .ok (.bipush 31, 2) := by decide +kernel
theorem dj52_15_6 : decode jdk_52_method_15_code 6 = .ok (.iushr, 1) := by decide +kernel
theorem dj52_15_7 : decode jdk_52_method_15_code 7 = .ok (.i2b, 1) := by decide +kernel
theorem dj52_15_8 : decode jdk_52_method_15_code 8 = .ok (.ireturn, 1) := by decide +kernel
theorem ef_Cl2 (m : MethodId) (x0 : Addr) (x1 : Int32) : entryFrame m #[(.ref x0), (.int x1)] 2 = mkF m 0 #[rv x0, iv x1] [] := by first | (simp [entryFrame, mkF, argsToLocals, Value.category]; done) | rfl
def QCl2 (Z : State) (aB : Addr) (kB : ClassId) (vs : List Value) (h0 : Heap) (n0 : Nat) (v : Option Value) (h : Heap) (L : List Loc) : Prop := v = some (.int 0) ∧ Fr n0 L ∧ h = h0
set_option maxRecDepth 65536 in
set_option maxHeartbeats 40000000 in
theorem rmCl2 (l : Launch) (Z : State) (a0 : Array Value) (hw : ∀ d ∈ tables_1, d.before a0 Z = true) (ws : List Jvm.Cond) (aB : Addr) (kB : ClassId) (vs : List Value) (h0 : Heap) (n0 : Nat) (Z0 : n0 ≤ h0.size) (VB : Arv Z h0 aB kB .byte (2 : Int32) vs (.int (0 : Int32))) :
    MetFree l mN6 (head1 (Jvm.Cond.code mN6 jdk_52_method_15_code 2 (some .byte) :: ws) ({ frames := 0, cells := 0, slots := 0, locals := 0 } : Room)) (fun aa U => aa = #[(.ref aB), (.int (2 : Int32))] ∧ Z.Warmed39 U.vm ∧ U.heap = h0) (fun _ _ _ _ _ => True) (fun _ u1_ o_ u2_ => ∃ v_ l_, o_ = .returned v_ ∧ QCl2 Z aB kB vs h0 n0 v_ u2_.heap l_ ∧ FrameEnd u1_ o_ u2_ l_ ({ frames := 0, cells := 0, slots := 0, locals := 0 } : Room).cells ({ frames := 0, cells := 0, slots := 0, locals := 0 } : Room).slots) := by
  refine MetFree.of_bodySF (plainFor_of_name pn_java_lang_StringUTF16) hisR ?_
  intro p e s m args below meth c s₁ Bd hml0 hP hK
  obtain ⟨rfl, hZ, hh⟩ := hP
  have hx := Bd.exec
  have hby := Bd.bytes
  have hlk := BodyLoose.notSynchronized Bd
  have hret := Bd.returns
  have hml : c.maxLocals = 2 := hml0
  have hown : s.vm.findClass "java/lang/StringUTF16" = some m.cls := findClass_of_methodNamed Bd.named
  have hnm := (name_of_methodNamed Bd.named Bd.method).1
  have X0 : Stand p l e ({ frames := 0, cells := 0, slots := 0, locals := 0 } : Room) s m #[(.ref aB), (.int (2 : Int32))] below meth c s₁ [] 0 0 := Stand.of_body Bd
  have e0 : s₁.heap = h0 := by rw [← hh, Bd.state]; rfl
  have N0 := Fr.nil n0
  refine Goes.st (E := (EN s (QCl2 Z aB kB vs h0 n0) ({ frames := 0, cells := 0, slots := 0, locals := 0 } : Room).cells ({ frames := 0, cells := 0, slots := 0, locals := 0 } : Room).slots)) (fun tg kg => castTop (ef_Cl2 m aB (2 : Int32)) kg) ?_
  show Gs p e below _ s₁ m 0 #[rv aB, iv (2 : Int32)] []
  refine giloadN X0 hx (hb hby dj52_15_0) rfl ?_
  refine galoadN X0 hx (hb hby dj52_15_1) rfl rfl ?_
  show Gs p e below _ s₁ m 2 #[rv aB, iv (2 : Int32)] [(.ref aB), (.int (2 : Int32))]
  obtain ⟨cl1, Ar1, qk1, Sz1, qz1, Ha1, Gf1⟩ := id VB
  refine Goes.st (fun tg kg => X0.arraylength hx (cell := cl1) (by rw [e0]; exact Ar1.1) (State.isArrayOf_alike hZ.alike Ar1.2.1) (g := (mkF m 2 #[rv aB, iv (2 : Int32)] [(.ref aB), (.int (2 : Int32))])) rfl (rest := [(.int (2 : Int32))]) rfl (hb hby dj52_15_2) tg kg) ?_
  rw [len_of Sz1 qz1]
  show Gs p e below _ s₁ m 3 #[rv aB, iv (2 : Int32)] [(.int (2 : Int32)), (.int (2 : Int32))]
  refine gisub X0 hx (hb hby dj52_15_3) trivial ?_
  show Gs p e below _ s₁ m 4 #[rv aB, iv (2 : Int32)] [(.int ((2 : Int32) - (2 : Int32)))]
  rw [show ((2 : Int32) - (2 : Int32)) = (0 : Int32) from by decide]
  show Gs p e below _ s₁ m 4 #[rv aB, iv (2 : Int32)] [(.int (0 : Int32))]
  refine Goes.st (fun tg kg => XS.bipush X0.here hx rfl (hb hby dj52_15_4) kg) ?_
  show Gs p e below _ s₁ m 6 #[rv aB, iv (2 : Int32)] [(.int (31 : Int32)), (.int (0 : Int32))]
  refine Goes.st (fun tg kg => XT.iushr X0.here hx rfl (hb hby dj52_15_6) rfl kg) ?_
  show Gs p e below _ s₁ m 7 #[rv aB, iv (2 : Int32)] [(.int (XT.ushr (0 : Int32) (31 : Int32)))]
  rw [show (XT.ushr (0 : Int32) (31 : Int32)) = (0 : Int32) from by decide]
  show Gs p e below _ s₁ m 7 #[rv aB, iv (2 : Int32)] [(.int (0 : Int32))]
  refine Goes.st (fun tg kg => XT.i2b X0.here hx rfl (hb hby dj52_15_7) rfl kg) ?_
  show Gs p e below _ s₁ m 8 #[rv aB, iv (2 : Int32)] [(.int ((0 : Int32)).toInt8.toInt32)]
  rw [show ((0 : Int32)).toInt8.toInt32 = (0 : Int32) from by decide]
  show Gs p e below _ s₁ m 8 #[rv aB, iv (2 : Int32)] [(.int (0 : Int32))]
  refine Goes.retN X0 hx hret (by simp) (hb hby dj52_15_8) (by decide) (lvN X0 hlk (vsome hret) ?_ (by decide) (by decide))
  rw [e0]
  exact ⟨rfl, N0, rfl⟩
theorem dj42_149_0 : decode jdk_42_method_149_code 0 = .ok (.aload_n 0, 1) := by decide +kernel
theorem dj42_149_1 : decode jdk_42_method_149_code 1 = .ok (.invokespecial 1, 3) := by decide +kernel
theorem dj42_149_4 : decode jdk_42_method_149_code 4 = .ok (.iload_n 3, 1) := by decide +kernel
theorem dj42_149_5 : decode jdk_42_method_149_code 5 = .ok (.ifCond .ne 22, 3) := by decide +kernel
theorem dj42_149_8 : decode jdk_42_method_149_code 8 = .ok (.aload_n 0, 1) := by decide +kernel
theorem dj42_149_9 : decode jdk_42_method_149_code 9 = .ok (.ldc 7, 2) := by decide +kernel
theorem dj42_149_11 : decode jdk_42_method_149_code 11 = .ok (.getfield 9, 3) := by decide +kernel
theorem dj42_149_14 : decode jdk_42_method_149_code 14 = .ok (.putfield 9, 3) := by decide +kernel
theorem dj42_149_17 : decode jdk_42_method_149_code 17 = .ok (.aload_n 0, 1) := by decide +kernel
theorem dj42_149_18 : decode jdk_42_method_149_code 18 = .ok (.ldc 7, 2) := by decide +kernel
theorem dj42_149_20 : decode jdk_42_method_149_code 20 = .ok (.getfield 15, 3) := by decide +kernel
theorem dj42_149_23 : decode jdk_42_method_149_code 23 = .ok (.putfield 15, 3) := by decide +kernel
theorem dj42_149_26 : decode jdk_42_method_149_code 26 = .ok (.return_, 1) := by decide +kernel
theorem dj42_149_27 : decode jdk_42_method_149_code 27 = .ok (.getstatic 38, 3) := by decide +kernel
theorem dj42_149_30 : decode jdk_42_method_149_code 30 = .ok (.ifCond .eq 28, 3) := by decide +kernel
theorem dj42_149_33 : decode jdk_42_method_149_code 33 = .ok (.aload_n 1, 1) := by decide +kernel
theorem dj42_149_34 : decode jdk_42_method_149_code 34 = .ok (.iload_n 2, 1) := by decide +kernel
theorem dj42_149_35 : decode jdk_42_method_149_code 35 = .ok (.iload_n 3, 1) := by decide +kernel
theorem dj42_149_36 : decode jdk_42_method_149_code 36 = .ok (.invokestatic 177, 3) := by decide +kernel
theorem dj42_149_39 : decode jdk_42_method_149_code 39 = .ok (.astore 5, 2) := by decide +kernel
theorem dj42_149_41 : decode jdk_42_method_149_code 41 = .ok (.aload_n 0, 1) := by decide +kernel
theorem dj42_149_42 : decode jdk_42_method_149_code 42 = .ok (.aload 5, 2) := by decide +kernel
theorem dj42_149_44 : decode jdk_42_method_149_code 44 = .ok (.iload_n 3, 1) := by decide +kernel
theorem dj42_149_45 : decode jdk_42_method_149_code 45 = .ok (.invokestatic 47, 3) := by decide +kernel
theorem dj42_149_48 : decode jdk_42_method_149_code 48 = .ok (.putfield 15, 3) := by decide +kernel
theorem dj42_149_51 : decode jdk_42_method_149_code 51 = .ok (.aload_n 0, 1) := by decide +kernel
theorem dj42_149_52 : decode jdk_42_method_149_code 52 = .ok (.aload 5, 2) := by decide +kernel
theorem dj42_149_54 : decode jdk_42_method_149_code 54 = .ok (.putfield 9, 3) := by decide +kernel
theorem dj42_149_57 : decode jdk_42_method_149_code 57 = .ok (.return_, 1) := by decide +kernel
theorem dj42_149_58 : decode jdk_42_method_149_code 58 = .ok (.aload_n 0, 1) := by decide +kernel
theorem dj42_149_59 : decode jdk_42_method_149_code 59 = .ok (.iconst 1, 1) := by decide +kernel
theorem dj42_149_60 : decode jdk_42_method_149_code 60 = .ok (.putfield 15, 3) := by decide +kernel
theorem dj42_149_63 : decode jdk_42_method_149_code 63 = .ok (.aload_n 0, 1) := by decide +kernel
theorem dj42_149_64 : decode jdk_42_method_149_code 64 = .ok (.aload_n 1, 1) := by decide +kernel
theorem dj42_149_65 : decode jdk_42_method_149_code 65 = .ok (.iload_n 2, 1) := by decide +kernel
theorem dj42_149_66 : decode jdk_42_method_149_code 66 = .ok (.iload_n 3, 1) := by decide +kernel
theorem dj42_149_67 : decode jdk_42_method_149_code 67 = .ok (.invokestatic 180, 3) := by decide +kernel
theorem dj42_149_70 : decode jdk_42_method_149_code 70 = .ok (.putfield 9, 3) := by decide +kernel
theorem dj42_149_73 : decode jdk_42_method_149_code 73 = .ok (.return_, 1) := by decide +kernel
theorem pd___CII__B_166f : parseMethodDescriptor "([CII)[B" = some ⟨[(.array .char), .int, .int], some (.array .byte)⟩ := by decide +kernel
theorem pd___BI_B_df7 : parseMethodDescriptor "([BI)B" = some ⟨[(.array .byte), .int], some .byte⟩ := by decide +kernel
theorem ef_Iv2 (m : MethodId) (x0 : Addr) (x1 : Addr) (x2 : Int32) (x3 : Int32) : entryFrame m #[(.ref x0), (.ref x1), (.int x2), (.int x3), .null] 6 = mkF m 0 #[rv x0, rv x1, iv x2, iv x3, .val .null, .unset] [] := by first | (simp [entryFrame, mkF, argsToLocals, Value.category]; done) | rfl
def QIv2 (Z : State) (a : Addr) (u0 u1 : Value) (cs : Int32) (aC : Addr) (kC : ClassId) (c0 c1 : Int32) (h0 : Heap) (n0 : Nat) (v : Option Value) (h : Heap) (L : List Loc) : Prop := v = none ∧ Fr n0 L ∧ Keep h0 h [a]
set_option maxRecDepth 65536 in
set_option maxHeartbeats 40000000 in
theorem rmIv2 (l : Launch) (Z : State) (a0 : Array Value) (hw : ∀ d ∈ tables_1, d.before a0 Z = true) (ws : List Jvm.Cond) (a : Addr) (u0 u1 : Value) (cs : Int32) (aC : Addr) (kC : ClassId) (c0 c1 : Int32) (h0 : Heap) (n0 : Nat) (Z0 : n0 ≤ h0.size) (Scs : Sta Z h0 "java/lang/String" "COMPACT_STRINGS" "Z" (.int cs)) (hcs : ¬ cs = (0 : Int32)) (Ea : Exa Z h0 a "java/lang/String") (ga : n0 ≤ a) (Fv : Fld Z h0 a "java/lang/String" "value" "[B" u0) (Fc : Fld Z h0 a "java/lang/String" "coder" "B" u1) (VC : Arv Z h0 aC kC .char (2 : Int32) [(.int c0), (.int c1)] (.int (0 : Int32))) (naC : a ≠ aC) (hc0 : ¬ (255 : Int32) < c0) (hc1 : ¬ (255 : Int32) < c1) :
    MetFree l mN7 (head1 (Jvm.Cond.code mN7 jdk_42_method_149_code 6 none :: ws) ({ frames := 2, cells := 1, slots := 2, locals := 35 } : Room)) (fun aa U => aa = #[(.ref a), (.ref aC), (.int (0 : Int32)), (.int (2 : Int32)), .null] ∧ Z.Warmed39 U.vm ∧ U.heap = h0) (fun _ _ _ _ _ => True) (fun _ u1_ o_ u2_ => ∃ v_ l_, o_ = .returned v_ ∧ QIv2 Z a u0 u1 cs aC kC c0 c1 h0 n0 v_ u2_.heap l_ ∧ FrameEnd u1_ o_ u2_ l_ ({ frames := 2, cells := 1, slots := 2, locals := 35 } : Room).cells ({ frames := 2, cells := 1, slots := 2, locals := 35 } : Room).slots) := by
  refine MetFree.of_bodySF (plainFor_of_name pn_java_lang_String) hisR ?_
  intro p e s m args below meth c s₁ Bd hml0 hP hK
  obtain ⟨rfl, hZ, hh⟩ := hP
  have hx := Bd.exec
  have hby := Bd.bytes
  have hlk := BodyLoose.notSynchronized Bd
  have hret := Bd.returns
  have hml : c.maxLocals = 6 := hml0
  have hown : s.vm.findClass "java/lang/String" = some m.cls := findClass_of_methodNamed Bd.named
  have hnm := (name_of_methodNamed Bd.named Bd.method).1
  have X0 : Stand p l e ({ frames := 2, cells := 1, slots := 2, locals := 35 } : Room) s m #[(.ref a), (.ref aC), (.int (0 : Int32)), (.int (2 : Int32)), .null] below meth c s₁ [] 0 0 := Stand.of_body Bd
  have e0 : s₁.heap = h0 := by rw [← hh, Bd.state]; rfl
  have N0 := Fr.nil n0
  refine Goes.st (E := (EN s (QIv2 Z a u0 u1 cs aC kC c0 c1 h0 n0) ({ frames := 2, cells := 1, slots := 2, locals := 35 } : Room).cells ({ frames := 2, cells := 1, slots := 2, locals := 35 } : Room).slots)) (fun tg kg => castTop (ef_Iv2 m a aC (0 : Int32) (2 : Int32)) kg) ?_
  have K0 : Keep h0 h0 [a] := Keep.refl _ _
  show Gs p e below _ s₁ m 0 #[rv a, rv aC, iv (0 : Int32), iv (2 : Int32), .val .null, .unset] []
  refine galoadN X0 hx (hb hby dj42_149_0) rfl rfl ?_
  obtain ⟨T1, X1, e1, st1⟩ := initO X0 hx hZ hown (hwk hw 19 rfl) (hwk hw 20 rfl) (hwk hw 21 rfl) e0 (g := (mkF m 1 #[rv a, rv aC, iv (0 : Int32), iv (2 : Int32), .val .null, .unset] [(.ref a)])) rfl (by rw [hml]; rfl) rfl (hb hby dj42_149_1) (by decide) (W := 0) (by show 2 * 0 + _ ≤ _; exact Nat.le_of_eq rfl) (by decide)
  refine Goes.st st1 ?_
  show Gs p e below _ T1 m 4 #[rv a, rv aC, iv (0 : Int32), iv (2 : Int32), .val .null, .unset] []
  refine giloadN X1 hx (hb hby dj42_149_4) rfl ?_
  show Gs p e below _ T1 m 5 #[rv a, rv aC, iv (0 : Int32), iv (2 : Int32), .val .null, .unset] [(.int (2 : Int32))]
  refine gifYes X1 hx (pc' := 27) (hb hby dj42_149_5) (by decide) (by decide) (by decide) ?_
  show Gs p e below _ T1 m 27 #[rv a, rv aC, iv (0 : Int32), iv (2 : Int32), .val .null, .unset] []
  obtain ⟨T2, X2, e2, st2⟩ := getS X1 hx hZ hown (host := "") (hwk hw 4 rfl) Via.refl e1 Scs (g := (mkF m 27 #[rv a, rv aC, iv (0 : Int32), iv (2 : Int32), .val .null, .unset] [])) rfl (hb hby dj42_149_27)
  refine Goes.st st2 ?_
  show Gs p e below _ T2 m 30 #[rv a, rv aC, iv (0 : Int32), iv (2 : Int32), .val .null, .unset] [(.int cs)]
  refine gifNo X2 hx (hb hby dj42_149_30) ((if0 _ _).trans (feq hcs).1) ?_
  show Gs p e below _ T2 m 33 #[rv a, rv aC, iv (0 : Int32), iv (2 : Int32), .val .null, .unset] []
  refine galoadN X2 hx (hb hby dj42_149_33) rfl rfl ?_
  refine giloadN X2 hx (hb hby dj42_149_34) rfl ?_
  refine giloadN X2 hx (hb hby dj42_149_35) rfl ?_
  have lt3 : a < h0.size := Ea.lt
  have lt4 : aC < h0.size := VC.lt
  obtain ⟨_, _, ⟨T5, L5, k5, n5⟩, -, X5, ⟨Lc5, hQ5, l5, y5, z5⟩, st5⟩ := Jvm.LawKit.callS X2 hx (y := mN5) hown (mvT hZ (hwk hw 34 rfl)) (mvT hZ (hwk hw 35 rfl)) (mvT hZ (hwk hw 36 rfl)) (mvT hZ (hwk hw 37 rfl)) (by decide) (backOf (W := 0) (rmCx2 l Z a0 hw [] aC kC c0 c1 h0 n0 Z0 VC hc0 hc1) hZ (hwk hw 37 rfl) (hwk hw 36 rfl) (by decide) (by decide)) (g := (mkF m 36 #[rv a, rv aC, iv (0 : Int32), iv (2 : Int32), .val .null, .unset] [(.int (2 : Int32)), (.int (0 : Int32)), (.ref aC)])) rfl (by rw [hml]; rfl) (argsL := [(.ref aC), (.int (0 : Int32)), (.int (2 : Int32))]) (rest := []) (lenOf pd___CII__B_166f rfl) rfl (by show 2 * 0 + _ ≤ _; exact Nat.le_of_eq rfl) (hb hby dj42_149_36) (fun _ _ => ⟨rfl, e2, (by decide : 0 + 1 ≤ 1), (by decide : 0 + 2 ≤ 2)⟩)
  dsimp only [Pt.U, Pt.locs, Pt.cells, Pt.slots] at X5 l5 y5 z5 st5 hQ5
  subst l5 y5 z5
  obtain ⟨b5, kB5, vs5, rfl, N5q, K5, szq5, loq5, V5⟩ := hQ5
  have KK6 := K0.trans K5 all0
  have ne_a_b5 : a ≠ b5 := Nat.ne_of_lt (Nat.lt_of_lt_of_le lt3 szq5)
  have ne_aC_b5 : aC ≠ b5 := Nat.ne_of_lt (Nat.lt_of_lt_of_le lt4 szq5)
  have sz_b5 : h0.size ≤ b5 := by have := KK6.1; have := szq5; omega
  have Z5 : n0 ≤ T5.heap.size := Nat.le_trans Z0 K5.1
  have N5 := Fr.app N0 N5q
  refine Goes.st st5 ?_
  show Gs p e below _ T5 m 39 #[rv a, rv aC, iv (0 : Int32), iv (2 : Int32), .val .null, .unset] [(.ref b5)]
  refine gastore X5 hx (hb hby dj42_149_39) trivial rfl (l' := #[rv a, rv aC, iv (0 : Int32), iv (2 : Int32), .val .null, rv b5]) rfl ?_
  refine galoadN X5 hx (hb hby dj42_149_41) rfl rfl ?_
  refine gaload X5 hx (hb hby dj42_149_42) rfl rfl ?_
  refine giloadN X5 hx (hb hby dj42_149_44) rfl ?_
  obtain ⟨_, _, ⟨T7, L7, k7, n7⟩, -, X7, ⟨Lc7, hQ7, l7, y7, z7⟩, st7⟩ := Jvm.LawKit.callS X5 hx (y := mN6) hown (mvT hZ (hwk hw 41 rfl)) (mvT hZ (hwk hw 42 rfl)) (mvT hZ (hwk hw 36 rfl)) (mvT hZ (hwk hw 43 rfl)) (by decide) (backOf (W := 1) (rmCl2 l Z a0 hw [] b5 kB5 vs5 T5.heap n0 Z5 V5) hZ (hwk hw 43 rfl) (hwk hw 36 rfl) (by decide) (by decide)) (g := (mkF m 45 #[rv a, rv aC, iv (0 : Int32), iv (2 : Int32), .val .null, rv b5] [(.int (2 : Int32)), (.ref b5), (.ref a)])) rfl (by rw [hml]; rfl) (argsL := [(.ref b5), (.int (2 : Int32))]) (rest := [(.ref a)]) (lenOf pd___BI_B_df7 rfl) rfl (by show 2 * 0 + _ ≤ _; exact Nat.le_of_eq rfl) (hb hby dj42_149_45) (fun _ _ => ⟨rfl, rfl, (by decide : 1 + 0 ≤ 1), (by decide : 2 + 0 ≤ 2)⟩)
  dsimp only [Pt.U, Pt.locs, Pt.cells, Pt.slots] at X7 l7 y7 z7 st7 hQ7
  subst l7 y7 z7
  obtain ⟨rfl, N7q, eh7⟩ := hQ7
  have N7 := Fr.app N5 N7q
  refine Goes.st st7 ?_
  show Gs p e below _ T7 m 48 #[rv a, rv aC, iv (0 : Int32), iv (2 : Int32), .val .null, rv b5] [(.int (0 : Int32)), (.ref a)]
  have f9 := (Fc.keep K5 nin0)
  have f10 := (Ea.keep K5)
  obtain ⟨T8, h8, X8, e8, W8, st8⟩ := putFN X7 hx hZ hown (hwk hw 24 rfl) Via.refl eh7 f9 f10 (Or.inr ⟨(hwk hw 25 rfl), rfl, hnm⟩) (hwk hw 10 rfl) (ty := .byte) (v' := (.int (0 : Int32))) (by decide) rfl (by decide) (g := (mkF m 48 #[rv a, rv aC, iv (0 : Int32), iv (2 : Int32), .val .null, rv b5] [(.int (0 : Int32)), (.ref a)])) rfl rfl (hb hby dj42_149_48)
  have N8 := Fr.snoc X8 N7 ga
  have G8 := f9.same W8
  refine Goes.st st8 ?_
  have KK11 := KK6.wr W8 (Or.inl (List.mem_of_getElem? (i := 0) rfl))
  have Z8 : n0 ≤ h8.size := by have := W8.size; have := Z5; omega
  show Gs p e below _ T8 m 51 #[rv a, rv aC, iv (0 : Int32), iv (2 : Int32), .val .null, rv b5] []
  refine galoadN X8 hx (hb hby dj42_149_51) rfl rfl ?_
  refine gaload X8 hx (hb hby dj42_149_52) rfl rfl ?_
  have f13 := ((Fv.keep K5 nin0).other W8 (Or.inr (slot_ne (Or.inr (hwk hw 23 rfl)) (Or.inr (hwk hw 25 rfl)) (by decide) (t := (.array .byte)) (t' := .byte) (by decide) (by decide))))
  have f14 := (f10.wr W8)
  obtain ⟨T12, h12, X12, e12, W12, st12⟩ := putF X8 hx hZ hown (host := "") (Or.inl (hwk hw 22 rfl)) Via.refl e8 f13 f14 (Or.inr ⟨(hwk hw 23 rfl), rfl, hnm⟩) (hwk hw 10 rfl) (ty := (.array .byte)) (by decide) rfl rfl (g := (mkF m 54 #[rv a, rv aC, iv (0 : Int32), iv (2 : Int32), .val .null, rv b5] [(.ref b5), (.ref a)])) rfl rfl (hb hby dj42_149_54)
  have N12 := Fr.snoc X12 N8 ga
  have G12 := f13.same W12
  refine Goes.st st12 ?_
  have KK15 := KK11.wr W12 (Or.inl (List.mem_of_getElem? (i := 0) rfl))
  have Z12 : n0 ≤ h12.size := by have := W12.size; have := Z8; omega
  show Gs p e below _ T12 m 57 #[rv a, rv aC, iv (0 : Int32), iv (2 : Int32), .val .null, rv b5] []
  refine Goes.retV X12 hx hret (hb hby dj42_149_57) (lvN X12 hlk (fun _ => rfl) ?_ (by decide) (by decide))
  rw [e12]
  exact ⟨rfl, N12, KK15⟩
theorem dj42_3_0 : decode jdk_42_method_3_code 0 = .ok (.aload_n 0, 1) := by decide +kernel
theorem dj42_3_1 : decode jdk_42_method_3_code 1 = .ok (.aload_n 1, 1) := by decide +kernel
theorem dj42_3_2 : decode jdk_42_method_3_code 2 = .ok (.iconst 0, 1) := by decide +kernel
theorem dj42_3_3 : decode jdk_42_method_3_code 3 = .ok (.aload_n 1, 1) := by decide +kernel
theorem dj42_3_4 : decode jdk_42_method_3_code 4 = .ok (.arraylength, 1) := by decide +kernel
theorem dj42_3_5 : decode jdk_42_method_3_code 5 = .ok (.aconst_null, 1) := by decide +kernel
theorem dj42_3_6 : decode jdk_42_method_3_code 6 = .ok (.invokespecial 27, 3) := by decide +kernel
theorem dj42_3_9 : decode jdk_42_method_3_code 9 = .ok (.return_, 1) := by decide +kernel
theorem pd___CIILjava_lang_Void__V_897f : parseMethodDescriptor "([CIILjava/lang/Void;)V" = some ⟨[(.array .char), .int, .int, (.object "java/lang/Void")], none⟩ := by decide +kernel
theorem ef_Ic2 (m : MethodId) (x0 : Addr) (x1 : Addr) : entryFrame m #[(.ref x0), (.ref x1)] 2 = mkF m 0 #[rv x0, rv x1] [] := by first | (simp [entryFrame, mkF, argsToLocals, Value.category]; done) | rfl
def QIc2 (Z : State) (a : Addr) (u0 u1 : Value) (cs : Int32) (aC : Addr) (kC : ClassId) (c0 c1 : Int32) (h0 : Heap) (n0 : Nat) (v : Option Value) (h : Heap) (L : List Loc) : Prop := v = none ∧ Fr n0 L ∧ Keep h0 h [a]
set_option maxRecDepth 65536 in
set_option maxHeartbeats 40000000 in
theorem rmIc2 (l : Launch) (Z : State) (a0 : Array Value) (hw : ∀ d ∈ tables_1, d.before a0 Z = true) (ws : List Jvm.Cond) (a : Addr) (u0 u1 : Value) (cs : Int32) (aC : Addr) (kC : ClassId) (c0 c1 : Int32) (h0 : Heap) (n0 : Nat) (Z0 : n0 ≤ h0.size) (Scs : Sta Z h0 "java/lang/String" "COMPACT_STRINGS" "Z" (.int cs)) (hcs : ¬ cs = (0 : Int32)) (Ea : Exa Z h0 a "java/lang/String") (ga : n0 ≤ a) (Fv : Fld Z h0 a "java/lang/String" "value" "[B" u0) (Fc : Fld Z h0 a "java/lang/String" "coder" "B" u1) (VC : Arv Z h0 aC kC .char (2 : Int32) [(.int c0), (.int c1)] (.int (0 : Int32))) (naC : a ≠ aC) (hc0 : ¬ (255 : Int32) < c0) (hc1 : ¬ (255 : Int32) < c1) :
    MetFree l mN8 (head1 (Jvm.Cond.code mN8 jdk_42_method_3_code 2 none :: ws) ({ frames := 3, cells := 1, slots := 2, locals := 52 } : Room)) (fun aa U => aa = #[(.ref a), (.ref aC)] ∧ Z.Warmed39 U.vm ∧ U.heap = h0) (fun _ _ _ _ _ => True) (fun _ u1_ o_ u2_ => ∃ v_ l_, o_ = .returned v_ ∧ QIc2 Z a u0 u1 cs aC kC c0 c1 h0 n0 v_ u2_.heap l_ ∧ FrameEnd u1_ o_ u2_ l_ ({ frames := 3, cells := 1, slots := 2, locals := 52 } : Room).cells ({ frames := 3, cells := 1, slots := 2, locals := 52 } : Room).slots) := by
  refine MetFree.of_bodySF (plainFor_of_name pn_java_lang_String) hisR ?_
  intro p e s m args below meth c s₁ Bd hml0 hP hK
  obtain ⟨rfl, hZ, hh⟩ := hP
  have hx := Bd.exec
  have hby := Bd.bytes
  have hlk := BodyLoose.notSynchronized Bd
  have hret := Bd.returns
  have hml : c.maxLocals = 2 := hml0
  have hown : s.vm.findClass "java/lang/String" = some m.cls := findClass_of_methodNamed Bd.named
  have hnm := (name_of_methodNamed Bd.named Bd.method).1
  have X0 : Stand p l e ({ frames := 3, cells := 1, slots := 2, locals := 52 } : Room) s m #[(.ref a), (.ref aC)] below meth c s₁ [] 0 0 := Stand.of_body Bd
  have e0 : s₁.heap = h0 := by rw [← hh, Bd.state]; rfl
  have N0 := Fr.nil n0
  refine Goes.st (E := (EN s (QIc2 Z a u0 u1 cs aC kC c0 c1 h0 n0) ({ frames := 3, cells := 1, slots := 2, locals := 52 } : Room).cells ({ frames := 3, cells := 1, slots := 2, locals := 52 } : Room).slots)) (fun tg kg => castTop (ef_Ic2 m a aC) kg) ?_
  have K0 : Keep h0 h0 [a] := Keep.refl _ _
  show Gs p e below _ s₁ m 0 #[rv a, rv aC] []
  refine galoadN X0 hx (hb hby dj42_3_0) rfl rfl ?_
  refine galoadN X0 hx (hb hby dj42_3_1) rfl rfl ?_
  refine giconst X0 hx (hb hby dj42_3_2) ?_
  refine galoadN X0 hx (hb hby dj42_3_3) rfl rfl ?_
  show Gs p e below _ s₁ m 4 #[rv a, rv aC] [(.ref aC), (.int (0 : Int32)), (.ref aC), (.ref a)]
  obtain ⟨cl1, Ar1, qk1, Sz1, qz1, Ha1, Gf1⟩ := id VC
  refine Goes.st (fun tg kg => X0.arraylength hx (cell := cl1) (by rw [e0]; exact Ar1.1) (State.isArrayOf_alike hZ.alike Ar1.2.1) (g := (mkF m 4 #[rv a, rv aC] [(.ref aC), (.int (0 : Int32)), (.ref aC), (.ref a)])) rfl (rest := [(.int (0 : Int32)), (.ref aC), (.ref a)]) rfl (hb hby dj42_3_4) tg kg) ?_
  rw [len_of Sz1 qz1]
  show Gs p e below _ s₁ m 5 #[rv a, rv aC] [(.int (2 : Int32)), (.int (0 : Int32)), (.ref aC), (.ref a)]
  refine Goes.st (fun tg kg => XS.aconstNull X0.here hx rfl (hb hby dj42_3_5) kg) ?_
  obtain ⟨_, _, ⟨T2, L2, k2, n2⟩, -, X2, ⟨Lc2, hQ2, l2, y2, z2⟩, st2⟩ := X0.specialBack hx (y := mN7) rfl hown (mvT hZ (hwk hw 31 rfl)) (mvT hZ (hwk hw 32 rfl)) (mvT hZ (hwk hw 33 rfl)) (by decide) (backOf (W := 0) (rmIv2 l Z a0 hw [] a u0 u1 cs aC kC c0 c1 h0 n0 Z0 Scs hcs Ea ga Fv Fc VC naC hc0 hc1) hZ (hwk hw 33 rfl) (hwk hw 2 rfl) (by decide) (by decide)) (g := (mkF m 6 #[rv a, rv aC] [.null, (.int (2 : Int32)), (.int (0 : Int32)), (.ref aC), (.ref a)])) rfl (by rw [hml]; rfl) (Steps.refl _) (a := a) (argsL := [(.ref aC), (.int (0 : Int32)), (.int (2 : Int32)), .null]) (rest := []) (lenOf pd___CIILjava_lang_Void__V_897f rfl) rfl (by show 2 * 0 + _ ≤ _; exact Nat.le_of_eq rfl) (hb hby dj42_3_6) (fun _ _ => ⟨rfl, e0, (by decide : 0 + 1 ≤ 1), (by decide : 0 + 2 ≤ 2)⟩)
  dsimp only [Pt.U, Pt.locs, Pt.cells, Pt.slots] at X2 l2 y2 z2 st2 hQ2
  subst l2 y2 z2
  obtain ⟨rfl, N2q, K2⟩ := hQ2
  have KK3 := K0.trans K2 (allS (Or.inl (List.mem_of_getElem? (i := 0) rfl)) all0)
  have Z2 : n0 ≤ T2.heap.size := Nat.le_trans Z0 K2.1
  have N2 := Fr.app N0 N2q
  refine Goes.sts st2 ?_
  show Gs p e below _ T2 m 9 #[rv a, rv aC] []
  refine Goes.retV X2 hx hret (hb hby dj42_3_9) (lvN X2 hlk (fun _ => rfl) ?_ (by decide) (by decide))
  exact ⟨rfl, N2, KK3⟩
theorem dj30_1_0 : decode jdk_30_method_1_code 0 = .ok (.aload_n 0, 1) := by decide +kernel
theorem dj30_1_1 : decode jdk_30_method_1_code 1 = .ok (.invokespecial 1, 3) := by decide +kernel
theorem dj30_1_4 : decode jdk_30_method_1_code 4 = .ok (.return_, 1) := by decide +kernel
theorem pn_java_lang_Record : plainName "java/lang/Record" = true := by first | (simp [plainName, overriddenIn]; done) | decide +kernel
theorem ef_Rec (m : MethodId) (x0 : Addr) : entryFrame m #[(.ref x0)] 1 = mkF m 0 #[rv x0] [] := by first | (simp [entryFrame, mkF, argsToLocals, Value.category]; done) | rfl
def QRec (Z : State) (a : Addr) (h0 : Heap) (n0 : Nat) (v : Option Value) (h : Heap) (L : List Loc) : Prop := v = none ∧ Fr n0 L ∧ h = h0
set_option maxRecDepth 65536 in
set_option maxHeartbeats 40000000 in
theorem rmRec (l : Launch) (Z : State) (a0 : Array Value) (hw : ∀ d ∈ tables_1, d.before a0 Z = true) (ws : List Jvm.Cond) (a : Addr) (h0 : Heap) (n0 : Nat) (Z0 : n0 ≤ h0.size)  :
    MetFree l mN9 (head1 (Jvm.Cond.code mN9 jdk_30_method_1_code 1 none :: ws) ({ frames := 1, cells := 0, slots := 0, locals := 12 } : Room)) (fun aa U => aa = #[(.ref a)] ∧ Z.Warmed39 U.vm ∧ U.heap = h0) (fun _ _ _ _ _ => True) (fun _ u1_ o_ u2_ => ∃ v_ l_, o_ = .returned v_ ∧ QRec Z a h0 n0 v_ u2_.heap l_ ∧ FrameEnd u1_ o_ u2_ l_ ({ frames := 1, cells := 0, slots := 0, locals := 12 } : Room).cells ({ frames := 1, cells := 0, slots := 0, locals := 12 } : Room).slots) := by
  refine MetFree.of_bodySF (plainFor_of_name pn_java_lang_Record) hisR ?_
  intro p e s m args below meth c s₁ Bd hml0 hP hK
  obtain ⟨rfl, hZ, hh⟩ := hP
  have hx := Bd.exec
  have hby := Bd.bytes
  have hlk := BodyLoose.notSynchronized Bd
  have hret := Bd.returns
  have hml : c.maxLocals = 1 := hml0
  have hown : s.vm.findClass "java/lang/Record" = some m.cls := findClass_of_methodNamed Bd.named
  have hnm := (name_of_methodNamed Bd.named Bd.method).1
  have X0 : Stand p l e ({ frames := 1, cells := 0, slots := 0, locals := 12 } : Room) s m #[(.ref a)] below meth c s₁ [] 0 0 := Stand.of_body Bd
  have e0 : s₁.heap = h0 := by rw [← hh, Bd.state]; rfl
  have N0 := Fr.nil n0
  refine Goes.st (E := (EN s (QRec Z a h0 n0) ({ frames := 1, cells := 0, slots := 0, locals := 12 } : Room).cells ({ frames := 1, cells := 0, slots := 0, locals := 12 } : Room).slots)) (fun tg kg => castTop (ef_Rec m a) kg) ?_
  show Gs p e below _ s₁ m 0 #[rv a] []
  refine galoadN X0 hx (hb hby dj30_1_0) rfl rfl ?_
  obtain ⟨T1, X1, e1, st1⟩ := initO X0 hx hZ hown (hwk hw 55 rfl) (hwk hw 20 rfl) (hwk hw 21 rfl) e0 (g := (mkF m 1 #[rv a] [(.ref a)])) rfl (by rw [hml]; rfl) rfl (hb hby dj30_1_1) (by decide) (W := 0) (by show 2 * 0 + _ ≤ _; exact Nat.le_of_eq rfl) (by decide)
  refine Goes.st st1 ?_
  show Gs p e below _ T1 m 4 #[rv a] []
  refine Goes.retV X1 hx hret (hb hby dj30_1_4) (lvN X1 hlk (fun _ => rfl) ?_ (by decide) (by decide))
  rw [e1]
  exact ⟨rfl, N0, rfl⟩
theorem dj31_11_0 : decode jdk_31_method_11_code 0 = .ok (.aload_n 0, 1) := by decide +kernel
theorem dj31_11_1 : decode jdk_31_method_11_code 1 = .ok (.ifnonnull 12, 3) := by decide +kernel
theorem dj31_11_4 : decode jdk_31_method_11_code 4 = .ok (.new 84, 3) := by decide +kernel
theorem dj31_11_7 : decode jdk_31_method_11_code 7 = .ok (.dup, 1) := by decide +kernel
theorem dj31_11_8 : decode jdk_31_method_11_code 8 = .ok (.aload_n 1, 1) := by decide +kernel
theorem dj31_11_9 : decode jdk_31_method_11_code 9 = .ok (.invokespecial 87, 3) := by decide +kernel
theorem dj31_11_12 : decode jdk_31_method_11_code 12 = .ok (.athrow, 1) := by decide +kernel
theorem dj31_11_13 : decode jdk_31_method_11_code 13 = .ok (.aload_n 0, 1) := by decide +kernel
theorem dj31_11_14 : decode jdk_31_method_11_code 14 = .ok (.areturn, 1) := by decide +kernel
theorem pn_java_util_Objects : plainName "java/util/Objects" = true := by first | (simp [plainName, overriddenIn]; done) | decide +kernel
theorem ef_Nn (m : MethodId) (x0 : Addr) (x1 : Addr) : entryFrame m #[(.ref x0), (.ref x1)] 2 = mkF m 0 #[rv x0, rv x1] [] := by first | (simp [entryFrame, mkF, argsToLocals, Value.category]; done) | rfl
def QNn (Z : State) (r rm : Addr) (h0 : Heap) (n0 : Nat) (v : Option Value) (h : Heap) (L : List Loc) : Prop := v = some (.ref r) ∧ Fr n0 L ∧ h = h0
set_option maxRecDepth 65536 in
set_option maxHeartbeats 40000000 in
theorem rmNn (l : Launch) (Z : State) (a0 : Array Value) (hw : ∀ d ∈ tables_1, d.before a0 Z = true) (ws : List Jvm.Cond) (r rm : Addr) (h0 : Heap) (n0 : Nat) (Z0 : n0 ≤ h0.size)  :
    MetFree l mN10 (head1 (Jvm.Cond.code mN10 jdk_31_method_11_code 2 (some (.object "java/lang/Object")) :: ws) ({ frames := 0, cells := 0, slots := 0, locals := 0 } : Room)) (fun aa U => aa = #[(.ref r), (.ref rm)] ∧ Z.Warmed39 U.vm ∧ U.heap = h0) (fun _ _ _ _ _ => True) (fun _ u1_ o_ u2_ => ∃ v_ l_, o_ = .returned v_ ∧ QNn Z r rm h0 n0 v_ u2_.heap l_ ∧ FrameEnd u1_ o_ u2_ l_ ({ frames := 0, cells := 0, slots := 0, locals := 0 } : Room).cells ({ frames := 0, cells := 0, slots := 0, locals := 0 } : Room).slots) := by
  refine MetFree.of_bodySF (plainFor_of_name pn_java_util_Objects) hisR ?_
  intro p e s m args below meth c s₁ Bd hml0 hP hK
  obtain ⟨rfl, hZ, hh⟩ := hP
  have hx := Bd.exec
  have hby := Bd.bytes
  have hlk := BodyLoose.notSynchronized Bd
  have hret := Bd.returns
  have hml : c.maxLocals = 2 := hml0
  have hown : s.vm.findClass "java/util/Objects" = some m.cls := findClass_of_methodNamed Bd.named
  have hnm := (name_of_methodNamed Bd.named Bd.method).1
  have X0 : Stand p l e ({ frames := 0, cells := 0, slots := 0, locals := 0 } : Room) s m #[(.ref r), (.ref rm)] below meth c s₁ [] 0 0 := Stand.of_body Bd
  have e0 : s₁.heap = h0 := by rw [← hh, Bd.state]; rfl
  have N0 := Fr.nil n0
  refine Goes.st (E := (EN s (QNn Z r rm h0 n0) ({ frames := 0, cells := 0, slots := 0, locals := 0 } : Room).cells ({ frames := 0, cells := 0, slots := 0, locals := 0 } : Room).slots)) (fun tg kg => castTop (ef_Nn m r rm) kg) ?_
  show Gs p e below _ s₁ m 0 #[rv r, rv rm] []
  refine galoadN X0 hx (hb hby dj31_11_0) rfl rfl ?_
  show Gs p e below _ s₁ m 1 #[rv r, rv rm] [(.ref r)]
  refine Goes.st (fun tg kg => XT.ifnonnullYes X0.here hx rfl (pc0 := 1) (pc' := 13) rfl (hb hby dj31_11_1) rfl (by decide) (by decide) kg) ?_
  show Gs p e below _ s₁ m 13 #[rv r, rv rm] []
  refine galoadN X0 hx (hb hby dj31_11_13) rfl rfl ?_
  show Gs p e below _ s₁ m 14 #[rv r, rv rm] [(.ref r)]
  refine Goes.retA X0 hx hret rfl rfl rfl (hb hby dj31_11_14) (lvN X0 hlk (vsome hret) ?_ (by decide) (by decide))
  rw [e0]
  exact ⟨rfl, N0, rfl⟩
theorem dp22_1_0 : decode prog_22_method_1_code 0 = .ok (.aload_n 0, 1) := by decide +kernel
theorem dp22_1_1 : decode prog_22_method_1_code 1 = .ok (.invokespecial 1, 3) := by decide +kernel
theorem dp22_1_4 : decode prog_22_method_1_code 4 = .ok (.aload_n 2, 1) := by decide +kernel
theorem dp22_1_5 : decode prog_22_method_1_code 5 = .ok (.ldc 7, 2) := by decide +kernel
theorem dp22_1_7 : decode prog_22_method_1_code 7 = .ok (.invokestatic 9, 3) := by decide +kernel
theorem dp22_1_10 : decode prog_22_method_1_code 10 = .ok (.pop, 1) := by decide +kernel
theorem dp22_1_11 : decode prog_22_method_1_code 11 = .ok (.aload_n 3, 1) := by decide +kernel
theorem dp22_1_12 : decode prog_22_method_1_code 12 = .ok (.ldc 15, 2) := by decide +kernel
theorem dp22_1_14 : decode prog_22_method_1_code 14 = .ok (.invokestatic 9, 3) := by decide +kernel
theorem dp22_1_17 : decode prog_22_method_1_code 17 = .ok (.pop, 1) := by decide +kernel
theorem dp22_1_18 : decode prog_22_method_1_code 18 = .ok (.aload_n 0, 1) := by decide +kernel
theorem dp22_1_19 : decode prog_22_method_1_code 19 = .ok (.iload_n 1, 1) := by decide +kernel
theorem dp22_1_20 : decode prog_22_method_1_code 20 = .ok (.putfield 17, 3) := by decide +kernel
theorem dp22_1_23 : decode prog_22_method_1_code 23 = .ok (.aload_n 0, 1) := by decide +kernel
theorem dp22_1_24 : decode prog_22_method_1_code 24 = .ok (.aload_n 2, 1) := by decide +kernel
theorem dp22_1_25 : decode prog_22_method_1_code 25 = .ok (.putfield 23, 3) := by decide +kernel
theorem dp22_1_28 : decode prog_22_method_1_code 28 = .ok (.aload_n 0, 1) := by decide +kernel
theorem dp22_1_29 : decode prog_22_method_1_code 29 = .ok (.aload_n 3, 1) := by decide +kernel
theorem dp22_1_30 : decode prog_22_method_1_code 30 = .ok (.putfield 26, 3) := by decide +kernel
theorem dp22_1_33 : decode prog_22_method_1_code 33 = .ok (.return_, 1) := by decide +kernel
theorem pn_com_example_lean_renewal_leanrenewal_service_EarlyAdopterOffer : plainName "com/example/lean_renewal/leanrenewal/service/EarlyAdopterOffer" = true := by first | (simp [plainName, overriddenIn]; done) | decide +kernel
theorem pd___V_566 : parseMethodDescriptor "()V" = some ⟨[], none⟩ := by decide +kernel
theorem pd__Ljava_lang_Object_Ljava_lang_String__Ljava_lang_Object__b345 : parseMethodDescriptor "(Ljava/lang/Object;Ljava/lang/String;)Ljava/lang/Object;" = some ⟨[(.object "java/lang/Object"), (.object "java/lang/String")], some (.object "java/lang/Object")⟩ := by decide +kernel
theorem ef_C (m : MethodId) (x0 : Addr) (x1 : Int32) (x2 : Addr) (x3 : Addr) : entryFrame m #[(.ref x0), (.int x1), (.ref x2), (.ref x3)] 4 = mkF m 0 #[rv x0, iv x1, rv x2, rv x3] [] := by first | (simp [entryFrame, mkF, argsToLocals, Value.category]; done) | rfl
def QC (Z : State) (a : Addr) (lim : Int32) (ri rs : Addr) (u0 u1 u2 : Value) (h0 : Heap) (n0 : Nat) (v : Option Value) (h : Heap) (L : List Loc) : Prop := v = none ∧ Fr n0 L ∧ Keep h0 h [a] ∧ Fld Z h a "com/example/lean_renewal/leanrenewal/service/EarlyAdopterOffer" "limit" "I" (.int lim) ∧ Fld Z h a "com/example/lean_renewal/leanrenewal/service/EarlyAdopterOffer" "introProductId" "Ljava/lang/String;" (.ref ri) ∧ Fld Z h a "com/example/lean_renewal/leanrenewal/service/EarlyAdopterOffer" "standardProductId" "Ljava/lang/String;" (.ref rs)
set_option maxRecDepth 65536 in
set_option maxHeartbeats 40000000 in
theorem rmC (l : Launch) (Z : State) (a0 : Array Value) (hw : ∀ d ∈ tables_1, d.before a0 Z = true) (ws : List Jvm.Cond) (a : Addr) (lim : Int32) (ri rs : Addr) (u0 u1 u2 : Value) (h0 : Heap) (n0 : Nat) (Z0 : n0 ≤ h0.size) (Ea : Exa Z h0 a "com/example/lean_renewal/leanrenewal/service/EarlyAdopterOffer") (ga : n0 ≤ a) (Flimit : Fld Z h0 a "com/example/lean_renewal/leanrenewal/service/EarlyAdopterOffer" "limit" "I" u0) (FintroProductId : Fld Z h0 a "com/example/lean_renewal/leanrenewal/service/EarlyAdopterOffer" "introProductId" "Ljava/lang/String;" u1) (FstandardProductId : Fld Z h0 a "com/example/lean_renewal/leanrenewal/service/EarlyAdopterOffer" "standardProductId" "Ljava/lang/String;" u2) :
    MetFree l mN11 (head1 (Jvm.Cond.code mN11 prog_22_method_1_code 4 none :: ws) ({ frames := 2, cells := 4, slots := 132, locals := 24 } : Room)) (fun aa U => aa = #[(.ref a), (.int lim), (.ref ri), (.ref rs)] ∧ Z.Warmed39 U.vm ∧ U.heap = h0) (fun _ _ _ _ _ => True) (fun _ u1_ o_ u2_ => ∃ v_ l_, o_ = .returned v_ ∧ QC Z a lim ri rs u0 u1 u2 h0 n0 v_ u2_.heap l_ ∧ ReturnedEndW u1_ o_ u2_ l_ ({ frames := 2, cells := 4, slots := 132, locals := 24 } : Room).cells ({ frames := 2, cells := 4, slots := 132, locals := 24 } : Room).slots) := by
  refine MetFree.of_bodySF (plainFor_of_name pn_com_example_lean_renewal_leanrenewal_service_EarlyAdopterOffer) hisR ?_
  intro p e s m args below meth c s₁ Bd hml0 hP hK
  obtain ⟨rfl, hZ, hh⟩ := hP
  have hx := Bd.exec
  have hby := Bd.bytes
  have hlk := BodyLoose.notSynchronized Bd
  have hret := Bd.returns
  have hml : c.maxLocals = 4 := hml0
  have hown : s.vm.findClass "com/example/lean_renewal/leanrenewal/service/EarlyAdopterOffer" = some m.cls := findClass_of_methodNamed Bd.named
  have hnm := (name_of_methodNamed Bd.named Bd.method).1
  have X0 : Stand p l e ({ frames := 2, cells := 4, slots := 132, locals := 24 } : Room) (s.setVm s.vm) m #[(.ref a), (.int lim), (.ref ri), (.ref rs)] below meth c s₁ [] 0 0 := Stand.of_body Bd
  have hS := (State.WarmedH.refl s).since 0
  have hk : 0 ≤ h0.size := Nat.zero_le _
  have e0 : s₁.heap = h0 := by rw [← hh, Bd.state]; rfl
  have N0 := Fr.nil n0
  refine Goes.st (E := (EV s (QC Z a lim ri rs u0 u1 u2 h0 n0) ({ frames := 2, cells := 4, slots := 132, locals := 24 } : Room).cells ({ frames := 2, cells := 4, slots := 132, locals := 24 } : Room).slots)) (fun tg kg => castTop (ef_C m a lim ri rs) kg) ?_
  have K0 : Keep h0 h0 [a] := Keep.refl _ _
  show Gs p e below _ s₁ m 0 #[rv a, iv lim, rv ri, rv rs] []
  refine galoadN X0 hx (hb hby dp22_1_0) rfl rfl ?_
  obtain ⟨_, _, ⟨T1, L1, k1, n1⟩, -, X1, ⟨Lc1, hQ1, l1, y1, z1⟩, st1⟩ := X0.specialBack hx (y := mN9) rfl hown (mvT hZ (hwk hw 50 rfl)) (mvT hZ (hwk hw 51 rfl)) (mvT hZ (hwk hw 54 rfl)) (by decide) (backOf (W := 0) (rmRec l Z a0 hw [] a h0 n0 Z0 ) hZ (hwk hw 54 rfl) (hwk hw 53 rfl) (by decide) (by decide)) (g := (mkF m 1 #[rv a, iv lim, rv ri, rv rs] [(.ref a)])) rfl (by rw [hml]; rfl) (Steps.refl _) (a := a) (argsL := []) (rest := []) (lenOf pd___V_566 rfl) rfl (by show 2 * 0 + _ ≤ _; exact Nat.le_of_eq rfl) (hb hby dp22_1_1) (fun _ _ => ⟨rfl, e0, (by decide : 0 + 0 ≤ 4), (by decide : 0 + 0 ≤ 132)⟩)
  dsimp only [Pt.U, Pt.locs, Pt.cells, Pt.slots] at X1 l1 y1 z1 st1 hQ1
  subst l1 y1 z1
  obtain ⟨rfl, N1q, eh1⟩ := hQ1
  have N1 := Fr.app N0 N1q
  refine Goes.sts st1 ?_
  show Gs p e below _ T1 m 4 #[rv a, iv lim, rv ri, rv rs] []
  refine galoadN X1 hx (hb hby dp22_1_4) rfl rfl ?_
  show Gs p e below _ T1 m 5 #[rv a, iv lim, rv ri, rv rs] [(.ref ri)]
  obtain ⟨b2, T2, h2, kk2, X2, e2, E2, hS, hk, hZ, hown, st2⟩ := ldcS X1 hx hZ hown (hwk hw 56 rfl) (strW (hwk hw 2 rfl) (hwk hw 10 rfl) (hwk hw 14 rfl) (hwk hw 23 rfl) (hwk hw 25 rfl) (hwk hw 57 rfl) (hwk hw 58 rfl)) eh1 hS hk (g := (mkF m 5 #[rv a, iv lim, rv ri, rv rs] [(.ref ri)])) rfl (hb hby dp22_1_5) (n := 56) (by decide) (by decide) (by decide) (by decide)
  refine Goes.st st2 ?_
  have KK3 := K0.ext E2
  have Z2 : n0 ≤ h2.size := Nat.le_trans Z0 E2.1
  show Gs p e below _ T2 m 7 #[rv a, iv lim, rv ri, rv rs] [(.ref b2), (.ref ri)]
  obtain ⟨_, _, ⟨T4, L4, k4, n4⟩, -, X4, ⟨Lc4, hQ4, l4, y4, z4⟩, st4⟩ := Jvm.LawKit.callS X2 hx (y := mN10) hown (mvT hZ (hwk hw 59 rfl)) (mvT hZ (hwk hw 60 rfl)) (mvT hZ (hwk hw 61 rfl)) (mvT hZ (hwk hw 62 rfl)) (by decide) (backOf (W := 0) (rmNn l Z a0 hw [] ri b2 h2 n0 Z2 ) hZ (hwk hw 62 rfl) (hwk hw 61 rfl) (by decide) (by decide)) (g := (mkF m 7 #[rv a, iv lim, rv ri, rv rs] [(.ref b2), (.ref ri)])) rfl (by rw [hml]; rfl) (argsL := [(.ref ri), (.ref b2)]) (rest := []) (lenOf pd__Ljava_lang_Object_Ljava_lang_String__Ljava_lang_Object__b345 rfl) rfl (by show 2 * 0 + _ ≤ _; exact Nat.le_of_eq rfl) (hb hby dp22_1_7) (fun _ _ => ⟨rfl, e2, (by decide : 2 + 0 ≤ 4), (by decide : 60 + 0 ≤ 132)⟩)
  dsimp only [Pt.U, Pt.locs, Pt.cells, Pt.slots] at X4 l4 y4 z4 st4 hQ4
  subst l4 y4 z4
  obtain ⟨rfl, N4q, eh4⟩ := hQ4
  have N4 := Fr.app N1 N4q
  refine Goes.st st4 ?_
  show Gs p e below _ T4 m 10 #[rv a, iv lim, rv ri, rv rs] [(.ref ri)]
  refine Goes.st (fun tg kg => XT.pop X4.here hx rfl (hb hby dp22_1_10) rfl rfl kg) ?_
  show Gs p e below _ T4 m 11 #[rv a, iv lim, rv ri, rv rs] []
  refine galoadN X4 hx (hb hby dp22_1_11) rfl rfl ?_
  show Gs p e below _ T4 m 12 #[rv a, iv lim, rv ri, rv rs] [(.ref rs)]
  obtain ⟨b5, T5, h5, kk5, X5, e5, E5, hS, hk, hZ, hown, st5⟩ := ldcS X4 hx hZ hown (hwk hw 63 rfl) (strW (hwk hw 2 rfl) (hwk hw 10 rfl) (hwk hw 14 rfl) (hwk hw 23 rfl) (hwk hw 25 rfl) (hwk hw 57 rfl) (hwk hw 58 rfl)) eh4 hS hk (g := (mkF m 12 #[rv a, iv lim, rv ri, rv rs] [(.ref rs)])) rfl (hb hby dp22_1_12) (n := 68) (by decide) (by decide) (by decide) (by decide)
  refine Goes.st st5 ?_
  have KK6 := KK3.ext E5
  have Z5 : n0 ≤ h5.size := Nat.le_trans Z2 E5.1
  show Gs p e below _ T5 m 14 #[rv a, iv lim, rv ri, rv rs] [(.ref b5), (.ref rs)]
  obtain ⟨_, _, ⟨T7, L7, k7, n7⟩, -, X7, ⟨Lc7, hQ7, l7, y7, z7⟩, st7⟩ := Jvm.LawKit.callS X5 hx (y := mN10) hown (mvT hZ (hwk hw 59 rfl)) (mvT hZ (hwk hw 60 rfl)) (mvT hZ (hwk hw 61 rfl)) (mvT hZ (hwk hw 62 rfl)) (by decide) (backOf (W := 0) (rmNn l Z a0 hw [] rs b5 h5 n0 Z5 ) hZ (hwk hw 62 rfl) (hwk hw 61 rfl) (by decide) (by decide)) (g := (mkF m 14 #[rv a, iv lim, rv ri, rv rs] [(.ref b5), (.ref rs)])) rfl (by rw [hml]; rfl) (argsL := [(.ref rs), (.ref b5)]) (rest := []) (lenOf pd__Ljava_lang_Object_Ljava_lang_String__Ljava_lang_Object__b345 rfl) rfl (by show 2 * 0 + _ ≤ _; exact Nat.le_of_eq rfl) (hb hby dp22_1_14) (fun _ _ => ⟨rfl, e5, (by decide : 4 + 0 ≤ 4), (by decide : 132 + 0 ≤ 132)⟩)
  dsimp only [Pt.U, Pt.locs, Pt.cells, Pt.slots] at X7 l7 y7 z7 st7 hQ7
  subst l7 y7 z7
  obtain ⟨rfl, N7q, eh7⟩ := hQ7
  have N7 := Fr.app N4 N7q
  refine Goes.st st7 ?_
  show Gs p e below _ T7 m 17 #[rv a, iv lim, rv ri, rv rs] [(.ref rs)]
  refine Goes.st (fun tg kg => XT.pop X7.here hx rfl (hb hby dp22_1_17) rfl rfl kg) ?_
  show Gs p e below _ T7 m 18 #[rv a, iv lim, rv ri, rv rs] []
  refine galoadN X7 hx (hb hby dp22_1_18) rfl rfl ?_
  refine giloadN X7 hx (hb hby dp22_1_19) rfl ?_
  have f9 := ((Flimit.ext E2).ext E5)
  have f10 := ((Ea.ext E2).ext E5)
  obtain ⟨T8, h8, X8, e8, W8, st8⟩ := putF X7 hx hZ hown (host := "") (Or.inl (hwk hw 64 rfl)) Via.refl eh7 f9 f10 (Or.inr ⟨(hwk hw 65 rfl), rfl, hnm⟩) (hwk hw 45 rfl) (ty := .int) (by decide) rfl rfl (g := (mkF m 20 #[rv a, iv lim, rv ri, rv rs] [(.int lim), (.ref a)])) rfl rfl (hb hby dp22_1_20)
  have N8 := Fr.snoc X8 N7 ga
  have G8 := f9.same W8
  refine Goes.st st8 ?_
  have hk := Nat.le_trans hk (Nat.le_of_eq W8.size.symm)
  have KK11 := KK6.wr W8 (Or.inl (List.mem_of_getElem? (i := 0) rfl))
  have Z8 : n0 ≤ h8.size := by have := W8.size; have := Z5; omega
  show Gs p e below _ T8 m 23 #[rv a, iv lim, rv ri, rv rs] []
  refine galoadN X8 hx (hb hby dp22_1_23) rfl rfl ?_
  refine galoadN X8 hx (hb hby dp22_1_24) rfl rfl ?_
  have f13 := (((FintroProductId.ext E2).ext E5).other W8 (Or.inr (slot_ne (Or.inr (hwk hw 67 rfl)) (Or.inr (hwk hw 65 rfl)) (by decide) (t := (.object "java/lang/String")) (t' := .int) (by decide) (by decide))))
  have f14 := (f10.wr W8)
  obtain ⟨T12, h12, X12, e12, W12, st12⟩ := putF X8 hx hZ hown (host := "") (Or.inl (hwk hw 66 rfl)) Via.refl e8 f13 f14 (Or.inr ⟨(hwk hw 67 rfl), rfl, hnm⟩) (hwk hw 45 rfl) (ty := (.object "java/lang/String")) (by decide) rfl rfl (g := (mkF m 25 #[rv a, iv lim, rv ri, rv rs] [(.ref ri), (.ref a)])) rfl rfl (hb hby dp22_1_25)
  have N12 := Fr.snoc X12 N8 ga
  have G12 := f13.same W12
  refine Goes.st st12 ?_
  have hk := Nat.le_trans hk (Nat.le_of_eq W12.size.symm)
  have KK15 := KK11.wr W12 (Or.inl (List.mem_of_getElem? (i := 0) rfl))
  have Z12 : n0 ≤ h12.size := by have := W12.size; have := Z8; omega
  show Gs p e below _ T12 m 28 #[rv a, iv lim, rv ri, rv rs] []
  refine galoadN X12 hx (hb hby dp22_1_28) rfl rfl ?_
  refine galoadN X12 hx (hb hby dp22_1_29) rfl rfl ?_
  have f17 := ((((FstandardProductId.ext E2).ext E5).other W8 (Or.inr (slot_ne (Or.inr (hwk hw 69 rfl)) (Or.inr (hwk hw 65 rfl)) (by decide) (t := (.object "java/lang/String")) (t' := .int) (by decide) (by decide)))).other W12 (Or.inr (slot_ne (Or.inr (hwk hw 69 rfl)) (Or.inr (hwk hw 67 rfl)) (by decide) (t := (.object "java/lang/String")) (t' := (.object "java/lang/String")) (by decide) (by decide))))
  have f18 := (f14.wr W12)
  obtain ⟨T16, h16, X16, e16, W16, st16⟩ := putF X12 hx hZ hown (host := "") (Or.inl (hwk hw 68 rfl)) Via.refl e12 f17 f18 (Or.inr ⟨(hwk hw 69 rfl), rfl, hnm⟩) (hwk hw 45 rfl) (ty := (.object "java/lang/String")) (by decide) rfl rfl (g := (mkF m 30 #[rv a, iv lim, rv ri, rv rs] [(.ref rs), (.ref a)])) rfl rfl (hb hby dp22_1_30)
  have N16 := Fr.snoc X16 N12 ga
  have G16 := f17.same W16
  refine Goes.st st16 ?_
  have hk := Nat.le_trans hk (Nat.le_of_eq W16.size.symm)
  have KK19 := KK15.wr W16 (Or.inl (List.mem_of_getElem? (i := 0) rfl))
  have Z16 : n0 ≤ h16.size := by have := W16.size; have := Z12; omega
  show Gs p e below _ T16 m 33 #[rv a, iv lim, rv ri, rv rs] []
  have f20 := ((G8.other W12 (Or.inr (slot_ne (Or.inr (hwk hw 65 rfl)) (Or.inr (hwk hw 67 rfl)) (by decide) (t := .int) (t' := (.object "java/lang/String")) (by decide) (by decide)))).other W16 (Or.inr (slot_ne (Or.inr (hwk hw 65 rfl)) (Or.inr (hwk hw 69 rfl)) (by decide) (t := .int) (t' := (.object "java/lang/String")) (by decide) (by decide))))
  have f21 := (G12.other W16 (Or.inr (slot_ne (Or.inr (hwk hw 67 rfl)) (Or.inr (hwk hw 69 rfl)) (by decide) (t := (.object "java/lang/String")) (t' := (.object "java/lang/String")) (by decide) (by decide))))
  refine Goes.retV X16 hx hret (hb hby dp22_1_33) (lvV X16 hlk hS (by rw [e16]; exact hk) (fun _ => rfl) ?_ (by decide) (by decide))
  rw [e16]
  exact ⟨rfl, N16, KK19, f20, f21, G16⟩
theorem dp22_2_0 : decode prog_22_method_2_code 0 = .ok (.lload_n 1, 1) := by decide +kernel
theorem dp22_2_1 : decode prog_22_method_2_code 1 = .ok (.aload_n 0, 1) := by decide +kernel
theorem dp22_2_2 : decode prog_22_method_2_code 2 = .ok (.getfield 17, 3) := by decide +kernel
theorem dp22_2_5 : decode prog_22_method_2_code 5 = .ok (.i2l, 1) := by decide +kernel
theorem dp22_2_6 : decode prog_22_method_2_code 6 = .ok (.lcmp, 1) := by decide +kernel
theorem dp22_2_7 : decode prog_22_method_2_code 7 = .ok (.ifCond .ge 10, 3) := by decide +kernel
theorem dp22_2_10 : decode prog_22_method_2_code 10 = .ok (.aload_n 0, 1) := by decide +kernel
theorem dp22_2_11 : decode prog_22_method_2_code 11 = .ok (.getfield 23, 3) := by decide +kernel
theorem dp22_2_14 : decode prog_22_method_2_code 14 = .ok (.goto 7, 3) := by decide +kernel
theorem dp22_2_17 : decode prog_22_method_2_code 17 = .ok (.aload_n 0, 1) := by decide +kernel
theorem dp22_2_18 : decode prog_22_method_2_code 18 = .ok (.getfield 26, 3) := by decide +kernel
theorem dp22_2_21 : decode prog_22_method_2_code 21 = .ok (.areturn, 1) := by decide +kernel
theorem ef_Pa (m : MethodId) (x0 : Addr) (x1 : Int64) : entryFrame m #[(.ref x0), (.long x1)] 3 = mkF m 0 #[rv x0, .val (.long x1), .second] [] := by first | (simp [entryFrame, mkF, argsToLocals, Value.category]; done) | rfl
def QPa (Z : State) (a : Addr) (pn : Int64) (lim : Int32) (ri rs : Addr) (h0 : Heap) (n0 : Nat) (v : Option Value) (h : Heap) (L : List Loc) : Prop := v = some (.ref ri) ∧ Fr n0 L ∧ h = h0
set_option maxRecDepth 65536 in
set_option maxHeartbeats 40000000 in
theorem rmPa (l : Launch) (Z : State) (a0 : Array Value) (hw : ∀ d ∈ tables_1, d.before a0 Z = true) (ws : List Jvm.Cond) (a : Addr) (pn : Int64) (lim : Int32) (ri rs : Addr) (h0 : Heap) (n0 : Nat) (Z0 : n0 ≤ h0.size) (Flimit : Fld Z h0 a "com/example/lean_renewal/leanrenewal/service/EarlyAdopterOffer" "limit" "I" (.int lim)) (FintroProductId : Fld Z h0 a "com/example/lean_renewal/leanrenewal/service/EarlyAdopterOffer" "introProductId" "Ljava/lang/String;" (.ref ri)) (FstandardProductId : Fld Z h0 a "com/example/lean_renewal/leanrenewal/service/EarlyAdopterOffer" "standardProductId" "Ljava/lang/String;" (.ref rs)) (hp : pn < lim.toInt64) :
    MetFree l mN12 (head1 (Jvm.Cond.code mN12 prog_22_method_2_code 3 (some (.object "java/lang/String")) :: ws) ({ frames := 0, cells := 0, slots := 0, locals := 0 } : Room)) (fun aa U => aa = #[(.ref a), (.long pn)] ∧ Z.Warmed39 U.vm ∧ U.heap = h0) (fun _ _ _ _ _ => True) (fun _ u1_ o_ u2_ => ∃ v_ l_, o_ = .returned v_ ∧ QPa Z a pn lim ri rs h0 n0 v_ u2_.heap l_ ∧ FrameEnd u1_ o_ u2_ l_ ({ frames := 0, cells := 0, slots := 0, locals := 0 } : Room).cells ({ frames := 0, cells := 0, slots := 0, locals := 0 } : Room).slots) := by
  refine MetFree.of_bodySF (plainFor_of_name pn_com_example_lean_renewal_leanrenewal_service_EarlyAdopterOffer) hisR ?_
  intro p e s m args below meth c s₁ Bd hml0 hP hK
  obtain ⟨rfl, hZ, hh⟩ := hP
  have hx := Bd.exec
  have hby := Bd.bytes
  have hlk := BodyLoose.notSynchronized Bd
  have hret := Bd.returns
  have hml : c.maxLocals = 3 := hml0
  have hown : s.vm.findClass "com/example/lean_renewal/leanrenewal/service/EarlyAdopterOffer" = some m.cls := findClass_of_methodNamed Bd.named
  have hnm := (name_of_methodNamed Bd.named Bd.method).1
  have X0 : Stand p l e ({ frames := 0, cells := 0, slots := 0, locals := 0 } : Room) s m #[(.ref a), (.long pn)] below meth c s₁ [] 0 0 := Stand.of_body Bd
  have e0 : s₁.heap = h0 := by rw [← hh, Bd.state]; rfl
  have N0 := Fr.nil n0
  refine Goes.st (E := (EN s (QPa Z a pn lim ri rs h0 n0) ({ frames := 0, cells := 0, slots := 0, locals := 0 } : Room).cells ({ frames := 0, cells := 0, slots := 0, locals := 0 } : Room).slots)) (fun tg kg => castTop (ef_Pa m a pn) kg) ?_
  show Gs p e below _ s₁ m 0 #[rv a, .val (.long pn), .second] []
  refine glloadN X0 hx (hb hby dp22_2_0) rfl ?_
  refine galoadN X0 hx (hb hby dp22_2_1) rfl rfl ?_
  obtain ⟨T1, X1, e1, st1⟩ := getF X0 hx hZ hown (host := "") (Or.inl (hwk hw 64 rfl)) Via.refl e0 Flimit (g := (mkF m 2 #[rv a, .val (.long pn), .second] [(.ref a), (.long pn)])) rfl rfl (hb hby dp22_2_2)
  refine Goes.st st1 ?_
  refine Goes.st (fun tg kg => XT.i2l X1.here hx rfl (hb hby dp22_2_5) rfl kg) ?_
  refine Goes.st (fun tg kg => XT.lcmp X1.here hx rfl (hb hby dp22_2_6) rfl kg) ?_
  show Gs p e below _ T1 m 7 #[rv a, .val (.long pn), .second] [(.int (XT.cmpL pn (lim).toInt64))]
  refine gifNo X1 hx (hb hby dp22_2_7) (XT.ll_ge_f hp) ?_
  show Gs p e below _ T1 m 10 #[rv a, .val (.long pn), .second] []
  refine galoadN X1 hx (hb hby dp22_2_10) rfl rfl ?_
  obtain ⟨T2, X2, e2, st2⟩ := getF X1 hx hZ hown (host := "") (Or.inl (hwk hw 66 rfl)) Via.refl e1 FintroProductId (g := (mkF m 11 #[rv a, .val (.long pn), .second] [(.ref a)])) rfl rfl (hb hby dp22_2_11)
  refine Goes.st st2 ?_
  show Gs p e below _ T2 m 14 #[rv a, .val (.long pn), .second] [(.ref ri)]
  refine ggoto X2 hx (pc' := 21) (hb hby dp22_2_14) (by decide) (by decide) ?_
  show Gs p e below _ T2 m 21 #[rv a, .val (.long pn), .second] [(.ref ri)]
  refine Goes.retA X2 hx hret rfl rfl rfl (hb hby dp22_2_21) (lvN X2 hlk (vsome hret) ?_ (by decide) (by decide))
  rw [e2]
  exact ⟨rfl, N0, rfl⟩
theorem ef_Pb (m : MethodId) (x0 : Addr) (x1 : Int64) : entryFrame m #[(.ref x0), (.long x1)] 3 = mkF m 0 #[rv x0, .val (.long x1), .second] [] := by first | (simp [entryFrame, mkF, argsToLocals, Value.category]; done) | rfl
def QPb (Z : State) (a : Addr) (pn : Int64) (lim : Int32) (ri rs : Addr) (h0 : Heap) (n0 : Nat) (v : Option Value) (h : Heap) (L : List Loc) : Prop := v = some (.ref rs) ∧ Fr n0 L ∧ h = h0
set_option maxRecDepth 65536 in
set_option maxHeartbeats 40000000 in
theorem rmPb (l : Launch) (Z : State) (a0 : Array Value) (hw : ∀ d ∈ tables_1, d.before a0 Z = true) (ws : List Jvm.Cond) (a : Addr) (pn : Int64) (lim : Int32) (ri rs : Addr) (h0 : Heap) (n0 : Nat) (Z0 : n0 ≤ h0.size) (Flimit : Fld Z h0 a "com/example/lean_renewal/leanrenewal/service/EarlyAdopterOffer" "limit" "I" (.int lim)) (FintroProductId : Fld Z h0 a "com/example/lean_renewal/leanrenewal/service/EarlyAdopterOffer" "introProductId" "Ljava/lang/String;" (.ref ri)) (FstandardProductId : Fld Z h0 a "com/example/lean_renewal/leanrenewal/service/EarlyAdopterOffer" "standardProductId" "Ljava/lang/String;" (.ref rs)) (hp : ¬ pn < lim.toInt64) :
    MetFree l mN12 (head1 (Jvm.Cond.code mN12 prog_22_method_2_code 3 (some (.object "java/lang/String")) :: ws) ({ frames := 0, cells := 0, slots := 0, locals := 0 } : Room)) (fun aa U => aa = #[(.ref a), (.long pn)] ∧ Z.Warmed39 U.vm ∧ U.heap = h0) (fun _ _ _ _ _ => True) (fun _ u1_ o_ u2_ => ∃ v_ l_, o_ = .returned v_ ∧ QPb Z a pn lim ri rs h0 n0 v_ u2_.heap l_ ∧ FrameEnd u1_ o_ u2_ l_ ({ frames := 0, cells := 0, slots := 0, locals := 0 } : Room).cells ({ frames := 0, cells := 0, slots := 0, locals := 0 } : Room).slots) := by
  refine MetFree.of_bodySF (plainFor_of_name pn_com_example_lean_renewal_leanrenewal_service_EarlyAdopterOffer) hisR ?_
  intro p e s m args below meth c s₁ Bd hml0 hP hK
  obtain ⟨rfl, hZ, hh⟩ := hP
  have hx := Bd.exec
  have hby := Bd.bytes
  have hlk := BodyLoose.notSynchronized Bd
  have hret := Bd.returns
  have hml : c.maxLocals = 3 := hml0
  have hown : s.vm.findClass "com/example/lean_renewal/leanrenewal/service/EarlyAdopterOffer" = some m.cls := findClass_of_methodNamed Bd.named
  have hnm := (name_of_methodNamed Bd.named Bd.method).1
  have X0 : Stand p l e ({ frames := 0, cells := 0, slots := 0, locals := 0 } : Room) s m #[(.ref a), (.long pn)] below meth c s₁ [] 0 0 := Stand.of_body Bd
  have e0 : s₁.heap = h0 := by rw [← hh, Bd.state]; rfl
  have N0 := Fr.nil n0
  refine Goes.st (E := (EN s (QPb Z a pn lim ri rs h0 n0) ({ frames := 0, cells := 0, slots := 0, locals := 0 } : Room).cells ({ frames := 0, cells := 0, slots := 0, locals := 0 } : Room).slots)) (fun tg kg => castTop (ef_Pb m a pn) kg) ?_
  show Gs p e below _ s₁ m 0 #[rv a, .val (.long pn), .second] []
  refine glloadN X0 hx (hb hby dp22_2_0) rfl ?_
  refine galoadN X0 hx (hb hby dp22_2_1) rfl rfl ?_
  obtain ⟨T1, X1, e1, st1⟩ := getF X0 hx hZ hown (host := "") (Or.inl (hwk hw 64 rfl)) Via.refl e0 Flimit (g := (mkF m 2 #[rv a, .val (.long pn), .second] [(.ref a), (.long pn)])) rfl rfl (hb hby dp22_2_2)
  refine Goes.st st1 ?_
  refine Goes.st (fun tg kg => XT.i2l X1.here hx rfl (hb hby dp22_2_5) rfl kg) ?_
  refine Goes.st (fun tg kg => XT.lcmp X1.here hx rfl (hb hby dp22_2_6) rfl kg) ?_
  show Gs p e below _ T1 m 7 #[rv a, .val (.long pn), .second] [(.int (XT.cmpL pn (lim).toInt64))]
  refine gifYes X1 hx (pc' := 17) (hb hby dp22_2_7) (XT.ll_ge_t hp) (by decide) (by decide) ?_
  show Gs p e below _ T1 m 17 #[rv a, .val (.long pn), .second] []
  refine galoadN X1 hx (hb hby dp22_2_17) rfl rfl ?_
  obtain ⟨T2, X2, e2, st2⟩ := getF X1 hx hZ hown (host := "") (Or.inl (hwk hw 68 rfl)) Via.refl e1 FstandardProductId (g := (mkF m 18 #[rv a, .val (.long pn), .second] [(.ref a)])) rfl rfl (hb hby dp22_2_18)
  refine Goes.st st2 ?_
  show Gs p e below _ T2 m 21 #[rv a, .val (.long pn), .second] [(.ref rs)]
  refine Goes.retA X2 hx hret rfl rfl rfl (hb hby dp22_2_21) (lvN X2 hlk (vsome hret) ?_ (by decide) (by decide))
  rw [e2]
  exact ⟨rfl, N0, rfl⟩
theorem dj42_66_0 : decode jdk_42_method_66_code 0 = .ok (.aload_n 0, 1) := by decide +kernel
theorem dj42_66_1 : decode jdk_42_method_66_code 1 = .ok (.aload_n 1, 1) := by decide +kernel
theorem dj42_66_2 : decode jdk_42_method_66_code 2 = .ok (.if_acmp .ne 5, 3) := by decide +kernel
theorem dj42_66_5 : decode jdk_42_method_66_code 5 = .ok (.iconst 1, 1) := by decide +kernel
theorem dj42_66_6 : decode jdk_42_method_66_code 6 = .ok (.ireturn, 1) := by decide +kernel
theorem dj42_66_7 : decode jdk_42_method_66_code 7 = .ok (.aload_n 1, 1) := by decide +kernel
theorem dj42_66_8 : decode jdk_42_method_66_code 8 = .ok (.instanceof 10, 3) := by decide +kernel
theorem dj42_66_11 : decode jdk_42_method_66_code 11 = .ok (.ifCond .eq 43, 3) := by decide +kernel
theorem dj42_66_14 : decode jdk_42_method_66_code 14 = .ok (.aload_n 1, 1) := by decide +kernel
theorem dj42_66_15 : decode jdk_42_method_66_code 15 = .ok (.checkcast 10, 3) := by decide +kernel
theorem dj42_66_18 : decode jdk_42_method_66_code 18 = .ok (.astore_n 2, 1) := by decide +kernel
theorem dj42_66_19 : decode jdk_42_method_66_code 19 = .ok (.getstatic 38, 3) := by decide +kernel
theorem dj42_66_22 : decode jdk_42_method_66_code 22 = .ok (.ifCond .eq 14, 3) := by decide +kernel
theorem dj42_66_25 : decode jdk_42_method_66_code 25 = .ok (.aload_n 0, 1) := by decide +kernel
theorem dj42_66_26 : decode jdk_42_method_66_code 26 = .ok (.getfield 15, 3) := by decide +kernel
theorem dj42_66_29 : decode jdk_42_method_66_code 29 = .ok (.aload_n 2, 1) := by decide +kernel
theorem dj42_66_30 : decode jdk_42_method_66_code 30 = .ok (.getfield 15, 3) := by decide +kernel
theorem dj42_66_33 : decode jdk_42_method_66_code 33 = .ok (.if_icmp .ne 21, 3) := by decide +kernel
theorem dj42_66_36 : decode jdk_42_method_66_code 36 = .ok (.aload_n 0, 1) := by decide +kernel
theorem dj42_66_37 : decode jdk_42_method_66_code 37 = .ok (.getfield 9, 3) := by decide +kernel
theorem dj42_66_40 : decode jdk_42_method_66_code 40 = .ok (.aload_n 2, 1) := by decide +kernel
theorem dj42_66_41 : decode jdk_42_method_66_code 41 = .ok (.getfield 9, 3) := by decide +kernel
theorem dj42_66_44 : decode jdk_42_method_66_code 44 = .ok (.invokestatic 541, 3) := by decide +kernel
theorem dj42_66_47 : decode jdk_42_method_66_code 47 = .ok (.ifCond .eq 7, 3) := by decide +kernel
theorem dj42_66_50 : decode jdk_42_method_66_code 50 = .ok (.iconst 1, 1) := by decide +kernel
theorem dj42_66_51 : decode jdk_42_method_66_code 51 = .ok (.goto 4, 3) := by decide +kernel
theorem dj42_66_54 : decode jdk_42_method_66_code 54 = .ok (.iconst 0, 1) := by decide +kernel
theorem dj42_66_55 : decode jdk_42_method_66_code 55 = .ok (.ireturn, 1) := by decide +kernel
theorem ef_Eq (m : MethodId) (x0 : Addr) (x1 : Addr) : entryFrame m #[(.ref x0), (.ref x1)] 3 = mkF m 0 #[rv x0, rv x1, .unset] [] := by first | (simp [entryFrame, mkF, argsToLocals, Value.category]; done) | rfl
def QEq (Z : State) (a : Addr) (h0 : Heap) (n0 : Nat) (v : Option Value) (h : Heap) (L : List Loc) : Prop := v = some (.int 1) ∧ Fr n0 L ∧ h = h0
set_option maxRecDepth 65536 in
set_option maxHeartbeats 40000000 in
theorem rmEq (l : Launch) (Z : State) (a0 : Array Value) (hw : ∀ d ∈ tables_1, d.before a0 Z = true) (ws : List Jvm.Cond) (a : Addr) (h0 : Heap) (n0 : Nat) (Z0 : n0 ≤ h0.size)  :
    MetFree l mN13 (head1 (Jvm.Cond.code mN13 jdk_42_method_66_code 3 (some .boolean) :: ws) ({ frames := 0, cells := 0, slots := 0, locals := 0 } : Room)) (fun aa U => aa = #[(.ref a), (.ref a)] ∧ Z.Warmed39 U.vm ∧ U.heap = h0) (fun _ _ _ _ _ => True) (fun _ u1_ o_ u2_ => ∃ v_ l_, o_ = .returned v_ ∧ QEq Z a h0 n0 v_ u2_.heap l_ ∧ FrameEnd u1_ o_ u2_ l_ ({ frames := 0, cells := 0, slots := 0, locals := 0 } : Room).cells ({ frames := 0, cells := 0, slots := 0, locals := 0 } : Room).slots) := by
  refine MetFree.of_bodySF (plainFor_of_name pn_java_lang_String) hisR ?_
  intro p e s m args below meth c s₁ Bd hml0 hP hK
  obtain ⟨rfl, hZ, hh⟩ := hP
  have hx := Bd.exec
  have hby := Bd.bytes
  have hlk := BodyLoose.notSynchronized Bd
  have hret := Bd.returns
  have hml : c.maxLocals = 3 := hml0
  have hown : s.vm.findClass "java/lang/String" = some m.cls := findClass_of_methodNamed Bd.named
  have hnm := (name_of_methodNamed Bd.named Bd.method).1
  have X0 : Stand p l e ({ frames := 0, cells := 0, slots := 0, locals := 0 } : Room) s m #[(.ref a), (.ref a)] below meth c s₁ [] 0 0 := Stand.of_body Bd
  have e0 : s₁.heap = h0 := by rw [← hh, Bd.state]; rfl
  have N0 := Fr.nil n0
  refine Goes.st (E := (EN s (QEq Z a h0 n0) ({ frames := 0, cells := 0, slots := 0, locals := 0 } : Room).cells ({ frames := 0, cells := 0, slots := 0, locals := 0 } : Room).slots)) (fun tg kg => castTop (ef_Eq m a a) kg) ?_
  show Gs p e below _ s₁ m 0 #[rv a, rv a, .unset] []
  refine galoadN X0 hx (hb hby dj42_66_0) rfl rfl ?_
  refine galoadN X0 hx (hb hby dj42_66_1) rfl rfl ?_
  show Gs p e below _ s₁ m 2 #[rv a, rv a, .unset] [(.ref a), (.ref a)]
  refine Goes.st (fun tg kg => XT.acmpNo X0.here hx rfl (hb hby dj42_66_2) rfl rfl rfl (XT.aa_ne_f (rfl : ((.ref a) : Value) = (.ref a))) kg) ?_
  show Gs p e below _ s₁ m 5 #[rv a, rv a, .unset] []
  refine giconst X0 hx (hb hby dj42_66_5) ?_
  show Gs p e below _ s₁ m 6 #[rv a, rv a, .unset] [(.int (1 : Int32))]
  refine Goes.retN X0 hx hret (by simp) (hb hby dj42_66_6) (by decide) (lvN X0 hlk (vsome hret) ?_ (by decide) (by decide))
  rw [e0]
  exact ⟨rfl, N0, rfl⟩
theorem pn_com_example_lean_renewal_leanrenewal_service_EarlyAdopterOfferProductForPinLaw : plainName "com/example/lean_renewal/leanrenewal/service/EarlyAdopterOfferProductForPinLaw" = true := by first | (simp [plainName, overriddenIn]; done) | decide +kernel
theorem pd__C_Ljava_lang_String__7f48 : parseMethodDescriptor "(C)Ljava/lang/String;" = some ⟨[.char], some (.object "java/lang/String")⟩ := by decide +kernel
theorem pd___C_V_b97 : parseMethodDescriptor "([C)V" = some ⟨[(.array .char)], none⟩ := by decide +kernel
theorem pd__ILjava_lang_String_Ljava_lang_String__V_7966 : parseMethodDescriptor "(ILjava/lang/String;Ljava/lang/String;)V" = some ⟨[.int, (.object "java/lang/String"), (.object "java/lang/String")], none⟩ := by decide +kernel
theorem pd__J_Ljava_lang_String__7f80 : parseMethodDescriptor "(J)Ljava/lang/String;" = some ⟨[.long], some (.object "java/lang/String")⟩ := by decide +kernel
theorem pd__Ljava_lang_Object__Z_79ae : parseMethodDescriptor "(Ljava/lang/Object;)Z" = some ⟨[(.object "java/lang/Object")], some .boolean⟩ := by decide +kernel
theorem ef_0 (m : MethodId) (x0 : Int32) (x1 : Int64) (x2 : Int32) (x3 : Int32) : entryFrame m #[(.int x0), (.long x1), (.int x2), (.int x3)] maxLocals = mkF m 0 #[iv x0, .val (.long x1), .second, iv x2, iv x3, .unset, .unset, .unset, .unset, .unset, .unset, .unset, .unset, .unset, .unset] [] := by first | (simp [entryFrame, mkF, argsToLocals, Value.category, maxLocals]; done) | rfl
def Q0 (Z : State) (q0 : Int32) (q1 : Int64) (q2 q3 cs : Int32) (h0 : Heap) (n0 : Nat) (v : Option Value) (h : Heap) (L : List Loc) : Prop := v = some (.int 1) ∧ Fr n0 L
set_option maxRecDepth 65536 in
set_option maxHeartbeats 40000000 in
theorem rm0 (l : Launch) (Z : State) (a0 : Array Value) (hw : ∀ d ∈ tables_1, d.before a0 Z = true) (ws : List Jvm.Cond) (q0 : Int32) (q1 : Int64) (q2 q3 cs : Int32) (h0 : Heap) (n0 : Nat) (Z0 : n0 ≤ h0.size) (Scs : Sta Z h0 "java/lang/String" "COMPACT_STRINGS" "Z" (.int cs)) (hcs : ¬ cs = (0 : Int32)) :
    MetFree l x (head1 (Jvm.Cond.code x code maxLocals ret :: ws) room_1) (fun aa U => aa = #[(.int q0), (.long q1), (.int q2), (.int q3)] ∧ Z.Warmed39 U.vm ∧ U.heap = h0) (fun _ _ _ _ _ => True) (fun _ u1_ o_ u2_ => ∃ v_ l_, o_ = .returned v_ ∧ Q0 Z q0 q1 q2 q3 cs h0 n0 v_ u2_.heap l_ ∧ ReturnedEndW u1_ o_ u2_ l_ 24 2176) := by
  refine MetFree.of_bodySF (plainFor_of_name pn_com_example_lean_renewal_leanrenewal_service_EarlyAdopterOfferProductForPinLaw) hisR ?_
  intro p e s m args below meth c s₁ Bd hml0 hP hK
  obtain ⟨rfl, hZ, hh⟩ := hP
  have hx := Bd.exec
  have hby := Bd.bytes
  have hlk := BodyLoose.notSynchronized Bd
  have hret := Bd.returns
  have hml : c.maxLocals = 15 := hml0
  have hown : s.vm.findClass "com/example/lean_renewal/leanrenewal/service/EarlyAdopterOfferProductForPinLaw" = some m.cls := findClass_of_methodNamed Bd.named
  have hnm := (name_of_methodNamed Bd.named Bd.method).1
  have X0 : Stand p l e room_1 (s.setVm s.vm) m #[(.int q0), (.long q1), (.int q2), (.int q3)] below meth c s₁ [] 0 0 := Stand.of_body Bd
  have hS := (State.WarmedH.refl s).since 0
  have hk : 0 ≤ h0.size := Nat.zero_le _
  have e0 : s₁.heap = h0 := by rw [← hh, Bd.state]; rfl
  have N0 := Fr.nil n0
  refine Goes.st (E := (EV s (Q0 Z q0 q1 q2 q3 cs h0 n0) 24 2176)) (fun tg kg => castTop (ef_0 m q0 q1 q2 q3) kg) ?_
  show Gs p e below _ s₁ m 0 #[iv q0, .val (.long q1), .second, iv q2, iv q3, .unset, .unset, .unset, .unset, .unset, .unset, .unset, .unset, .unset, .unset] []
  refine giloadN X0 hx (hb hby at_0) rfl ?_
  refine Goes.st (fun tg kg => XS.sipush X0.here hx rfl (hb hby at_1) kg) ?_
  refine giand X0 hx (hb hby at_4) trivial ?_
  show Gs p e below _ s₁ m 5 #[iv q0, .val (.long q1), .second, iv q2, iv q3, .unset, .unset, .unset, .unset, .unset, .unset, .unset, .unset, .unset, .unset] [(.int (q2 &&& (255 : Int32)))]
  refine Goes.st (fun tg kg => XT.i2c X0.here hx rfl (hb hby at_5) rfl kg) ?_
  show Gs p e below _ s₁ m 6 #[iv q0, .val (.long q1), .second, iv q2, iv q3, .unset, .unset, .unset, .unset, .unset, .unset, .unset, .unset, .unset, .unset] [(.int ((q2 &&& (255 : Int32))).toUInt32.toUInt16.toUInt32.toInt32)]
  rw [i2c_mask]
  show Gs p e below _ s₁ m 6 #[iv q0, .val (.long q1), .second, iv q2, iv q3, .unset, .unset, .unset, .unset, .unset, .unset, .unset, .unset, .unset, .unset] [(.int (q2 &&& (255 : Int32)))]
  refine gistore X0 hx (hb hby at_6) trivial (l' := #[iv q0, .val (.long q1), .second, iv q2, iv q3, iv (q2 &&& (255 : Int32)), .unset, .unset, .unset, .unset, .unset, .unset, .unset, .unset, .unset]) rfl ?_
  refine giload X0 hx (hb hby at_8) rfl ?_
  refine Goes.st (fun tg kg => XS.sipush X0.here hx rfl (hb hby at_10) kg) ?_
  refine giand X0 hx (hb hby at_13) trivial ?_
  show Gs p e below _ s₁ m 14 #[iv q0, .val (.long q1), .second, iv q2, iv q3, iv (q2 &&& (255 : Int32)), .unset, .unset, .unset, .unset, .unset, .unset, .unset, .unset, .unset] [(.int (q3 &&& (255 : Int32)))]
  refine Goes.st (fun tg kg => XT.i2c X0.here hx rfl (hb hby at_14) rfl kg) ?_
  show Gs p e below _ s₁ m 15 #[iv q0, .val (.long q1), .second, iv q2, iv q3, iv (q2 &&& (255 : Int32)), .unset, .unset, .unset, .unset, .unset, .unset, .unset, .unset, .unset] [(.int ((q3 &&& (255 : Int32))).toUInt32.toUInt16.toUInt32.toInt32)]
  rw [i2c_mask]
  show Gs p e below _ s₁ m 15 #[iv q0, .val (.long q1), .second, iv q2, iv q3, iv (q2 &&& (255 : Int32)), .unset, .unset, .unset, .unset, .unset, .unset, .unset, .unset, .unset] [(.int (q3 &&& (255 : Int32)))]
  refine gistore X0 hx (hb hby at_15) trivial (l' := #[iv q0, .val (.long q1), .second, iv q2, iv q3, iv (q2 &&& (255 : Int32)), iv (q3 &&& (255 : Int32)), .unset, .unset, .unset, .unset, .unset, .unset, .unset, .unset]) rfl ?_
  refine giload X0 hx (hb hby at_17) rfl ?_
  obtain ⟨_, _, ⟨T1, L1, k1, n1⟩, -, X1, ⟨Lc1, hQ1, l1, y1, z1⟩, st1⟩ := Jvm.LawKit.callS X0 hx (y := mN3) hown (mvT hZ (hwk hw 0 rfl)) (mvT hZ (hwk hw 1 rfl)) (mvT hZ (hwk hw 2 rfl)) (mvT hZ (hwk hw 3 rfl)) (by decide) (backOf (W := 0) (rmVo l Z a0 hw [] (q2 &&& (255 : Int32)) cs h0 n0 Z0 Scs hcs (own_c q2)) hZ (hwk hw 3 rfl) (hwk hw 2 rfl) (by decide) (by decide)) (g := (mkF m 19 #[iv q0, .val (.long q1), .second, iv q2, iv q3, iv (q2 &&& (255 : Int32)), iv (q3 &&& (255 : Int32)), .unset, .unset, .unset, .unset, .unset, .unset, .unset, .unset] [(.int (q2 &&& (255 : Int32)))])) rfl (by rw [hml]; rfl) (argsL := [(.int (q2 &&& (255 : Int32)))]) (rest := []) (lenOf pd__C_Ljava_lang_String__7f48 rfl) rfl (by show 2 * 0 + _ ≤ _; exact Nat.le_of_eq rfl) (hb hby at_19) (fun _ _ => ⟨rfl, e0, (by decide : 0 + 2 ≤ 24), (by decide : 0 + 5 ≤ 2176)⟩)
  dsimp only [Pt.U, Pt.locs, Pt.cells, Pt.slots] at X1 l1 y1 z1 st1 hQ1
  subst l1 y1 z1
  obtain ⟨b1, rfl, N1q, K1, szq1, loq1, V1⟩ := hQ1
  have hk := Nat.le_trans hk K1.1
  have Z1 : n0 ≤ T1.heap.size := Nat.le_trans Z0 K1.1
  have N1 := Fr.app N0 N1q
  refine Goes.st st1 ?_
  show Gs p e below _ T1 m 22 #[iv q0, .val (.long q1), .second, iv q2, iv q3, iv (q2 &&& (255 : Int32)), iv (q3 &&& (255 : Int32)), .unset, .unset, .unset, .unset, .unset, .unset, .unset, .unset] [(.ref b1)]
  refine gastore X1 hx (hb hby at_22) trivial rfl (l' := #[iv q0, .val (.long q1), .second, iv q2, iv q3, iv (q2 &&& (255 : Int32)), iv (q3 &&& (255 : Int32)), rv b1, .unset, .unset, .unset, .unset, .unset, .unset, .unset]) rfl ?_
  obtain ⟨T3, h3, X3, e3, E3, A3, D3, -, st3⟩ := newO X1 hx hZ hown (hwk hw 26 rfl) (hwk hw 10 rfl) (hwk hw 2 rfl) rfl (g := (mkF m 24 #[iv q0, .val (.long q1), .second, iv q2, iv q3, iv (q2 &&& (255 : Int32)), iv (q3 &&& (255 : Int32)), rv b1, .unset, .unset, .unset, .unset, .unset, .unset, .unset] [])) rfl (hb hby at_24) (by decide) (by decide)
  obtain ⟨b3, g3⟩ : ∃ z, z = T1.heap.size := ⟨_, rfl⟩
  rw [← g3] at A3 D3 st3
  have ne_b1_b3 : b1 ≠ b3 := Nat.ne_of_lt (Nat.lt_of_lt_of_le V1.lt (Nat.le_of_eq g3.symm))
  have lo_b3 : n0 ≤ b3 := by have := Z1; omega
  refine Goes.st st3 ?_
  have hk := Nat.le_trans hk E3.1
  have Z3 : n0 ≤ h3.size := Nat.le_trans Z1 E3.1
  have F3_value : Fld Z h3 b3 "java/lang/String" "value" "[B" .null := D3 (Or.inr (hwk hw 23 rfl)) (ty := (.array .byte)) (by decide)
  have F3_coder : Fld Z h3 b3 "java/lang/String" "coder" "B" (.int (0 : Int32)) := D3 (Or.inr (hwk hw 25 rfl)) (ty := .byte) (by decide)
  show Gs p e below _ T3 m 27 #[iv q0, .val (.long q1), .second, iv q2, iv q3, iv (q2 &&& (255 : Int32)), iv (q3 &&& (255 : Int32)), rv b1, .unset, .unset, .unset, .unset, .unset, .unset, .unset] [(.ref b3)]
  refine gdup X3 hx (hb hby at_27) trivial rfl ?_
  refine giconst X3 hx (hb hby at_28) ?_
  obtain ⟨T5, h5, cA5, X5, e5, E5, A5, st5⟩ := newP X3 hx hZ (hwk hw 27 rfl) e3 (g := (mkF m 29 #[iv q0, .val (.long q1), .second, iv q2, iv q3, iv (q2 &&& (255 : Int32)), iv (q3 &&& (255 : Int32)), rv b1, .unset, .unset, .unset, .unset, .unset, .unset, .unset] [(.int (2 : Int32)), (.ref b3), (.ref b3)])) rfl (hb hby at_29) rfl (by decide) (cap := 2) (by decide) (by decide) (by decide) (by decide)
  obtain ⟨b5, g5⟩ : ∃ z, z = h3.size := ⟨_, rfl⟩
  rw [← g5] at A5 st5
  have f6 := (V1.ext E3)
  have ne_b1_b5 : b1 ≠ b5 := Nat.ne_of_lt (Nat.lt_of_lt_of_le f6.lt (Nat.le_of_eq g5.symm))
  have ne_b3_b5 : b3 ≠ b5 := Nat.ne_of_lt (Nat.lt_of_lt_of_le A3.lt (Nat.le_of_eq g5.symm))
  have lo_b5 : n0 ≤ b5 := by have := Z3; omega
  have hk := Nat.le_trans hk E5.1
  have V5 : Arv Z h5 b5 cA5 .char (2 : Int32) [(.int (0 : Int32)), (.int (0 : Int32))] (.int (0 : Int32)) := (Arv.new A5 (by decide)).pad (pad_rep [] _ 2)
  refine Goes.st st5 ?_
  have Z5 : n0 ≤ h5.size := Nat.le_trans Z3 E5.1
  show Gs p e below _ T5 m 31 #[iv q0, .val (.long q1), .second, iv q2, iv q3, iv (q2 &&& (255 : Int32)), iv (q3 &&& (255 : Int32)), rv b1, .unset, .unset, .unset, .unset, .unset, .unset, .unset] [(.ref b5), (.ref b3), (.ref b3)]
  refine gdup X5 hx (hb hby at_31) trivial rfl ?_
  refine giconst X5 hx (hb hby at_32) ?_
  refine giload X5 hx (hb hby at_33) rfl ?_
  show Gs p e below _ T5 m 35 #[iv q0, .val (.long q1), .second, iv q2, iv q3, iv (q2 &&& (255 : Int32)), iv (q3 &&& (255 : Int32)), rv b1, .unset, .unset, .unset, .unset, .unset, .unset, .unset] [(.int (q3 &&& (255 : Int32))), (.int (0 : Int32)), (.ref b5), (.ref b5), (.ref b3), (.ref b3)]
  obtain ⟨cl8, Ar8, qk8, Sz8, qz8, Ha8, Gf8⟩ := id V5
  obtain ⟨T8, h8, X8, e8, W8, st8⟩ := stC X5 hx hZ e5 Ar8 (inb_of Sz8 ⟨by decide, by decide⟩) (g := (mkF m 35 #[iv q0, .val (.long q1), .second, iv q2, iv q3, iv (q2 &&& (255 : Int32)), iv (q3 &&& (255 : Int32)), rv b1, .unset, .unset, .unset, .unset, .unset, .unset, .unset] [(.int (q3 &&& (255 : Int32))), (.int (0 : Int32)), (.ref b5), (.ref b5), (.ref b3), (.ref b3)])) rfl rfl (hb hby at_35)
  have N8 := Fr.snoc X8 N1 lo_b5
  have V8 : Arv Z h8 b5 cA5 .char (2 : Int32) [(.int (nar .char (q3 &&& (255 : Int32)))), (.int (0 : Int32))] (.int (0 : Int32)) := Arv.set Ar8 qk8 Sz8 qz8 Ha8 Gf8 (fits_nar_char _) W8 0 (by decide) (by simp)
  refine Goes.st st8 ?_
  have hk := Nat.le_trans hk (Nat.le_of_eq W8.size.symm)
  have Z8 : n0 ≤ h8.size := by have := W8.size; have := Z5; omega
  show Gs p e below _ T8 m 36 #[iv q0, .val (.long q1), .second, iv q2, iv q3, iv (q2 &&& (255 : Int32)), iv (q3 &&& (255 : Int32)), rv b1, .unset, .unset, .unset, .unset, .unset, .unset, .unset] [(.ref b5), (.ref b3), (.ref b3)]
  refine gdup X8 hx (hb hby at_36) trivial rfl ?_
  refine giconst X8 hx (hb hby at_37) ?_
  refine giload X8 hx (hb hby at_38) rfl ?_
  show Gs p e below _ T8 m 40 #[iv q0, .val (.long q1), .second, iv q2, iv q3, iv (q2 &&& (255 : Int32)), iv (q3 &&& (255 : Int32)), rv b1, .unset, .unset, .unset, .unset, .unset, .unset, .unset] [(.int (q2 &&& (255 : Int32))), (.int (1 : Int32)), (.ref b5), (.ref b5), (.ref b3), (.ref b3)]
  obtain ⟨cl10, Ar10, qk10, Sz10, qz10, Ha10, Gf10⟩ := id V8
  obtain ⟨T10, h10, X10, e10, W10, st10⟩ := stC X8 hx hZ e8 Ar10 (inb_of Sz10 ⟨by decide, by decide⟩) (g := (mkF m 40 #[iv q0, .val (.long q1), .second, iv q2, iv q3, iv (q2 &&& (255 : Int32)), iv (q3 &&& (255 : Int32)), rv b1, .unset, .unset, .unset, .unset, .unset, .unset, .unset] [(.int (q2 &&& (255 : Int32))), (.int (1 : Int32)), (.ref b5), (.ref b5), (.ref b3), (.ref b3)])) rfl rfl (hb hby at_40)
  have N10 := Fr.snoc X10 N8 lo_b5
  have V10 : Arv Z h10 b5 cA5 .char (2 : Int32) [(.int (nar .char (q3 &&& (255 : Int32)))), (.int (nar .char (q2 &&& (255 : Int32))))] (.int (0 : Int32)) := Arv.set Ar10 qk10 Sz10 qz10 Ha10 Gf10 (fits_nar_char _) W10 1 (by decide) (by simp)
  refine Goes.st st10 ?_
  have hk := Nat.le_trans hk (Nat.le_of_eq W10.size.symm)
  have Z10 : n0 ≤ h10.size := by have := W10.size; have := Z8; omega
  show Gs p e below _ T10 m 41 #[iv q0, .val (.long q1), .second, iv q2, iv q3, iv (q2 &&& (255 : Int32)), iv (q3 &&& (255 : Int32)), rv b1, .unset, .unset, .unset, .unset, .unset, .unset, .unset] [(.ref b5), (.ref b3), (.ref b3)]
  have f12 := (((A3.ext E5).wr W8).wr W10)
  have f13 := (((F3_value.ext E5).other W8 (Or.inl ne_b3_b5)).other W10 (Or.inl ne_b3_b5))
  have f14 := (((F3_coder.ext E5).other W8 (Or.inl ne_b3_b5)).other W10 (Or.inl ne_b3_b5))
  have f15 := (((((Scs.kept K1 ns0).ext E3).ext E5).wr W8).wr W10)
  obtain ⟨_, _, ⟨T16, L16, k16, n16⟩, -, X16, ⟨Lc16, hQ16, l16, y16, z16⟩, st16⟩ := X10.specialBack hx (y := mN8) rfl hown (mvT hZ (hwk hw 28 rfl)) (mvT hZ (hwk hw 29 rfl)) (mvT hZ (hwk hw 30 rfl)) (by decide) (backOf (W := 1) (rmIc2 l Z a0 hw [] b3 .null (.int (0 : Int32)) cs b5 cA5 (nar .char (q3 &&& (255 : Int32))) (nar .char (q2 &&& (255 : Int32))) h10 n0 Z10 f15 hcs f12 lo_b3 f13 f14 V10 ne_b3_b5 (by rw [own_nar]; exact own_c q3) (by rw [own_nar]; exact own_c q2)) hZ (hwk hw 30 rfl) (hwk hw 2 rfl) (by decide) (by decide)) (g := (mkF m 41 #[iv q0, .val (.long q1), .second, iv q2, iv q3, iv (q2 &&& (255 : Int32)), iv (q3 &&& (255 : Int32)), rv b1, .unset, .unset, .unset, .unset, .unset, .unset, .unset] [(.ref b5), (.ref b3), (.ref b3)])) rfl (by rw [hml]; rfl) (Steps.refl _) (a := b3) (argsL := [(.ref b5)]) (rest := [(.ref b3)]) (lenOf pd___C_V_b97 rfl) rfl (by show 2 * 0 + _ ≤ _; exact Nat.le_of_eq rfl) (hb hby at_41) (fun _ _ => ⟨rfl, e10, (by decide : 4 + 1 ≤ 24), (by decide : 11 + 2 ≤ 2176)⟩)
  dsimp only [Pt.U, Pt.locs, Pt.cells, Pt.slots] at X16 l16 y16 z16 st16 hQ16
  subst l16 y16 z16
  obtain ⟨rfl, N16q, K16⟩ := hQ16
  have hk := Nat.le_trans hk K16.1
  have Z16 : n0 ≤ T16.heap.size := Nat.le_trans Z10 K16.1
  have N16 := Fr.app N10 N16q
  refine Goes.sts st16 ?_
  show Gs p e below _ T16 m 44 #[iv q0, .val (.long q1), .second, iv q2, iv q3, iv (q2 &&& (255 : Int32)), iv (q3 &&& (255 : Int32)), rv b1, .unset, .unset, .unset, .unset, .unset, .unset, .unset] [(.ref b3)]
  refine gastore X16 hx (hb hby at_44) trivial rfl (l' := #[iv q0, .val (.long q1), .second, iv q2, iv q3, iv (q2 &&& (255 : Int32)), iv (q3 &&& (255 : Int32)), rv b1, rv b3, .unset, .unset, .unset, .unset, .unset, .unset]) rfl ?_
  obtain ⟨T18, h18, X18, e18, E18, A18, D18, -, st18⟩ := newO X16 hx hZ hown (hwk hw 44 rfl) (hwk hw 45 rfl) (hwk hw 46 rfl) rfl (g := (mkF m 46 #[iv q0, .val (.long q1), .second, iv q2, iv q3, iv (q2 &&& (255 : Int32)), iv (q3 &&& (255 : Int32)), rv b1, rv b3, .unset, .unset, .unset, .unset, .unset, .unset] [])) rfl (hb hby at_46) (by decide) (by decide)
  obtain ⟨b18, g18⟩ : ∃ z, z = T16.heap.size := ⟨_, rfl⟩
  rw [← g18] at A18 D18 st18
  have f19 := ((((f6.ext E5).wr W8).wr W10).keep K16)
  have ne_b1_b18 : b1 ≠ b18 := Nat.ne_of_lt (Nat.lt_of_lt_of_le f19.lt (Nat.le_of_eq g18.symm))
  have f20 := (f12.keep K16)
  have ne_b3_b18 : b3 ≠ b18 := Nat.ne_of_lt (Nat.lt_of_lt_of_le f20.lt (Nat.le_of_eq g18.symm))
  have f21 := (V10.keep K16 (ninS (Ne.symm ne_b3_b5) nin0))
  have ne_b5_b18 : b5 ≠ b18 := Nat.ne_of_lt (Nat.lt_of_lt_of_le f21.lt (Nat.le_of_eq g18.symm))
  have lo_b18 : n0 ≤ b18 := by have := Z16; omega
  refine Goes.st st18 ?_
  have hk := Nat.le_trans hk E18.1
  have Z18 : n0 ≤ h18.size := Nat.le_trans Z16 E18.1
  have F18_limit : Fld Z h18 b18 "com/example/lean_renewal/leanrenewal/service/EarlyAdopterOffer" "limit" "I" (.int (0 : Int32)) := D18 (Or.inr (hwk hw 65 rfl)) (ty := .int) (by decide)
  have F18_introProductId : Fld Z h18 b18 "com/example/lean_renewal/leanrenewal/service/EarlyAdopterOffer" "introProductId" "Ljava/lang/String;" .null := D18 (Or.inr (hwk hw 67 rfl)) (ty := (.object "java/lang/String")) (by decide)
  have F18_standardProductId : Fld Z h18 b18 "com/example/lean_renewal/leanrenewal/service/EarlyAdopterOffer" "standardProductId" "Ljava/lang/String;" .null := D18 (Or.inr (hwk hw 69 rfl)) (ty := (.object "java/lang/String")) (by decide)
  show Gs p e below _ T18 m 49 #[iv q0, .val (.long q1), .second, iv q2, iv q3, iv (q2 &&& (255 : Int32)), iv (q3 &&& (255 : Int32)), rv b1, rv b3, .unset, .unset, .unset, .unset, .unset, .unset] [(.ref b18)]
  refine gdup X18 hx (hb hby at_49) trivial rfl ?_
  refine giloadN X18 hx (hb hby at_50) rfl ?_
  refine gaload X18 hx (hb hby at_51) rfl rfl ?_
  refine gaload X18 hx (hb hby at_53) rfl rfl ?_
  obtain ⟨_, _, ⟨T23, L23, k23, n23⟩, -, X23, hS23, hg23, ⟨Lc23, hQ23, l23, y23, z23⟩, st23⟩ := X18.specialBackS hx (y := mN11) rfl hown (mvT hZ (hwk hw 47 rfl)) (mvT hZ (hwk hw 48 rfl)) (mvT hZ (hwk hw 49 rfl)) (by decide) (backOfS (W := 1) (rmC l Z a0 hw [] b18 q0 b1 b3 (.int (0 : Int32)) .null .null h18 n0 Z18 A18 lo_b18 F18_limit F18_introProductId F18_standardProductId) hZ (hwk hw 49 rfl) (hwk hw 46 rfl) (by decide) (by decide)) (g := (mkF m 55 #[iv q0, .val (.long q1), .second, iv q2, iv q3, iv (q2 &&& (255 : Int32)), iv (q3 &&& (255 : Int32)), rv b1, rv b3, .unset, .unset, .unset, .unset, .unset, .unset] [(.ref b3), (.ref b1), (.int q0), (.ref b18), (.ref b18)])) rfl (by rw [hml]; rfl) (Steps.refl _) (a := b18) (argsL := [(.int q0), (.ref b1), (.ref b3)]) (rest := [(.ref b18)]) (lenOf pd__ILjava_lang_String_Ljava_lang_String__V_7966 rfl) rfl (by show 2 * 0 + _ ≤ _; exact Nat.le_of_eq rfl) (hb hby at_55) (fun _ _ => ⟨rfl, e18, (by decide : 6 + 4 ≤ 24), (by decide : 16 + 132 ≤ 2176)⟩)
  dsimp only [Pt.U, Pt.locs, Pt.cells, Pt.slots] at X23 l23 y23 z23 st23 hQ23 hS23 hg23
  subst l23 y23 z23
  obtain ⟨X23, hS, hZ, hown⟩ := rebS hS (by rw [e18]; exact hk) X23 hS23 hg23 hZ hown
  have hk := Nat.le_refl T23.heap.size
  obtain ⟨rfl, N23q, K23, R23_0, R23_1, R23_2⟩ := hQ23
  have Z23 : n0 ≤ T23.heap.size := Nat.le_trans Z18 K23.1
  have N23 := Fr.app N16 N23q
  refine Goes.sts st23 ?_
  show Gs p e below _ T23 m 58 #[iv q0, .val (.long q1), .second, iv q2, iv q3, iv (q2 &&& (255 : Int32)), iv (q3 &&& (255 : Int32)), rv b1, rv b3, .unset, .unset, .unset, .unset, .unset, .unset] [(.ref b18)]
  refine gastore X23 hx (hb hby at_58) trivial rfl (l' := #[iv q0, .val (.long q1), .second, iv q2, iv q3, iv (q2 &&& (255 : Int32)), iv (q3 &&& (255 : Int32)), rv b1, rv b3, rv b18, .unset, .unset, .unset, .unset, .unset]) rfl ?_
  show Gs p e below _ T23 m 60 #[iv q0, .val (.long q1), .second, iv q2, iv q3, iv (q2 &&& (255 : Int32)), iv (q3 &&& (255 : Int32)), rv b1, rv b3, rv b18, .unset, .unset, .unset, .unset, .unset] []
  by_cases hbe : q1 < q0.toInt64
  · refine gaload X23 hx (hb hby at_60) rfl rfl ?_
    refine glloadN X23 hx (hb hby at_62) rfl ?_
    have f26 := (A18.keep K23)
    obtain ⟨cq25, kq25, qa25, qb25, qc25⟩ := isOf hZ rfl f26
    obtain ⟨_, _, ⟨T25, L25, k25, n25⟩, -, X25, ⟨Lc25, hQ25, l25, y25, z25⟩, st25⟩ := X23.virtualBack hx (y := mN12) (z := mN12) hown (mvT hZ (hwk hw 70 rfl)) (mvT hZ (hwk hw 71 rfl)) (notFace_of_selects (args := #[]) (mvT hZ (hwk hw 73 rfl))) (mvT hZ (hwk hw 73 rfl)) (mvT hZ (hwk hw 72 rfl)) (by decide) (backOf (W := 0) (rmPa l Z a0 hw [] b18 q1 q0 b1 b3 T23.heap n0 Z23 R23_0 R23_1 R23_2 hbe) hZ (hwk hw 74 rfl) (hwk hw 46 rfl) (by decide) (by decide)) qa25 qc25 (g := (mkF m 63 #[iv q0, .val (.long q1), .second, iv q2, iv q3, iv (q2 &&& (255 : Int32)), iv (q3 &&& (255 : Int32)), rv b1, rv b3, rv b18, .unset, .unset, .unset, .unset, .unset] [(.long q1), (.ref b18)])) rfl (by rw [hml]; rfl) (Steps.refl _) (argsL := [(.long q1)]) (rest := []) (lenOf pd__J_Ljava_lang_String__7f80 rfl) rfl (by show 2 * 0 + _ ≤ _; exact Nat.le_of_eq rfl) (hb hby at_63) (fun _ _ => ⟨rfl, rfl, (by decide : 10 + 0 ≤ 24), (by decide : 148 + 0 ≤ 2176)⟩)
    dsimp only [Pt.U, Pt.locs, Pt.cells, Pt.slots] at X25 l25 y25 z25 st25 hQ25
    subst l25 y25 z25
    obtain ⟨rfl, N25q, eh25⟩ := hQ25
    have N25 := Fr.app N23 N25q
    refine Goes.sts st25 ?_
    show Gs p e below _ T25 m 66 #[iv q0, .val (.long q1), .second, iv q2, iv q3, iv (q2 &&& (255 : Int32)), iv (q3 &&& (255 : Int32)), rv b1, rv b3, rv b18, .unset, .unset, .unset, .unset, .unset] [(.ref b1)]
    refine gastore X25 hx (hb hby at_66) trivial rfl (l' := #[iv q0, .val (.long q1), .second, iv q2, iv q3, iv (q2 &&& (255 : Int32)), iv (q3 &&& (255 : Int32)), rv b1, rv b3, rv b18, rv b1, .unset, .unset, .unset, .unset]) rfl ?_
    refine gaload X25 hx (hb hby at_68) rfl rfl ?_
    refine giloadN X25 hx (hb hby at_70) rfl ?_
    refine Goes.st (fun tg kg => XT.i2l X25.here hx rfl (hb hby at_71) rfl kg) ?_
    obtain ⟨cq27, kq27, qa27, qb27, qc27⟩ := isOf hZ eh25 f26
    obtain ⟨_, _, ⟨T27, L27, k27, n27⟩, -, X27, ⟨Lc27, hQ27, l27, y27, z27⟩, st27⟩ := X25.virtualBack hx (y := mN12) (z := mN12) hown (mvT hZ (hwk hw 70 rfl)) (mvT hZ (hwk hw 71 rfl)) (notFace_of_selects (args := #[]) (mvT hZ (hwk hw 73 rfl))) (mvT hZ (hwk hw 73 rfl)) (mvT hZ (hwk hw 72 rfl)) (by decide) (backOf (W := 0) (rmPb l Z a0 hw [] b18 (q0).toInt64 q0 b1 b3 T23.heap n0 Z23 R23_0 R23_1 R23_2 (own_irr _)) hZ (hwk hw 74 rfl) (hwk hw 46 rfl) (by decide) (by decide)) qa27 qc27 (g := (mkF m 72 #[iv q0, .val (.long q1), .second, iv q2, iv q3, iv (q2 &&& (255 : Int32)), iv (q3 &&& (255 : Int32)), rv b1, rv b3, rv b18, rv b1, .unset, .unset, .unset, .unset] [(.long (q0).toInt64), (.ref b18)])) rfl (by rw [hml]; rfl) (Steps.refl _) (argsL := [(.long (q0).toInt64)]) (rest := []) (lenOf pd__J_Ljava_lang_String__7f80 rfl) rfl (by show 2 * 0 + _ ≤ _; exact Nat.le_of_eq rfl) (hb hby at_72) (fun _ _ => ⟨rfl, eh25, (by decide : 10 + 0 ≤ 24), (by decide : 148 + 0 ≤ 2176)⟩)
    dsimp only [Pt.U, Pt.locs, Pt.cells, Pt.slots] at X27 l27 y27 z27 st27 hQ27
    subst l27 y27 z27
    obtain ⟨rfl, N27q, eh27⟩ := hQ27
    have N27 := Fr.app N25 N27q
    refine Goes.sts st27 ?_
    show Gs p e below _ T27 m 75 #[iv q0, .val (.long q1), .second, iv q2, iv q3, iv (q2 &&& (255 : Int32)), iv (q3 &&& (255 : Int32)), rv b1, rv b3, rv b18, rv b1, .unset, .unset, .unset, .unset] [(.ref b3)]
    refine gastore X27 hx (hb hby at_75) trivial rfl (l' := #[iv q0, .val (.long q1), .second, iv q2, iv q3, iv (q2 &&& (255 : Int32)), iv (q3 &&& (255 : Int32)), rv b1, rv b3, rv b18, rv b1, rv b3, .unset, .unset, .unset]) rfl ?_
    refine gaload X27 hx (hb hby at_77) rfl rfl ?_
    refine giloadN X27 hx (hb hby at_79) rfl ?_
    refine Goes.st (fun tg kg => XT.i2l X27.here hx rfl (hb hby at_80) rfl kg) ?_
    refine Goes.st (fun tg kg => XT.lconst X27.here hx rfl (hb hby at_81) kg) ?_
    show Gs p e below _ T27 m 82 #[iv q0, .val (.long q1), .second, iv q2, iv q3, iv (q2 &&& (255 : Int32)), iv (q3 &&& (255 : Int32)), rv b1, rv b3, rv b18, rv b1, rv b3, .unset, .unset, .unset] [(.long (1 : Int64)), (.long (q0).toInt64), (.ref b18)]
    refine Goes.st (fun tg kg => XT.lsub X27.here hx rfl (hb hby at_82) rfl kg) ?_
    show Gs p e below _ T27 m 83 #[iv q0, .val (.long q1), .second, iv q2, iv q3, iv (q2 &&& (255 : Int32)), iv (q3 &&& (255 : Int32)), rv b1, rv b3, rv b18, rv b1, rv b3, .unset, .unset, .unset] [(.long ((q0).toInt64 - (1 : Int64))), (.ref b18)]
    obtain ⟨cq28, kq28, qa28, qb28, qc28⟩ := isOf hZ eh27 f26
    obtain ⟨_, _, ⟨T28, L28, k28, n28⟩, -, X28, ⟨Lc28, hQ28, l28, y28, z28⟩, st28⟩ := X27.virtualBack hx (y := mN12) (z := mN12) hown (mvT hZ (hwk hw 70 rfl)) (mvT hZ (hwk hw 71 rfl)) (notFace_of_selects (args := #[]) (mvT hZ (hwk hw 73 rfl))) (mvT hZ (hwk hw 73 rfl)) (mvT hZ (hwk hw 72 rfl)) (by decide) (backOf (W := 0) (rmPa l Z a0 hw [] b18 ((q0).toInt64 - (1 : Int64)) q0 b1 b3 T23.heap n0 Z23 R23_0 R23_1 R23_2 (own_pred q0)) hZ (hwk hw 74 rfl) (hwk hw 46 rfl) (by decide) (by decide)) qa28 qc28 (g := (mkF m 83 #[iv q0, .val (.long q1), .second, iv q2, iv q3, iv (q2 &&& (255 : Int32)), iv (q3 &&& (255 : Int32)), rv b1, rv b3, rv b18, rv b1, rv b3, .unset, .unset, .unset] [(.long ((q0).toInt64 - (1 : Int64))), (.ref b18)])) rfl (by rw [hml]; rfl) (Steps.refl _) (argsL := [(.long ((q0).toInt64 - (1 : Int64)))]) (rest := []) (lenOf pd__J_Ljava_lang_String__7f80 rfl) rfl (by show 2 * 0 + _ ≤ _; exact Nat.le_of_eq rfl) (hb hby at_83) (fun _ _ => ⟨rfl, eh27, (by decide : 10 + 0 ≤ 24), (by decide : 148 + 0 ≤ 2176)⟩)
    dsimp only [Pt.U, Pt.locs, Pt.cells, Pt.slots] at X28 l28 y28 z28 st28 hQ28
    subst l28 y28 z28
    obtain ⟨rfl, N28q, eh28⟩ := hQ28
    have N28 := Fr.app N27 N28q
    refine Goes.sts st28 ?_
    show Gs p e below _ T28 m 86 #[iv q0, .val (.long q1), .second, iv q2, iv q3, iv (q2 &&& (255 : Int32)), iv (q3 &&& (255 : Int32)), rv b1, rv b3, rv b18, rv b1, rv b3, .unset, .unset, .unset] [(.ref b1)]
    refine gastore X28 hx (hb hby at_86) trivial rfl (l' := #[iv q0, .val (.long q1), .second, iv q2, iv q3, iv (q2 &&& (255 : Int32)), iv (q3 &&& (255 : Int32)), rv b1, rv b3, rv b18, rv b1, rv b3, rv b1, .unset, .unset]) rfl ?_
    refine glloadN X28 hx (hb hby at_88) rfl ?_
    show Gs p e below _ T28 m 89 #[iv q0, .val (.long q1), .second, iv q2, iv q3, iv (q2 &&& (255 : Int32)), iv (q3 &&& (255 : Int32)), rv b1, rv b3, rv b18, rv b1, rv b3, rv b1, .unset, .unset] [(.long q1)]
    refine Goes.st (fun tg kg => X28.ldc2Long hx hown (mvT hZ (hwk hw 75 rfl)) (g := (mkF m 89 #[iv q0, .val (.long q1), .second, iv q2, iv q3, iv (q2 &&& (255 : Int32)), iv (q3 &&& (255 : Int32)), rv b1, rv b3, rv b18, rv b1, rv b3, rv b1, .unset, .unset] [(.long q1)])) rfl (hb hby at_89) tg kg) ?_
    show Gs p e below _ T28 m 92 #[iv q0, .val (.long q1), .second, iv q2, iv q3, iv (q2 &&& (255 : Int32)), iv (q3 &&& (255 : Int32)), rv b1, rv b3, rv b18, rv b1, rv b3, rv b1, .unset, .unset] [(.long (-2147483648 : Int64)), (.long q1)]
    refine Goes.st (fun tg kg => XT.lcmp X28.here hx rfl (hb hby at_92) rfl kg) ?_
    show Gs p e below _ T28 m 93 #[iv q0, .val (.long q1), .second, iv q2, iv q3, iv (q2 &&& (255 : Int32)), iv (q3 &&& (255 : Int32)), rv b1, rv b3, rv b18, rv b1, rv b3, rv b1, .unset, .unset] [(.int (XT.cmpL q1 (-2147483648 : Int64)))]
    by_cases c29 : q1 < (-2147483648 : Int64)
    · refine gifYes X28 hx (pc' := 120) (hb hby at_93) (XT.ll_lt_t c29) (by decide) (by decide) ?_
      show Gs p e below _ T28 m 120 #[iv q0, .val (.long q1), .second, iv q2, iv q3, iv (q2 &&& (255 : Int32)), iv (q3 &&& (255 : Int32)), rv b1, rv b3, rv b18, rv b1, rv b3, rv b1, .unset, .unset] []
      refine glloadN X28 hx (hb hby at_120) rfl ?_
      refine Goes.st (fun tg kg => XT.lconst X28.here hx rfl (hb hby at_121) kg) ?_
      refine Goes.st (fun tg kg => XT.lcmp X28.here hx rfl (hb hby at_122) rfl kg) ?_
      show Gs p e below _ T28 m 123 #[iv q0, .val (.long q1), .second, iv q2, iv q3, iv (q2 &&& (255 : Int32)), iv (q3 &&& (255 : Int32)), rv b1, rv b3, rv b18, rv b1, rv b3, rv b1, .unset, .unset] [(.int (XT.cmpL q1 (0 : Int64)))]
      by_cases c30 : q1 < (0 : Int64)
      · refine gifNo X28 hx (hb hby at_123) (XT.ll_ge_f c30) ?_
        show Gs p e below _ T28 m 126 #[iv q0, .val (.long q1), .second, iv q2, iv q3, iv (q2 &&& (255 : Int32)), iv (q3 &&& (255 : Int32)), rv b1, rv b3, rv b18, rv b1, rv b3, rv b1, .unset, .unset] []
        refine giconst X28 hx (hb hby at_126) ?_
        show Gs p e below _ T28 m 127 #[iv q0, .val (.long q1), .second, iv q2, iv q3, iv (q2 &&& (255 : Int32)), iv (q3 &&& (255 : Int32)), rv b1, rv b3, rv b18, rv b1, rv b3, rv b1, .unset, .unset] [(.int (1 : Int32))]
        refine ggoto X28 hx (pc' := 131) (hb hby at_127) (by decide) (by decide) ?_
        show Gs p e below _ T28 m 131 #[iv q0, .val (.long q1), .second, iv q2, iv q3, iv (q2 &&& (255 : Int32)), iv (q3 &&& (255 : Int32)), rv b1, rv b3, rv b18, rv b1, rv b3, rv b1, .unset, .unset] [(.int (1 : Int32))]
        refine gistore X28 hx (hb hby at_131) trivial (l' := #[iv q0, .val (.long q1), .second, iv q2, iv q3, iv (q2 &&& (255 : Int32)), iv (q3 &&& (255 : Int32)), rv b1, rv b3, rv b18, rv b1, rv b3, rv b1, iv (1 : Int32), .unset]) rfl ?_
        show Gs p e below _ T28 m 133 #[iv q0, .val (.long q1), .second, iv q2, iv q3, iv (q2 &&& (255 : Int32)), iv (q3 &&& (255 : Int32)), rv b1, rv b3, rv b18, rv b1, rv b3, rv b1, iv (1 : Int32), .unset] []
        refine giload X28 hx (hb hby at_133) rfl ?_
        show Gs p e below _ T28 m 135 #[iv q0, .val (.long q1), .second, iv q2, iv q3, iv (q2 &&& (255 : Int32)), iv (q3 &&& (255 : Int32)), rv b1, rv b3, rv b18, rv b1, rv b3, rv b1, iv (1 : Int32), .unset] [(.int (1 : Int32))]
        refine gifNo X28 hx (hb hby at_135) (by decide) ?_
        show Gs p e below _ T28 m 138 #[iv q0, .val (.long q1), .second, iv q2, iv q3, iv (q2 &&& (255 : Int32)), iv (q3 &&& (255 : Int32)), rv b1, rv b3, rv b18, rv b1, rv b3, rv b1, iv (1 : Int32), .unset] []
        refine gaload X28 hx (hb hby at_138) rfl rfl ?_
        show Gs p e below _ T28 m 140 #[iv q0, .val (.long q1), .second, iv q2, iv q3, iv (q2 &&& (255 : Int32)), iv (q3 &&& (255 : Int32)), rv b1, rv b3, rv b18, rv b1, rv b3, rv b1, iv (1 : Int32), .unset] [(.ref b1)]
        refine ggoto X28 hx (pc' := 145) (hb hby at_140) (by decide) (by decide) ?_
        show Gs p e below _ T28 m 145 #[iv q0, .val (.long q1), .second, iv q2, iv q3, iv (q2 &&& (255 : Int32)), iv (q3 &&& (255 : Int32)), rv b1, rv b3, rv b18, rv b1, rv b3, rv b1, iv (1 : Int32), .unset] [(.ref b1)]
        refine gastore X28 hx (hb hby at_145) trivial rfl (l' := #[iv q0, .val (.long q1), .second, iv q2, iv q3, iv (q2 &&& (255 : Int32)), iv (q3 &&& (255 : Int32)), rv b1, rv b3, rv b18, rv b1, rv b3, rv b1, iv (1 : Int32), rv b1]) rfl ?_
        refine gaload X28 hx (hb hby at_147) rfl rfl ?_
        refine gaload X28 hx (hb hby at_149) rfl rfl ?_
        have f32 := ((f19.ext E18).keep K23)
        obtain ⟨cq31, kq31, qa31, qb31, qc31⟩ := isOf hZ eh28 f32
        obtain ⟨_, _, ⟨T31, L31, k31, n31⟩, -, X31, ⟨Lc31, hQ31, l31, y31, z31⟩, st31⟩ := X28.virtualBack hx (y := mN13) (z := mN13) hown (mvT hZ (hwk hw 77 rfl)) (mvT hZ (hwk hw 78 rfl)) (notFace_of_selects (args := #[]) (mvT hZ (hwk hw 80 rfl))) (mvT hZ (hwk hw 80 rfl)) (mvT hZ (hwk hw 79 rfl)) (by decide) (backOf (W := 0) (rmEq l Z a0 hw [] b1 T23.heap n0 Z23 ) hZ (hwk hw 81 rfl) (hwk hw 2 rfl) (by decide) (by decide)) qa31 qc31 (g := (mkF m 151 #[iv q0, .val (.long q1), .second, iv q2, iv q3, iv (q2 &&& (255 : Int32)), iv (q3 &&& (255 : Int32)), rv b1, rv b3, rv b18, rv b1, rv b3, rv b1, iv (1 : Int32), rv b1] [(.ref b1), (.ref b1)])) rfl (by rw [hml]; rfl) (Steps.refl _) (argsL := [(.ref b1)]) (rest := []) (lenOf pd__Ljava_lang_Object__Z_79ae rfl) rfl (by show 2 * 0 + _ ≤ _; exact Nat.le_of_eq rfl) (hb hby at_151) (fun _ _ => ⟨rfl, eh28, (by decide : 10 + 0 ≤ 24), (by decide : 148 + 0 ≤ 2176)⟩)
        dsimp only [Pt.U, Pt.locs, Pt.cells, Pt.slots] at X31 l31 y31 z31 st31 hQ31
        subst l31 y31 z31
        obtain ⟨rfl, N31q, eh31⟩ := hQ31
        have N31 := Fr.app N28 N31q
        refine Goes.sts st31 ?_
        show Gs p e below _ T31 m 154 #[iv q0, .val (.long q1), .second, iv q2, iv q3, iv (q2 &&& (255 : Int32)), iv (q3 &&& (255 : Int32)), rv b1, rv b3, rv b18, rv b1, rv b3, rv b1, iv (1 : Int32), rv b1] [(.int (1 : Int32))]
        refine gifNo X31 hx (hb hby at_154) (by decide) ?_
        show Gs p e below _ T31 m 157 #[iv q0, .val (.long q1), .second, iv q2, iv q3, iv (q2 &&& (255 : Int32)), iv (q3 &&& (255 : Int32)), rv b1, rv b3, rv b18, rv b1, rv b3, rv b1, iv (1 : Int32), rv b1] []
        refine gaload X31 hx (hb hby at_157) rfl rfl ?_
        refine gaload X31 hx (hb hby at_159) rfl rfl ?_
        have f34 := ((f20.ext E18).keep K23)
        obtain ⟨cq33, kq33, qa33, qb33, qc33⟩ := isOf hZ eh31 f34
        obtain ⟨_, _, ⟨T33, L33, k33, n33⟩, -, X33, ⟨Lc33, hQ33, l33, y33, z33⟩, st33⟩ := X31.virtualBack hx (y := mN13) (z := mN13) hown (mvT hZ (hwk hw 77 rfl)) (mvT hZ (hwk hw 78 rfl)) (notFace_of_selects (args := #[]) (mvT hZ (hwk hw 80 rfl))) (mvT hZ (hwk hw 80 rfl)) (mvT hZ (hwk hw 79 rfl)) (by decide) (backOf (W := 0) (rmEq l Z a0 hw [] b3 T23.heap n0 Z23 ) hZ (hwk hw 81 rfl) (hwk hw 2 rfl) (by decide) (by decide)) qa33 qc33 (g := (mkF m 161 #[iv q0, .val (.long q1), .second, iv q2, iv q3, iv (q2 &&& (255 : Int32)), iv (q3 &&& (255 : Int32)), rv b1, rv b3, rv b18, rv b1, rv b3, rv b1, iv (1 : Int32), rv b1] [(.ref b3), (.ref b3)])) rfl (by rw [hml]; rfl) (Steps.refl _) (argsL := [(.ref b3)]) (rest := []) (lenOf pd__Ljava_lang_Object__Z_79ae rfl) rfl (by show 2 * 0 + _ ≤ _; exact Nat.le_of_eq rfl) (hb hby at_161) (fun _ _ => ⟨rfl, eh31, (by decide : 10 + 0 ≤ 24), (by decide : 148 + 0 ≤ 2176)⟩)
        dsimp only [Pt.U, Pt.locs, Pt.cells, Pt.slots] at X33 l33 y33 z33 st33 hQ33
        subst l33 y33 z33
        obtain ⟨rfl, N33q, eh33⟩ := hQ33
        have N33 := Fr.app N31 N33q
        refine Goes.sts st33 ?_
        show Gs p e below _ T33 m 164 #[iv q0, .val (.long q1), .second, iv q2, iv q3, iv (q2 &&& (255 : Int32)), iv (q3 &&& (255 : Int32)), rv b1, rv b3, rv b18, rv b1, rv b3, rv b1, iv (1 : Int32), rv b1] [(.int (1 : Int32))]
        refine gifNo X33 hx (hb hby at_164) (by decide) ?_
        show Gs p e below _ T33 m 167 #[iv q0, .val (.long q1), .second, iv q2, iv q3, iv (q2 &&& (255 : Int32)), iv (q3 &&& (255 : Int32)), rv b1, rv b3, rv b18, rv b1, rv b3, rv b1, iv (1 : Int32), rv b1] []
        refine gaload X33 hx (hb hby at_167) rfl rfl ?_
        refine gaload X33 hx (hb hby at_169) rfl rfl ?_
        obtain ⟨cq35, kq35, qa35, qb35, qc35⟩ := isOf hZ eh33 f32
        obtain ⟨_, _, ⟨T35, L35, k35, n35⟩, -, X35, ⟨Lc35, hQ35, l35, y35, z35⟩, st35⟩ := X33.virtualBack hx (y := mN13) (z := mN13) hown (mvT hZ (hwk hw 77 rfl)) (mvT hZ (hwk hw 78 rfl)) (notFace_of_selects (args := #[]) (mvT hZ (hwk hw 80 rfl))) (mvT hZ (hwk hw 80 rfl)) (mvT hZ (hwk hw 79 rfl)) (by decide) (backOf (W := 0) (rmEq l Z a0 hw [] b1 T23.heap n0 Z23 ) hZ (hwk hw 81 rfl) (hwk hw 2 rfl) (by decide) (by decide)) qa35 qc35 (g := (mkF m 171 #[iv q0, .val (.long q1), .second, iv q2, iv q3, iv (q2 &&& (255 : Int32)), iv (q3 &&& (255 : Int32)), rv b1, rv b3, rv b18, rv b1, rv b3, rv b1, iv (1 : Int32), rv b1] [(.ref b1), (.ref b1)])) rfl (by rw [hml]; rfl) (Steps.refl _) (argsL := [(.ref b1)]) (rest := []) (lenOf pd__Ljava_lang_Object__Z_79ae rfl) rfl (by show 2 * 0 + _ ≤ _; exact Nat.le_of_eq rfl) (hb hby at_171) (fun _ _ => ⟨rfl, eh33, (by decide : 10 + 0 ≤ 24), (by decide : 148 + 0 ≤ 2176)⟩)
        dsimp only [Pt.U, Pt.locs, Pt.cells, Pt.slots] at X35 l35 y35 z35 st35 hQ35
        subst l35 y35 z35
        obtain ⟨rfl, N35q, eh35⟩ := hQ35
        have N35 := Fr.app N33 N35q
        refine Goes.sts st35 ?_
        show Gs p e below _ T35 m 174 #[iv q0, .val (.long q1), .second, iv q2, iv q3, iv (q2 &&& (255 : Int32)), iv (q3 &&& (255 : Int32)), rv b1, rv b3, rv b18, rv b1, rv b3, rv b1, iv (1 : Int32), rv b1] [(.int (1 : Int32))]
        refine gifNo X35 hx (hb hby at_174) (by decide) ?_
        show Gs p e below _ T35 m 177 #[iv q0, .val (.long q1), .second, iv q2, iv q3, iv (q2 &&& (255 : Int32)), iv (q3 &&& (255 : Int32)), rv b1, rv b3, rv b18, rv b1, rv b3, rv b1, iv (1 : Int32), rv b1] []
        refine giconst X35 hx (hb hby at_177) ?_
        show Gs p e below _ T35 m 178 #[iv q0, .val (.long q1), .second, iv q2, iv q3, iv (q2 &&& (255 : Int32)), iv (q3 &&& (255 : Int32)), rv b1, rv b3, rv b18, rv b1, rv b3, rv b1, iv (1 : Int32), rv b1] [(.int (1 : Int32))]
        refine ggoto X35 hx (pc' := 182) (hb hby at_178) (by decide) (by decide) ?_
        show Gs p e below _ T35 m 182 #[iv q0, .val (.long q1), .second, iv q2, iv q3, iv (q2 &&& (255 : Int32)), iv (q3 &&& (255 : Int32)), rv b1, rv b3, rv b18, rv b1, rv b3, rv b1, iv (1 : Int32), rv b1] [(.int (1 : Int32))]
        refine Goes.retN X35 hx hret (by simp) (hb hby at_182) (by decide) (lvV X35 hlk hS (by rw [eh35]; exact hk) (vsome hret) ?_ (by decide) (by decide))
        rw [eh35]
        exact ⟨rfl, N35⟩
      · refine gifYes X28 hx (pc' := 130) (hb hby at_123) (XT.ll_ge_t c30) (by decide) (by decide) ?_
        show Gs p e below _ T28 m 130 #[iv q0, .val (.long q1), .second, iv q2, iv q3, iv (q2 &&& (255 : Int32)), iv (q3 &&& (255 : Int32)), rv b1, rv b3, rv b18, rv b1, rv b3, rv b1, .unset, .unset] []
        refine giconst X28 hx (hb hby at_130) ?_
        refine gistore X28 hx (hb hby at_131) trivial (l' := #[iv q0, .val (.long q1), .second, iv q2, iv q3, iv (q2 &&& (255 : Int32)), iv (q3 &&& (255 : Int32)), rv b1, rv b3, rv b18, rv b1, rv b3, rv b1, iv (0 : Int32), .unset]) rfl ?_
        show Gs p e below _ T28 m 133 #[iv q0, .val (.long q1), .second, iv q2, iv q3, iv (q2 &&& (255 : Int32)), iv (q3 &&& (255 : Int32)), rv b1, rv b3, rv b18, rv b1, rv b3, rv b1, iv (0 : Int32), .unset] []
        exact absurd (own_b2 (q := q0) c29).2 c30
    · refine gifNo X28 hx (hb hby at_93) (XT.ll_lt_f c29) ?_
      show Gs p e below _ T28 m 96 #[iv q0, .val (.long q1), .second, iv q2, iv q3, iv (q2 &&& (255 : Int32)), iv (q3 &&& (255 : Int32)), rv b1, rv b3, rv b18, rv b1, rv b3, rv b1, .unset, .unset] []
      refine glloadN X28 hx (hb hby at_96) rfl ?_
      show Gs p e below _ T28 m 97 #[iv q0, .val (.long q1), .second, iv q2, iv q3, iv (q2 &&& (255 : Int32)), iv (q3 &&& (255 : Int32)), rv b1, rv b3, rv b18, rv b1, rv b3, rv b1, .unset, .unset] [(.long q1)]
      refine Goes.st (fun tg kg => X28.ldc2Long hx hown (mvT hZ (hwk hw 76 rfl)) (g := (mkF m 97 #[iv q0, .val (.long q1), .second, iv q2, iv q3, iv (q2 &&& (255 : Int32)), iv (q3 &&& (255 : Int32)), rv b1, rv b3, rv b18, rv b1, rv b3, rv b1, .unset, .unset] [(.long q1)])) rfl (hb hby at_97) tg kg) ?_
      show Gs p e below _ T28 m 100 #[iv q0, .val (.long q1), .second, iv q2, iv q3, iv (q2 &&& (255 : Int32)), iv (q3 &&& (255 : Int32)), rv b1, rv b3, rv b18, rv b1, rv b3, rv b1, .unset, .unset] [(.long (2147483647 : Int64)), (.long q1)]
      refine Goes.st (fun tg kg => XT.lcmp X28.here hx rfl (hb hby at_100) rfl kg) ?_
      show Gs p e below _ T28 m 101 #[iv q0, .val (.long q1), .second, iv q2, iv q3, iv (q2 &&& (255 : Int32)), iv (q3 &&& (255 : Int32)), rv b1, rv b3, rv b18, rv b1, rv b3, rv b1, .unset, .unset] [(.int (XT.cmpL q1 (2147483647 : Int64)))]
      by_cases c36 : (2147483647 : Int64) < q1
      · refine gifYes X28 hx (pc' := 120) (hb hby at_101) (XT.ll_gt_t c36) (by decide) (by decide) ?_
        show Gs p e below _ T28 m 120 #[iv q0, .val (.long q1), .second, iv q2, iv q3, iv (q2 &&& (255 : Int32)), iv (q3 &&& (255 : Int32)), rv b1, rv b3, rv b18, rv b1, rv b3, rv b1, .unset, .unset] []
        refine glloadN X28 hx (hb hby at_120) rfl ?_
        refine Goes.st (fun tg kg => XT.lconst X28.here hx rfl (hb hby at_121) kg) ?_
        refine Goes.st (fun tg kg => XT.lcmp X28.here hx rfl (hb hby at_122) rfl kg) ?_
        show Gs p e below _ T28 m 123 #[iv q0, .val (.long q1), .second, iv q2, iv q3, iv (q2 &&& (255 : Int32)), iv (q3 &&& (255 : Int32)), rv b1, rv b3, rv b18, rv b1, rv b3, rv b1, .unset, .unset] [(.int (XT.cmpL q1 (0 : Int64)))]
        by_cases c37 : q1 < (0 : Int64)
        · refine gifNo X28 hx (hb hby at_123) (XT.ll_ge_f c37) ?_
          show Gs p e below _ T28 m 126 #[iv q0, .val (.long q1), .second, iv q2, iv q3, iv (q2 &&& (255 : Int32)), iv (q3 &&& (255 : Int32)), rv b1, rv b3, rv b18, rv b1, rv b3, rv b1, .unset, .unset] []
          refine giconst X28 hx (hb hby at_126) ?_
          show Gs p e below _ T28 m 127 #[iv q0, .val (.long q1), .second, iv q2, iv q3, iv (q2 &&& (255 : Int32)), iv (q3 &&& (255 : Int32)), rv b1, rv b3, rv b18, rv b1, rv b3, rv b1, .unset, .unset] [(.int (1 : Int32))]
          refine ggoto X28 hx (pc' := 131) (hb hby at_127) (by decide) (by decide) ?_
          show Gs p e below _ T28 m 131 #[iv q0, .val (.long q1), .second, iv q2, iv q3, iv (q2 &&& (255 : Int32)), iv (q3 &&& (255 : Int32)), rv b1, rv b3, rv b18, rv b1, rv b3, rv b1, .unset, .unset] [(.int (1 : Int32))]
          refine gistore X28 hx (hb hby at_131) trivial (l' := #[iv q0, .val (.long q1), .second, iv q2, iv q3, iv (q2 &&& (255 : Int32)), iv (q3 &&& (255 : Int32)), rv b1, rv b3, rv b18, rv b1, rv b3, rv b1, iv (1 : Int32), .unset]) rfl ?_
          show Gs p e below _ T28 m 133 #[iv q0, .val (.long q1), .second, iv q2, iv q3, iv (q2 &&& (255 : Int32)), iv (q3 &&& (255 : Int32)), rv b1, rv b3, rv b18, rv b1, rv b3, rv b1, iv (1 : Int32), .unset] []
          refine giload X28 hx (hb hby at_133) rfl ?_
          show Gs p e below _ T28 m 135 #[iv q0, .val (.long q1), .second, iv q2, iv q3, iv (q2 &&& (255 : Int32)), iv (q3 &&& (255 : Int32)), rv b1, rv b3, rv b18, rv b1, rv b3, rv b1, iv (1 : Int32), .unset] [(.int (1 : Int32))]
          refine gifNo X28 hx (hb hby at_135) (by decide) ?_
          show Gs p e below _ T28 m 138 #[iv q0, .val (.long q1), .second, iv q2, iv q3, iv (q2 &&& (255 : Int32)), iv (q3 &&& (255 : Int32)), rv b1, rv b3, rv b18, rv b1, rv b3, rv b1, iv (1 : Int32), .unset] []
          refine gaload X28 hx (hb hby at_138) rfl rfl ?_
          show Gs p e below _ T28 m 140 #[iv q0, .val (.long q1), .second, iv q2, iv q3, iv (q2 &&& (255 : Int32)), iv (q3 &&& (255 : Int32)), rv b1, rv b3, rv b18, rv b1, rv b3, rv b1, iv (1 : Int32), .unset] [(.ref b1)]
          refine ggoto X28 hx (pc' := 145) (hb hby at_140) (by decide) (by decide) ?_
          show Gs p e below _ T28 m 145 #[iv q0, .val (.long q1), .second, iv q2, iv q3, iv (q2 &&& (255 : Int32)), iv (q3 &&& (255 : Int32)), rv b1, rv b3, rv b18, rv b1, rv b3, rv b1, iv (1 : Int32), .unset] [(.ref b1)]
          refine gastore X28 hx (hb hby at_145) trivial rfl (l' := #[iv q0, .val (.long q1), .second, iv q2, iv q3, iv (q2 &&& (255 : Int32)), iv (q3 &&& (255 : Int32)), rv b1, rv b3, rv b18, rv b1, rv b3, rv b1, iv (1 : Int32), rv b1]) rfl ?_
          refine gaload X28 hx (hb hby at_147) rfl rfl ?_
          refine gaload X28 hx (hb hby at_149) rfl rfl ?_
          have f39 := ((f19.ext E18).keep K23)
          obtain ⟨cq38, kq38, qa38, qb38, qc38⟩ := isOf hZ eh28 f39
          obtain ⟨_, _, ⟨T38, L38, k38, n38⟩, -, X38, ⟨Lc38, hQ38, l38, y38, z38⟩, st38⟩ := X28.virtualBack hx (y := mN13) (z := mN13) hown (mvT hZ (hwk hw 77 rfl)) (mvT hZ (hwk hw 78 rfl)) (notFace_of_selects (args := #[]) (mvT hZ (hwk hw 80 rfl))) (mvT hZ (hwk hw 80 rfl)) (mvT hZ (hwk hw 79 rfl)) (by decide) (backOf (W := 0) (rmEq l Z a0 hw [] b1 T23.heap n0 Z23 ) hZ (hwk hw 81 rfl) (hwk hw 2 rfl) (by decide) (by decide)) qa38 qc38 (g := (mkF m 151 #[iv q0, .val (.long q1), .second, iv q2, iv q3, iv (q2 &&& (255 : Int32)), iv (q3 &&& (255 : Int32)), rv b1, rv b3, rv b18, rv b1, rv b3, rv b1, iv (1 : Int32), rv b1] [(.ref b1), (.ref b1)])) rfl (by rw [hml]; rfl) (Steps.refl _) (argsL := [(.ref b1)]) (rest := []) (lenOf pd__Ljava_lang_Object__Z_79ae rfl) rfl (by show 2 * 0 + _ ≤ _; exact Nat.le_of_eq rfl) (hb hby at_151) (fun _ _ => ⟨rfl, eh28, (by decide : 10 + 0 ≤ 24), (by decide : 148 + 0 ≤ 2176)⟩)
          dsimp only [Pt.U, Pt.locs, Pt.cells, Pt.slots] at X38 l38 y38 z38 st38 hQ38
          subst l38 y38 z38
          obtain ⟨rfl, N38q, eh38⟩ := hQ38
          have N38 := Fr.app N28 N38q
          refine Goes.sts st38 ?_
          show Gs p e below _ T38 m 154 #[iv q0, .val (.long q1), .second, iv q2, iv q3, iv (q2 &&& (255 : Int32)), iv (q3 &&& (255 : Int32)), rv b1, rv b3, rv b18, rv b1, rv b3, rv b1, iv (1 : Int32), rv b1] [(.int (1 : Int32))]
          refine gifNo X38 hx (hb hby at_154) (by decide) ?_
          show Gs p e below _ T38 m 157 #[iv q0, .val (.long q1), .second, iv q2, iv q3, iv (q2 &&& (255 : Int32)), iv (q3 &&& (255 : Int32)), rv b1, rv b3, rv b18, rv b1, rv b3, rv b1, iv (1 : Int32), rv b1] []
          refine gaload X38 hx (hb hby at_157) rfl rfl ?_
          refine gaload X38 hx (hb hby at_159) rfl rfl ?_
          have f41 := ((f20.ext E18).keep K23)
          obtain ⟨cq40, kq40, qa40, qb40, qc40⟩ := isOf hZ eh38 f41
          obtain ⟨_, _, ⟨T40, L40, k40, n40⟩, -, X40, ⟨Lc40, hQ40, l40, y40, z40⟩, st40⟩ := X38.virtualBack hx (y := mN13) (z := mN13) hown (mvT hZ (hwk hw 77 rfl)) (mvT hZ (hwk hw 78 rfl)) (notFace_of_selects (args := #[]) (mvT hZ (hwk hw 80 rfl))) (mvT hZ (hwk hw 80 rfl)) (mvT hZ (hwk hw 79 rfl)) (by decide) (backOf (W := 0) (rmEq l Z a0 hw [] b3 T23.heap n0 Z23 ) hZ (hwk hw 81 rfl) (hwk hw 2 rfl) (by decide) (by decide)) qa40 qc40 (g := (mkF m 161 #[iv q0, .val (.long q1), .second, iv q2, iv q3, iv (q2 &&& (255 : Int32)), iv (q3 &&& (255 : Int32)), rv b1, rv b3, rv b18, rv b1, rv b3, rv b1, iv (1 : Int32), rv b1] [(.ref b3), (.ref b3)])) rfl (by rw [hml]; rfl) (Steps.refl _) (argsL := [(.ref b3)]) (rest := []) (lenOf pd__Ljava_lang_Object__Z_79ae rfl) rfl (by show 2 * 0 + _ ≤ _; exact Nat.le_of_eq rfl) (hb hby at_161) (fun _ _ => ⟨rfl, eh38, (by decide : 10 + 0 ≤ 24), (by decide : 148 + 0 ≤ 2176)⟩)
          dsimp only [Pt.U, Pt.locs, Pt.cells, Pt.slots] at X40 l40 y40 z40 st40 hQ40
          subst l40 y40 z40
          obtain ⟨rfl, N40q, eh40⟩ := hQ40
          have N40 := Fr.app N38 N40q
          refine Goes.sts st40 ?_
          show Gs p e below _ T40 m 164 #[iv q0, .val (.long q1), .second, iv q2, iv q3, iv (q2 &&& (255 : Int32)), iv (q3 &&& (255 : Int32)), rv b1, rv b3, rv b18, rv b1, rv b3, rv b1, iv (1 : Int32), rv b1] [(.int (1 : Int32))]
          refine gifNo X40 hx (hb hby at_164) (by decide) ?_
          show Gs p e below _ T40 m 167 #[iv q0, .val (.long q1), .second, iv q2, iv q3, iv (q2 &&& (255 : Int32)), iv (q3 &&& (255 : Int32)), rv b1, rv b3, rv b18, rv b1, rv b3, rv b1, iv (1 : Int32), rv b1] []
          refine gaload X40 hx (hb hby at_167) rfl rfl ?_
          refine gaload X40 hx (hb hby at_169) rfl rfl ?_
          obtain ⟨cq42, kq42, qa42, qb42, qc42⟩ := isOf hZ eh40 f39
          obtain ⟨_, _, ⟨T42, L42, k42, n42⟩, -, X42, ⟨Lc42, hQ42, l42, y42, z42⟩, st42⟩ := X40.virtualBack hx (y := mN13) (z := mN13) hown (mvT hZ (hwk hw 77 rfl)) (mvT hZ (hwk hw 78 rfl)) (notFace_of_selects (args := #[]) (mvT hZ (hwk hw 80 rfl))) (mvT hZ (hwk hw 80 rfl)) (mvT hZ (hwk hw 79 rfl)) (by decide) (backOf (W := 0) (rmEq l Z a0 hw [] b1 T23.heap n0 Z23 ) hZ (hwk hw 81 rfl) (hwk hw 2 rfl) (by decide) (by decide)) qa42 qc42 (g := (mkF m 171 #[iv q0, .val (.long q1), .second, iv q2, iv q3, iv (q2 &&& (255 : Int32)), iv (q3 &&& (255 : Int32)), rv b1, rv b3, rv b18, rv b1, rv b3, rv b1, iv (1 : Int32), rv b1] [(.ref b1), (.ref b1)])) rfl (by rw [hml]; rfl) (Steps.refl _) (argsL := [(.ref b1)]) (rest := []) (lenOf pd__Ljava_lang_Object__Z_79ae rfl) rfl (by show 2 * 0 + _ ≤ _; exact Nat.le_of_eq rfl) (hb hby at_171) (fun _ _ => ⟨rfl, eh40, (by decide : 10 + 0 ≤ 24), (by decide : 148 + 0 ≤ 2176)⟩)
          dsimp only [Pt.U, Pt.locs, Pt.cells, Pt.slots] at X42 l42 y42 z42 st42 hQ42
          subst l42 y42 z42
          obtain ⟨rfl, N42q, eh42⟩ := hQ42
          have N42 := Fr.app N40 N42q
          refine Goes.sts st42 ?_
          show Gs p e below _ T42 m 174 #[iv q0, .val (.long q1), .second, iv q2, iv q3, iv (q2 &&& (255 : Int32)), iv (q3 &&& (255 : Int32)), rv b1, rv b3, rv b18, rv b1, rv b3, rv b1, iv (1 : Int32), rv b1] [(.int (1 : Int32))]
          refine gifNo X42 hx (hb hby at_174) (by decide) ?_
          show Gs p e below _ T42 m 177 #[iv q0, .val (.long q1), .second, iv q2, iv q3, iv (q2 &&& (255 : Int32)), iv (q3 &&& (255 : Int32)), rv b1, rv b3, rv b18, rv b1, rv b3, rv b1, iv (1 : Int32), rv b1] []
          refine giconst X42 hx (hb hby at_177) ?_
          show Gs p e below _ T42 m 178 #[iv q0, .val (.long q1), .second, iv q2, iv q3, iv (q2 &&& (255 : Int32)), iv (q3 &&& (255 : Int32)), rv b1, rv b3, rv b18, rv b1, rv b3, rv b1, iv (1 : Int32), rv b1] [(.int (1 : Int32))]
          refine ggoto X42 hx (pc' := 182) (hb hby at_178) (by decide) (by decide) ?_
          show Gs p e below _ T42 m 182 #[iv q0, .val (.long q1), .second, iv q2, iv q3, iv (q2 &&& (255 : Int32)), iv (q3 &&& (255 : Int32)), rv b1, rv b3, rv b18, rv b1, rv b3, rv b1, iv (1 : Int32), rv b1] [(.int (1 : Int32))]
          refine Goes.retN X42 hx hret (by simp) (hb hby at_182) (by decide) (lvV X42 hlk hS (by rw [eh42]; exact hk) (vsome hret) ?_ (by decide) (by decide))
          rw [eh42]
          exact ⟨rfl, N42⟩
        · refine gifYes X28 hx (pc' := 130) (hb hby at_123) (XT.ll_ge_t c37) (by decide) (by decide) ?_
          show Gs p e below _ T28 m 130 #[iv q0, .val (.long q1), .second, iv q2, iv q3, iv (q2 &&& (255 : Int32)), iv (q3 &&& (255 : Int32)), rv b1, rv b3, rv b18, rv b1, rv b3, rv b1, .unset, .unset] []
          refine giconst X28 hx (hb hby at_130) ?_
          refine gistore X28 hx (hb hby at_131) trivial (l' := #[iv q0, .val (.long q1), .second, iv q2, iv q3, iv (q2 &&& (255 : Int32)), iv (q3 &&& (255 : Int32)), rv b1, rv b3, rv b18, rv b1, rv b3, rv b1, iv (0 : Int32), .unset]) rfl ?_
          show Gs p e below _ T28 m 133 #[iv q0, .val (.long q1), .second, iv q2, iv q3, iv (q2 &&& (255 : Int32)), iv (q3 &&& (255 : Int32)), rv b1, rv b3, rv b18, rv b1, rv b3, rv b1, iv (0 : Int32), .unset] []
          exact absurd hbe (own_b3 (q := q0) c36).1
      · refine gifNo X28 hx (hb hby at_101) (XT.ll_gt_f c36) ?_
        show Gs p e below _ T28 m 104 #[iv q0, .val (.long q1), .second, iv q2, iv q3, iv (q2 &&& (255 : Int32)), iv (q3 &&& (255 : Int32)), rv b1, rv b3, rv b18, rv b1, rv b3, rv b1, .unset, .unset] []
        refine glloadN X28 hx (hb hby at_104) rfl ?_
        show Gs p e below _ T28 m 105 #[iv q0, .val (.long q1), .second, iv q2, iv q3, iv (q2 &&& (255 : Int32)), iv (q3 &&& (255 : Int32)), rv b1, rv b3, rv b18, rv b1, rv b3, rv b1, .unset, .unset] [(.long q1)]
        refine Goes.st (fun tg kg => XT.l2i X28.here hx rfl (hb hby at_105) rfl kg) ?_
        show Gs p e below _ T28 m 106 #[iv q0, .val (.long q1), .second, iv q2, iv q3, iv (q2 &&& (255 : Int32)), iv (q3 &&& (255 : Int32)), rv b1, rv b3, rv b18, rv b1, rv b3, rv b1, .unset, .unset] [(.int (q1).toInt32)]
        refine giloadN X28 hx (hb hby at_106) rfl ?_
        show Gs p e below _ T28 m 107 #[iv q0, .val (.long q1), .second, iv q2, iv q3, iv (q2 &&& (255 : Int32)), iv (q3 &&& (255 : Int32)), rv b1, rv b3, rv b18, rv b1, rv b3, rv b1, .unset, .unset] [(.int q0), (.int (q1).toInt32)]
        by_cases c43 : (q1).toInt32 < q0
        · refine gicmpNo X28 hx (hb hby at_107) (tlt c43).2.1 ?_
          show Gs p e below _ T28 m 110 #[iv q0, .val (.long q1), .second, iv q2, iv q3, iv (q2 &&& (255 : Int32)), iv (q3 &&& (255 : Int32)), rv b1, rv b3, rv b18, rv b1, rv b3, rv b1, .unset, .unset] []
          refine giconst X28 hx (hb hby at_110) ?_
          show Gs p e below _ T28 m 111 #[iv q0, .val (.long q1), .second, iv q2, iv q3, iv (q2 &&& (255 : Int32)), iv (q3 &&& (255 : Int32)), rv b1, rv b3, rv b18, rv b1, rv b3, rv b1, .unset, .unset] [(.int (1 : Int32))]
          refine ggoto X28 hx (pc' := 115) (hb hby at_111) (by decide) (by decide) ?_
          show Gs p e below _ T28 m 115 #[iv q0, .val (.long q1), .second, iv q2, iv q3, iv (q2 &&& (255 : Int32)), iv (q3 &&& (255 : Int32)), rv b1, rv b3, rv b18, rv b1, rv b3, rv b1, .unset, .unset] [(.int (1 : Int32))]
          refine gistore X28 hx (hb hby at_115) trivial (l' := #[iv q0, .val (.long q1), .second, iv q2, iv q3, iv (q2 &&& (255 : Int32)), iv (q3 &&& (255 : Int32)), rv b1, rv b3, rv b18, rv b1, rv b3, rv b1, iv (1 : Int32), .unset]) rfl ?_
          show Gs p e below _ T28 m 117 #[iv q0, .val (.long q1), .second, iv q2, iv q3, iv (q2 &&& (255 : Int32)), iv (q3 &&& (255 : Int32)), rv b1, rv b3, rv b18, rv b1, rv b3, rv b1, iv (1 : Int32), .unset] []
          refine ggoto X28 hx (pc' := 133) (hb hby at_117) (by decide) (by decide) ?_
          show Gs p e below _ T28 m 133 #[iv q0, .val (.long q1), .second, iv q2, iv q3, iv (q2 &&& (255 : Int32)), iv (q3 &&& (255 : Int32)), rv b1, rv b3, rv b18, rv b1, rv b3, rv b1, iv (1 : Int32), .unset] []
          refine giload X28 hx (hb hby at_133) rfl ?_
          show Gs p e below _ T28 m 135 #[iv q0, .val (.long q1), .second, iv q2, iv q3, iv (q2 &&& (255 : Int32)), iv (q3 &&& (255 : Int32)), rv b1, rv b3, rv b18, rv b1, rv b3, rv b1, iv (1 : Int32), .unset] [(.int (1 : Int32))]
          refine gifNo X28 hx (hb hby at_135) (by decide) ?_
          show Gs p e below _ T28 m 138 #[iv q0, .val (.long q1), .second, iv q2, iv q3, iv (q2 &&& (255 : Int32)), iv (q3 &&& (255 : Int32)), rv b1, rv b3, rv b18, rv b1, rv b3, rv b1, iv (1 : Int32), .unset] []
          refine gaload X28 hx (hb hby at_138) rfl rfl ?_
          show Gs p e below _ T28 m 140 #[iv q0, .val (.long q1), .second, iv q2, iv q3, iv (q2 &&& (255 : Int32)), iv (q3 &&& (255 : Int32)), rv b1, rv b3, rv b18, rv b1, rv b3, rv b1, iv (1 : Int32), .unset] [(.ref b1)]
          refine ggoto X28 hx (pc' := 145) (hb hby at_140) (by decide) (by decide) ?_
          show Gs p e below _ T28 m 145 #[iv q0, .val (.long q1), .second, iv q2, iv q3, iv (q2 &&& (255 : Int32)), iv (q3 &&& (255 : Int32)), rv b1, rv b3, rv b18, rv b1, rv b3, rv b1, iv (1 : Int32), .unset] [(.ref b1)]
          refine gastore X28 hx (hb hby at_145) trivial rfl (l' := #[iv q0, .val (.long q1), .second, iv q2, iv q3, iv (q2 &&& (255 : Int32)), iv (q3 &&& (255 : Int32)), rv b1, rv b3, rv b18, rv b1, rv b3, rv b1, iv (1 : Int32), rv b1]) rfl ?_
          refine gaload X28 hx (hb hby at_147) rfl rfl ?_
          refine gaload X28 hx (hb hby at_149) rfl rfl ?_
          have f45 := ((f19.ext E18).keep K23)
          obtain ⟨cq44, kq44, qa44, qb44, qc44⟩ := isOf hZ eh28 f45
          obtain ⟨_, _, ⟨T44, L44, k44, n44⟩, -, X44, ⟨Lc44, hQ44, l44, y44, z44⟩, st44⟩ := X28.virtualBack hx (y := mN13) (z := mN13) hown (mvT hZ (hwk hw 77 rfl)) (mvT hZ (hwk hw 78 rfl)) (notFace_of_selects (args := #[]) (mvT hZ (hwk hw 80 rfl))) (mvT hZ (hwk hw 80 rfl)) (mvT hZ (hwk hw 79 rfl)) (by decide) (backOf (W := 0) (rmEq l Z a0 hw [] b1 T23.heap n0 Z23 ) hZ (hwk hw 81 rfl) (hwk hw 2 rfl) (by decide) (by decide)) qa44 qc44 (g := (mkF m 151 #[iv q0, .val (.long q1), .second, iv q2, iv q3, iv (q2 &&& (255 : Int32)), iv (q3 &&& (255 : Int32)), rv b1, rv b3, rv b18, rv b1, rv b3, rv b1, iv (1 : Int32), rv b1] [(.ref b1), (.ref b1)])) rfl (by rw [hml]; rfl) (Steps.refl _) (argsL := [(.ref b1)]) (rest := []) (lenOf pd__Ljava_lang_Object__Z_79ae rfl) rfl (by show 2 * 0 + _ ≤ _; exact Nat.le_of_eq rfl) (hb hby at_151) (fun _ _ => ⟨rfl, eh28, (by decide : 10 + 0 ≤ 24), (by decide : 148 + 0 ≤ 2176)⟩)
          dsimp only [Pt.U, Pt.locs, Pt.cells, Pt.slots] at X44 l44 y44 z44 st44 hQ44
          subst l44 y44 z44
          obtain ⟨rfl, N44q, eh44⟩ := hQ44
          have N44 := Fr.app N28 N44q
          refine Goes.sts st44 ?_
          show Gs p e below _ T44 m 154 #[iv q0, .val (.long q1), .second, iv q2, iv q3, iv (q2 &&& (255 : Int32)), iv (q3 &&& (255 : Int32)), rv b1, rv b3, rv b18, rv b1, rv b3, rv b1, iv (1 : Int32), rv b1] [(.int (1 : Int32))]
          refine gifNo X44 hx (hb hby at_154) (by decide) ?_
          show Gs p e below _ T44 m 157 #[iv q0, .val (.long q1), .second, iv q2, iv q3, iv (q2 &&& (255 : Int32)), iv (q3 &&& (255 : Int32)), rv b1, rv b3, rv b18, rv b1, rv b3, rv b1, iv (1 : Int32), rv b1] []
          refine gaload X44 hx (hb hby at_157) rfl rfl ?_
          refine gaload X44 hx (hb hby at_159) rfl rfl ?_
          have f47 := ((f20.ext E18).keep K23)
          obtain ⟨cq46, kq46, qa46, qb46, qc46⟩ := isOf hZ eh44 f47
          obtain ⟨_, _, ⟨T46, L46, k46, n46⟩, -, X46, ⟨Lc46, hQ46, l46, y46, z46⟩, st46⟩ := X44.virtualBack hx (y := mN13) (z := mN13) hown (mvT hZ (hwk hw 77 rfl)) (mvT hZ (hwk hw 78 rfl)) (notFace_of_selects (args := #[]) (mvT hZ (hwk hw 80 rfl))) (mvT hZ (hwk hw 80 rfl)) (mvT hZ (hwk hw 79 rfl)) (by decide) (backOf (W := 0) (rmEq l Z a0 hw [] b3 T23.heap n0 Z23 ) hZ (hwk hw 81 rfl) (hwk hw 2 rfl) (by decide) (by decide)) qa46 qc46 (g := (mkF m 161 #[iv q0, .val (.long q1), .second, iv q2, iv q3, iv (q2 &&& (255 : Int32)), iv (q3 &&& (255 : Int32)), rv b1, rv b3, rv b18, rv b1, rv b3, rv b1, iv (1 : Int32), rv b1] [(.ref b3), (.ref b3)])) rfl (by rw [hml]; rfl) (Steps.refl _) (argsL := [(.ref b3)]) (rest := []) (lenOf pd__Ljava_lang_Object__Z_79ae rfl) rfl (by show 2 * 0 + _ ≤ _; exact Nat.le_of_eq rfl) (hb hby at_161) (fun _ _ => ⟨rfl, eh44, (by decide : 10 + 0 ≤ 24), (by decide : 148 + 0 ≤ 2176)⟩)
          dsimp only [Pt.U, Pt.locs, Pt.cells, Pt.slots] at X46 l46 y46 z46 st46 hQ46
          subst l46 y46 z46
          obtain ⟨rfl, N46q, eh46⟩ := hQ46
          have N46 := Fr.app N44 N46q
          refine Goes.sts st46 ?_
          show Gs p e below _ T46 m 164 #[iv q0, .val (.long q1), .second, iv q2, iv q3, iv (q2 &&& (255 : Int32)), iv (q3 &&& (255 : Int32)), rv b1, rv b3, rv b18, rv b1, rv b3, rv b1, iv (1 : Int32), rv b1] [(.int (1 : Int32))]
          refine gifNo X46 hx (hb hby at_164) (by decide) ?_
          show Gs p e below _ T46 m 167 #[iv q0, .val (.long q1), .second, iv q2, iv q3, iv (q2 &&& (255 : Int32)), iv (q3 &&& (255 : Int32)), rv b1, rv b3, rv b18, rv b1, rv b3, rv b1, iv (1 : Int32), rv b1] []
          refine gaload X46 hx (hb hby at_167) rfl rfl ?_
          refine gaload X46 hx (hb hby at_169) rfl rfl ?_
          obtain ⟨cq48, kq48, qa48, qb48, qc48⟩ := isOf hZ eh46 f45
          obtain ⟨_, _, ⟨T48, L48, k48, n48⟩, -, X48, ⟨Lc48, hQ48, l48, y48, z48⟩, st48⟩ := X46.virtualBack hx (y := mN13) (z := mN13) hown (mvT hZ (hwk hw 77 rfl)) (mvT hZ (hwk hw 78 rfl)) (notFace_of_selects (args := #[]) (mvT hZ (hwk hw 80 rfl))) (mvT hZ (hwk hw 80 rfl)) (mvT hZ (hwk hw 79 rfl)) (by decide) (backOf (W := 0) (rmEq l Z a0 hw [] b1 T23.heap n0 Z23 ) hZ (hwk hw 81 rfl) (hwk hw 2 rfl) (by decide) (by decide)) qa48 qc48 (g := (mkF m 171 #[iv q0, .val (.long q1), .second, iv q2, iv q3, iv (q2 &&& (255 : Int32)), iv (q3 &&& (255 : Int32)), rv b1, rv b3, rv b18, rv b1, rv b3, rv b1, iv (1 : Int32), rv b1] [(.ref b1), (.ref b1)])) rfl (by rw [hml]; rfl) (Steps.refl _) (argsL := [(.ref b1)]) (rest := []) (lenOf pd__Ljava_lang_Object__Z_79ae rfl) rfl (by show 2 * 0 + _ ≤ _; exact Nat.le_of_eq rfl) (hb hby at_171) (fun _ _ => ⟨rfl, eh46, (by decide : 10 + 0 ≤ 24), (by decide : 148 + 0 ≤ 2176)⟩)
          dsimp only [Pt.U, Pt.locs, Pt.cells, Pt.slots] at X48 l48 y48 z48 st48 hQ48
          subst l48 y48 z48
          obtain ⟨rfl, N48q, eh48⟩ := hQ48
          have N48 := Fr.app N46 N48q
          refine Goes.sts st48 ?_
          show Gs p e below _ T48 m 174 #[iv q0, .val (.long q1), .second, iv q2, iv q3, iv (q2 &&& (255 : Int32)), iv (q3 &&& (255 : Int32)), rv b1, rv b3, rv b18, rv b1, rv b3, rv b1, iv (1 : Int32), rv b1] [(.int (1 : Int32))]
          refine gifNo X48 hx (hb hby at_174) (by decide) ?_
          show Gs p e below _ T48 m 177 #[iv q0, .val (.long q1), .second, iv q2, iv q3, iv (q2 &&& (255 : Int32)), iv (q3 &&& (255 : Int32)), rv b1, rv b3, rv b18, rv b1, rv b3, rv b1, iv (1 : Int32), rv b1] []
          refine giconst X48 hx (hb hby at_177) ?_
          show Gs p e below _ T48 m 178 #[iv q0, .val (.long q1), .second, iv q2, iv q3, iv (q2 &&& (255 : Int32)), iv (q3 &&& (255 : Int32)), rv b1, rv b3, rv b18, rv b1, rv b3, rv b1, iv (1 : Int32), rv b1] [(.int (1 : Int32))]
          refine ggoto X48 hx (pc' := 182) (hb hby at_178) (by decide) (by decide) ?_
          show Gs p e below _ T48 m 182 #[iv q0, .val (.long q1), .second, iv q2, iv q3, iv (q2 &&& (255 : Int32)), iv (q3 &&& (255 : Int32)), rv b1, rv b3, rv b18, rv b1, rv b3, rv b1, iv (1 : Int32), rv b1] [(.int (1 : Int32))]
          refine Goes.retN X48 hx hret (by simp) (hb hby at_182) (by decide) (lvV X48 hlk hS (by rw [eh48]; exact hk) (vsome hret) ?_ (by decide) (by decide))
          rw [eh48]
          exact ⟨rfl, N48⟩
        · refine gicmpYes X28 hx (pc' := 114) (hb hby at_107) (flt c43).2.1 (by decide) (by decide) ?_
          show Gs p e below _ T28 m 114 #[iv q0, .val (.long q1), .second, iv q2, iv q3, iv (q2 &&& (255 : Int32)), iv (q3 &&& (255 : Int32)), rv b1, rv b3, rv b18, rv b1, rv b3, rv b1, .unset, .unset] []
          refine giconst X28 hx (hb hby at_114) ?_
          refine gistore X28 hx (hb hby at_115) trivial (l' := #[iv q0, .val (.long q1), .second, iv q2, iv q3, iv (q2 &&& (255 : Int32)), iv (q3 &&& (255 : Int32)), rv b1, rv b3, rv b18, rv b1, rv b3, rv b1, iv (0 : Int32), .unset]) rfl ?_
          show Gs p e below _ T28 m 117 #[iv q0, .val (.long q1), .second, iv q2, iv q3, iv (q2 &&& (255 : Int32)), iv (q3 &&& (255 : Int32)), rv b1, rv b3, rv b18, rv b1, rv b3, rv b1, iv (0 : Int32), .unset] []
          refine ggoto X28 hx (pc' := 133) (hb hby at_117) (by decide) (by decide) ?_
          show Gs p e below _ T28 m 133 #[iv q0, .val (.long q1), .second, iv q2, iv q3, iv (q2 &&& (255 : Int32)), iv (q3 &&& (255 : Int32)), rv b1, rv b3, rv b18, rv b1, rv b3, rv b1, iv (0 : Int32), .unset] []
          exact absurd ((own_b1 c29 c36).mpr hbe) c43
  · refine gaload X23 hx (hb hby at_60) rfl rfl ?_
    refine glloadN X23 hx (hb hby at_62) rfl ?_
    have f50 := (A18.keep K23)
    obtain ⟨cq49, kq49, qa49, qb49, qc49⟩ := isOf hZ rfl f50
    obtain ⟨_, _, ⟨T49, L49, k49, n49⟩, -, X49, ⟨Lc49, hQ49, l49, y49, z49⟩, st49⟩ := X23.virtualBack hx (y := mN12) (z := mN12) hown (mvT hZ (hwk hw 70 rfl)) (mvT hZ (hwk hw 71 rfl)) (notFace_of_selects (args := #[]) (mvT hZ (hwk hw 73 rfl))) (mvT hZ (hwk hw 73 rfl)) (mvT hZ (hwk hw 72 rfl)) (by decide) (backOf (W := 0) (rmPb l Z a0 hw [] b18 q1 q0 b1 b3 T23.heap n0 Z23 R23_0 R23_1 R23_2 hbe) hZ (hwk hw 74 rfl) (hwk hw 46 rfl) (by decide) (by decide)) qa49 qc49 (g := (mkF m 63 #[iv q0, .val (.long q1), .second, iv q2, iv q3, iv (q2 &&& (255 : Int32)), iv (q3 &&& (255 : Int32)), rv b1, rv b3, rv b18, .unset, .unset, .unset, .unset, .unset] [(.long q1), (.ref b18)])) rfl (by rw [hml]; rfl) (Steps.refl _) (argsL := [(.long q1)]) (rest := []) (lenOf pd__J_Ljava_lang_String__7f80 rfl) rfl (by show 2 * 0 + _ ≤ _; exact Nat.le_of_eq rfl) (hb hby at_63) (fun _ _ => ⟨rfl, rfl, (by decide : 10 + 0 ≤ 24), (by decide : 148 + 0 ≤ 2176)⟩)
    dsimp only [Pt.U, Pt.locs, Pt.cells, Pt.slots] at X49 l49 y49 z49 st49 hQ49
    subst l49 y49 z49
    obtain ⟨rfl, N49q, eh49⟩ := hQ49
    have N49 := Fr.app N23 N49q
    refine Goes.sts st49 ?_
    show Gs p e below _ T49 m 66 #[iv q0, .val (.long q1), .second, iv q2, iv q3, iv (q2 &&& (255 : Int32)), iv (q3 &&& (255 : Int32)), rv b1, rv b3, rv b18, .unset, .unset, .unset, .unset, .unset] [(.ref b3)]
    refine gastore X49 hx (hb hby at_66) trivial rfl (l' := #[iv q0, .val (.long q1), .second, iv q2, iv q3, iv (q2 &&& (255 : Int32)), iv (q3 &&& (255 : Int32)), rv b1, rv b3, rv b18, rv b3, .unset, .unset, .unset, .unset]) rfl ?_
    refine gaload X49 hx (hb hby at_68) rfl rfl ?_
    refine giloadN X49 hx (hb hby at_70) rfl ?_
    refine Goes.st (fun tg kg => XT.i2l X49.here hx rfl (hb hby at_71) rfl kg) ?_
    obtain ⟨cq51, kq51, qa51, qb51, qc51⟩ := isOf hZ eh49 f50
    obtain ⟨_, _, ⟨T51, L51, k51, n51⟩, -, X51, ⟨Lc51, hQ51, l51, y51, z51⟩, st51⟩ := X49.virtualBack hx (y := mN12) (z := mN12) hown (mvT hZ (hwk hw 70 rfl)) (mvT hZ (hwk hw 71 rfl)) (notFace_of_selects (args := #[]) (mvT hZ (hwk hw 73 rfl))) (mvT hZ (hwk hw 73 rfl)) (mvT hZ (hwk hw 72 rfl)) (by decide) (backOf (W := 0) (rmPb l Z a0 hw [] b18 (q0).toInt64 q0 b1 b3 T23.heap n0 Z23 R23_0 R23_1 R23_2 (own_irr _)) hZ (hwk hw 74 rfl) (hwk hw 46 rfl) (by decide) (by decide)) qa51 qc51 (g := (mkF m 72 #[iv q0, .val (.long q1), .second, iv q2, iv q3, iv (q2 &&& (255 : Int32)), iv (q3 &&& (255 : Int32)), rv b1, rv b3, rv b18, rv b3, .unset, .unset, .unset, .unset] [(.long (q0).toInt64), (.ref b18)])) rfl (by rw [hml]; rfl) (Steps.refl _) (argsL := [(.long (q0).toInt64)]) (rest := []) (lenOf pd__J_Ljava_lang_String__7f80 rfl) rfl (by show 2 * 0 + _ ≤ _; exact Nat.le_of_eq rfl) (hb hby at_72) (fun _ _ => ⟨rfl, eh49, (by decide : 10 + 0 ≤ 24), (by decide : 148 + 0 ≤ 2176)⟩)
    dsimp only [Pt.U, Pt.locs, Pt.cells, Pt.slots] at X51 l51 y51 z51 st51 hQ51
    subst l51 y51 z51
    obtain ⟨rfl, N51q, eh51⟩ := hQ51
    have N51 := Fr.app N49 N51q
    refine Goes.sts st51 ?_
    show Gs p e below _ T51 m 75 #[iv q0, .val (.long q1), .second, iv q2, iv q3, iv (q2 &&& (255 : Int32)), iv (q3 &&& (255 : Int32)), rv b1, rv b3, rv b18, rv b3, .unset, .unset, .unset, .unset] [(.ref b3)]
    refine gastore X51 hx (hb hby at_75) trivial rfl (l' := #[iv q0, .val (.long q1), .second, iv q2, iv q3, iv (q2 &&& (255 : Int32)), iv (q3 &&& (255 : Int32)), rv b1, rv b3, rv b18, rv b3, rv b3, .unset, .unset, .unset]) rfl ?_
    refine gaload X51 hx (hb hby at_77) rfl rfl ?_
    refine giloadN X51 hx (hb hby at_79) rfl ?_
    refine Goes.st (fun tg kg => XT.i2l X51.here hx rfl (hb hby at_80) rfl kg) ?_
    refine Goes.st (fun tg kg => XT.lconst X51.here hx rfl (hb hby at_81) kg) ?_
    show Gs p e below _ T51 m 82 #[iv q0, .val (.long q1), .second, iv q2, iv q3, iv (q2 &&& (255 : Int32)), iv (q3 &&& (255 : Int32)), rv b1, rv b3, rv b18, rv b3, rv b3, .unset, .unset, .unset] [(.long (1 : Int64)), (.long (q0).toInt64), (.ref b18)]
    refine Goes.st (fun tg kg => XT.lsub X51.here hx rfl (hb hby at_82) rfl kg) ?_
    show Gs p e below _ T51 m 83 #[iv q0, .val (.long q1), .second, iv q2, iv q3, iv (q2 &&& (255 : Int32)), iv (q3 &&& (255 : Int32)), rv b1, rv b3, rv b18, rv b3, rv b3, .unset, .unset, .unset] [(.long ((q0).toInt64 - (1 : Int64))), (.ref b18)]
    obtain ⟨cq52, kq52, qa52, qb52, qc52⟩ := isOf hZ eh51 f50
    obtain ⟨_, _, ⟨T52, L52, k52, n52⟩, -, X52, ⟨Lc52, hQ52, l52, y52, z52⟩, st52⟩ := X51.virtualBack hx (y := mN12) (z := mN12) hown (mvT hZ (hwk hw 70 rfl)) (mvT hZ (hwk hw 71 rfl)) (notFace_of_selects (args := #[]) (mvT hZ (hwk hw 73 rfl))) (mvT hZ (hwk hw 73 rfl)) (mvT hZ (hwk hw 72 rfl)) (by decide) (backOf (W := 0) (rmPa l Z a0 hw [] b18 ((q0).toInt64 - (1 : Int64)) q0 b1 b3 T23.heap n0 Z23 R23_0 R23_1 R23_2 (own_pred q0)) hZ (hwk hw 74 rfl) (hwk hw 46 rfl) (by decide) (by decide)) qa52 qc52 (g := (mkF m 83 #[iv q0, .val (.long q1), .second, iv q2, iv q3, iv (q2 &&& (255 : Int32)), iv (q3 &&& (255 : Int32)), rv b1, rv b3, rv b18, rv b3, rv b3, .unset, .unset, .unset] [(.long ((q0).toInt64 - (1 : Int64))), (.ref b18)])) rfl (by rw [hml]; rfl) (Steps.refl _) (argsL := [(.long ((q0).toInt64 - (1 : Int64)))]) (rest := []) (lenOf pd__J_Ljava_lang_String__7f80 rfl) rfl (by show 2 * 0 + _ ≤ _; exact Nat.le_of_eq rfl) (hb hby at_83) (fun _ _ => ⟨rfl, eh51, (by decide : 10 + 0 ≤ 24), (by decide : 148 + 0 ≤ 2176)⟩)
    dsimp only [Pt.U, Pt.locs, Pt.cells, Pt.slots] at X52 l52 y52 z52 st52 hQ52
    subst l52 y52 z52
    obtain ⟨rfl, N52q, eh52⟩ := hQ52
    have N52 := Fr.app N51 N52q
    refine Goes.sts st52 ?_
    show Gs p e below _ T52 m 86 #[iv q0, .val (.long q1), .second, iv q2, iv q3, iv (q2 &&& (255 : Int32)), iv (q3 &&& (255 : Int32)), rv b1, rv b3, rv b18, rv b3, rv b3, .unset, .unset, .unset] [(.ref b1)]
    refine gastore X52 hx (hb hby at_86) trivial rfl (l' := #[iv q0, .val (.long q1), .second, iv q2, iv q3, iv (q2 &&& (255 : Int32)), iv (q3 &&& (255 : Int32)), rv b1, rv b3, rv b18, rv b3, rv b3, rv b1, .unset, .unset]) rfl ?_
    refine glloadN X52 hx (hb hby at_88) rfl ?_
    show Gs p e below _ T52 m 89 #[iv q0, .val (.long q1), .second, iv q2, iv q3, iv (q2 &&& (255 : Int32)), iv (q3 &&& (255 : Int32)), rv b1, rv b3, rv b18, rv b3, rv b3, rv b1, .unset, .unset] [(.long q1)]
    refine Goes.st (fun tg kg => X52.ldc2Long hx hown (mvT hZ (hwk hw 75 rfl)) (g := (mkF m 89 #[iv q0, .val (.long q1), .second, iv q2, iv q3, iv (q2 &&& (255 : Int32)), iv (q3 &&& (255 : Int32)), rv b1, rv b3, rv b18, rv b3, rv b3, rv b1, .unset, .unset] [(.long q1)])) rfl (hb hby at_89) tg kg) ?_
    show Gs p e below _ T52 m 92 #[iv q0, .val (.long q1), .second, iv q2, iv q3, iv (q2 &&& (255 : Int32)), iv (q3 &&& (255 : Int32)), rv b1, rv b3, rv b18, rv b3, rv b3, rv b1, .unset, .unset] [(.long (-2147483648 : Int64)), (.long q1)]
    refine Goes.st (fun tg kg => XT.lcmp X52.here hx rfl (hb hby at_92) rfl kg) ?_
    show Gs p e below _ T52 m 93 #[iv q0, .val (.long q1), .second, iv q2, iv q3, iv (q2 &&& (255 : Int32)), iv (q3 &&& (255 : Int32)), rv b1, rv b3, rv b18, rv b3, rv b3, rv b1, .unset, .unset] [(.int (XT.cmpL q1 (-2147483648 : Int64)))]
    by_cases c53 : q1 < (-2147483648 : Int64)
    · refine gifYes X52 hx (pc' := 120) (hb hby at_93) (XT.ll_lt_t c53) (by decide) (by decide) ?_
      show Gs p e below _ T52 m 120 #[iv q0, .val (.long q1), .second, iv q2, iv q3, iv (q2 &&& (255 : Int32)), iv (q3 &&& (255 : Int32)), rv b1, rv b3, rv b18, rv b3, rv b3, rv b1, .unset, .unset] []
      refine glloadN X52 hx (hb hby at_120) rfl ?_
      refine Goes.st (fun tg kg => XT.lconst X52.here hx rfl (hb hby at_121) kg) ?_
      refine Goes.st (fun tg kg => XT.lcmp X52.here hx rfl (hb hby at_122) rfl kg) ?_
      show Gs p e below _ T52 m 123 #[iv q0, .val (.long q1), .second, iv q2, iv q3, iv (q2 &&& (255 : Int32)), iv (q3 &&& (255 : Int32)), rv b1, rv b3, rv b18, rv b3, rv b3, rv b1, .unset, .unset] [(.int (XT.cmpL q1 (0 : Int64)))]
      by_cases c54 : q1 < (0 : Int64)
      · refine gifNo X52 hx (hb hby at_123) (XT.ll_ge_f c54) ?_
        show Gs p e below _ T52 m 126 #[iv q0, .val (.long q1), .second, iv q2, iv q3, iv (q2 &&& (255 : Int32)), iv (q3 &&& (255 : Int32)), rv b1, rv b3, rv b18, rv b3, rv b3, rv b1, .unset, .unset] []
        refine giconst X52 hx (hb hby at_126) ?_
        show Gs p e below _ T52 m 127 #[iv q0, .val (.long q1), .second, iv q2, iv q3, iv (q2 &&& (255 : Int32)), iv (q3 &&& (255 : Int32)), rv b1, rv b3, rv b18, rv b3, rv b3, rv b1, .unset, .unset] [(.int (1 : Int32))]
        refine ggoto X52 hx (pc' := 131) (hb hby at_127) (by decide) (by decide) ?_
        show Gs p e below _ T52 m 131 #[iv q0, .val (.long q1), .second, iv q2, iv q3, iv (q2 &&& (255 : Int32)), iv (q3 &&& (255 : Int32)), rv b1, rv b3, rv b18, rv b3, rv b3, rv b1, .unset, .unset] [(.int (1 : Int32))]
        refine gistore X52 hx (hb hby at_131) trivial (l' := #[iv q0, .val (.long q1), .second, iv q2, iv q3, iv (q2 &&& (255 : Int32)), iv (q3 &&& (255 : Int32)), rv b1, rv b3, rv b18, rv b3, rv b3, rv b1, iv (1 : Int32), .unset]) rfl ?_
        show Gs p e below _ T52 m 133 #[iv q0, .val (.long q1), .second, iv q2, iv q3, iv (q2 &&& (255 : Int32)), iv (q3 &&& (255 : Int32)), rv b1, rv b3, rv b18, rv b3, rv b3, rv b1, iv (1 : Int32), .unset] []
        exact absurd (own_b2 (q := q0) c53).1 hbe
      · refine gifYes X52 hx (pc' := 130) (hb hby at_123) (XT.ll_ge_t c54) (by decide) (by decide) ?_
        show Gs p e below _ T52 m 130 #[iv q0, .val (.long q1), .second, iv q2, iv q3, iv (q2 &&& (255 : Int32)), iv (q3 &&& (255 : Int32)), rv b1, rv b3, rv b18, rv b3, rv b3, rv b1, .unset, .unset] []
        refine giconst X52 hx (hb hby at_130) ?_
        refine gistore X52 hx (hb hby at_131) trivial (l' := #[iv q0, .val (.long q1), .second, iv q2, iv q3, iv (q2 &&& (255 : Int32)), iv (q3 &&& (255 : Int32)), rv b1, rv b3, rv b18, rv b3, rv b3, rv b1, iv (0 : Int32), .unset]) rfl ?_
        show Gs p e below _ T52 m 133 #[iv q0, .val (.long q1), .second, iv q2, iv q3, iv (q2 &&& (255 : Int32)), iv (q3 &&& (255 : Int32)), rv b1, rv b3, rv b18, rv b3, rv b3, rv b1, iv (0 : Int32), .unset] []
        refine giload X52 hx (hb hby at_133) rfl ?_
        show Gs p e below _ T52 m 135 #[iv q0, .val (.long q1), .second, iv q2, iv q3, iv (q2 &&& (255 : Int32)), iv (q3 &&& (255 : Int32)), rv b1, rv b3, rv b18, rv b3, rv b3, rv b1, iv (0 : Int32), .unset] [(.int (0 : Int32))]
        refine gifYes X52 hx (pc' := 143) (hb hby at_135) (by decide) (by decide) (by decide) ?_
        show Gs p e below _ T52 m 143 #[iv q0, .val (.long q1), .second, iv q2, iv q3, iv (q2 &&& (255 : Int32)), iv (q3 &&& (255 : Int32)), rv b1, rv b3, rv b18, rv b3, rv b3, rv b1, iv (0 : Int32), .unset] []
        refine gaload X52 hx (hb hby at_143) rfl rfl ?_
        refine gastore X52 hx (hb hby at_145) trivial rfl (l' := #[iv q0, .val (.long q1), .second, iv q2, iv q3, iv (q2 &&& (255 : Int32)), iv (q3 &&& (255 : Int32)), rv b1, rv b3, rv b18, rv b3, rv b3, rv b1, iv (0 : Int32), rv b3]) rfl ?_
        refine gaload X52 hx (hb hby at_147) rfl rfl ?_
        refine gaload X52 hx (hb hby at_149) rfl rfl ?_
        have f56 := ((f20.ext E18).keep K23)
        obtain ⟨cq55, kq55, qa55, qb55, qc55⟩ := isOf hZ eh52 f56
        obtain ⟨_, _, ⟨T55, L55, k55, n55⟩, -, X55, ⟨Lc55, hQ55, l55, y55, z55⟩, st55⟩ := X52.virtualBack hx (y := mN13) (z := mN13) hown (mvT hZ (hwk hw 77 rfl)) (mvT hZ (hwk hw 78 rfl)) (notFace_of_selects (args := #[]) (mvT hZ (hwk hw 80 rfl))) (mvT hZ (hwk hw 80 rfl)) (mvT hZ (hwk hw 79 rfl)) (by decide) (backOf (W := 0) (rmEq l Z a0 hw [] b3 T23.heap n0 Z23 ) hZ (hwk hw 81 rfl) (hwk hw 2 rfl) (by decide) (by decide)) qa55 qc55 (g := (mkF m 151 #[iv q0, .val (.long q1), .second, iv q2, iv q3, iv (q2 &&& (255 : Int32)), iv (q3 &&& (255 : Int32)), rv b1, rv b3, rv b18, rv b3, rv b3, rv b1, iv (0 : Int32), rv b3] [(.ref b3), (.ref b3)])) rfl (by rw [hml]; rfl) (Steps.refl _) (argsL := [(.ref b3)]) (rest := []) (lenOf pd__Ljava_lang_Object__Z_79ae rfl) rfl (by show 2 * 0 + _ ≤ _; exact Nat.le_of_eq rfl) (hb hby at_151) (fun _ _ => ⟨rfl, eh52, (by decide : 10 + 0 ≤ 24), (by decide : 148 + 0 ≤ 2176)⟩)
        dsimp only [Pt.U, Pt.locs, Pt.cells, Pt.slots] at X55 l55 y55 z55 st55 hQ55
        subst l55 y55 z55
        obtain ⟨rfl, N55q, eh55⟩ := hQ55
        have N55 := Fr.app N52 N55q
        refine Goes.sts st55 ?_
        show Gs p e below _ T55 m 154 #[iv q0, .val (.long q1), .second, iv q2, iv q3, iv (q2 &&& (255 : Int32)), iv (q3 &&& (255 : Int32)), rv b1, rv b3, rv b18, rv b3, rv b3, rv b1, iv (0 : Int32), rv b3] [(.int (1 : Int32))]
        refine gifNo X55 hx (hb hby at_154) (by decide) ?_
        show Gs p e below _ T55 m 157 #[iv q0, .val (.long q1), .second, iv q2, iv q3, iv (q2 &&& (255 : Int32)), iv (q3 &&& (255 : Int32)), rv b1, rv b3, rv b18, rv b3, rv b3, rv b1, iv (0 : Int32), rv b3] []
        refine gaload X55 hx (hb hby at_157) rfl rfl ?_
        refine gaload X55 hx (hb hby at_159) rfl rfl ?_
        obtain ⟨cq57, kq57, qa57, qb57, qc57⟩ := isOf hZ eh55 f56
        obtain ⟨_, _, ⟨T57, L57, k57, n57⟩, -, X57, ⟨Lc57, hQ57, l57, y57, z57⟩, st57⟩ := X55.virtualBack hx (y := mN13) (z := mN13) hown (mvT hZ (hwk hw 77 rfl)) (mvT hZ (hwk hw 78 rfl)) (notFace_of_selects (args := #[]) (mvT hZ (hwk hw 80 rfl))) (mvT hZ (hwk hw 80 rfl)) (mvT hZ (hwk hw 79 rfl)) (by decide) (backOf (W := 0) (rmEq l Z a0 hw [] b3 T23.heap n0 Z23 ) hZ (hwk hw 81 rfl) (hwk hw 2 rfl) (by decide) (by decide)) qa57 qc57 (g := (mkF m 161 #[iv q0, .val (.long q1), .second, iv q2, iv q3, iv (q2 &&& (255 : Int32)), iv (q3 &&& (255 : Int32)), rv b1, rv b3, rv b18, rv b3, rv b3, rv b1, iv (0 : Int32), rv b3] [(.ref b3), (.ref b3)])) rfl (by rw [hml]; rfl) (Steps.refl _) (argsL := [(.ref b3)]) (rest := []) (lenOf pd__Ljava_lang_Object__Z_79ae rfl) rfl (by show 2 * 0 + _ ≤ _; exact Nat.le_of_eq rfl) (hb hby at_161) (fun _ _ => ⟨rfl, eh55, (by decide : 10 + 0 ≤ 24), (by decide : 148 + 0 ≤ 2176)⟩)
        dsimp only [Pt.U, Pt.locs, Pt.cells, Pt.slots] at X57 l57 y57 z57 st57 hQ57
        subst l57 y57 z57
        obtain ⟨rfl, N57q, eh57⟩ := hQ57
        have N57 := Fr.app N55 N57q
        refine Goes.sts st57 ?_
        show Gs p e below _ T57 m 164 #[iv q0, .val (.long q1), .second, iv q2, iv q3, iv (q2 &&& (255 : Int32)), iv (q3 &&& (255 : Int32)), rv b1, rv b3, rv b18, rv b3, rv b3, rv b1, iv (0 : Int32), rv b3] [(.int (1 : Int32))]
        refine gifNo X57 hx (hb hby at_164) (by decide) ?_
        show Gs p e below _ T57 m 167 #[iv q0, .val (.long q1), .second, iv q2, iv q3, iv (q2 &&& (255 : Int32)), iv (q3 &&& (255 : Int32)), rv b1, rv b3, rv b18, rv b3, rv b3, rv b1, iv (0 : Int32), rv b3] []
        refine gaload X57 hx (hb hby at_167) rfl rfl ?_
        refine gaload X57 hx (hb hby at_169) rfl rfl ?_
        have f59 := ((f19.ext E18).keep K23)
        obtain ⟨cq58, kq58, qa58, qb58, qc58⟩ := isOf hZ eh57 f59
        obtain ⟨_, _, ⟨T58, L58, k58, n58⟩, -, X58, ⟨Lc58, hQ58, l58, y58, z58⟩, st58⟩ := X57.virtualBack hx (y := mN13) (z := mN13) hown (mvT hZ (hwk hw 77 rfl)) (mvT hZ (hwk hw 78 rfl)) (notFace_of_selects (args := #[]) (mvT hZ (hwk hw 80 rfl))) (mvT hZ (hwk hw 80 rfl)) (mvT hZ (hwk hw 79 rfl)) (by decide) (backOf (W := 0) (rmEq l Z a0 hw [] b1 T23.heap n0 Z23 ) hZ (hwk hw 81 rfl) (hwk hw 2 rfl) (by decide) (by decide)) qa58 qc58 (g := (mkF m 171 #[iv q0, .val (.long q1), .second, iv q2, iv q3, iv (q2 &&& (255 : Int32)), iv (q3 &&& (255 : Int32)), rv b1, rv b3, rv b18, rv b3, rv b3, rv b1, iv (0 : Int32), rv b3] [(.ref b1), (.ref b1)])) rfl (by rw [hml]; rfl) (Steps.refl _) (argsL := [(.ref b1)]) (rest := []) (lenOf pd__Ljava_lang_Object__Z_79ae rfl) rfl (by show 2 * 0 + _ ≤ _; exact Nat.le_of_eq rfl) (hb hby at_171) (fun _ _ => ⟨rfl, eh57, (by decide : 10 + 0 ≤ 24), (by decide : 148 + 0 ≤ 2176)⟩)
        dsimp only [Pt.U, Pt.locs, Pt.cells, Pt.slots] at X58 l58 y58 z58 st58 hQ58
        subst l58 y58 z58
        obtain ⟨rfl, N58q, eh58⟩ := hQ58
        have N58 := Fr.app N57 N58q
        refine Goes.sts st58 ?_
        show Gs p e below _ T58 m 174 #[iv q0, .val (.long q1), .second, iv q2, iv q3, iv (q2 &&& (255 : Int32)), iv (q3 &&& (255 : Int32)), rv b1, rv b3, rv b18, rv b3, rv b3, rv b1, iv (0 : Int32), rv b3] [(.int (1 : Int32))]
        refine gifNo X58 hx (hb hby at_174) (by decide) ?_
        show Gs p e below _ T58 m 177 #[iv q0, .val (.long q1), .second, iv q2, iv q3, iv (q2 &&& (255 : Int32)), iv (q3 &&& (255 : Int32)), rv b1, rv b3, rv b18, rv b3, rv b3, rv b1, iv (0 : Int32), rv b3] []
        refine giconst X58 hx (hb hby at_177) ?_
        show Gs p e below _ T58 m 178 #[iv q0, .val (.long q1), .second, iv q2, iv q3, iv (q2 &&& (255 : Int32)), iv (q3 &&& (255 : Int32)), rv b1, rv b3, rv b18, rv b3, rv b3, rv b1, iv (0 : Int32), rv b3] [(.int (1 : Int32))]
        refine ggoto X58 hx (pc' := 182) (hb hby at_178) (by decide) (by decide) ?_
        show Gs p e below _ T58 m 182 #[iv q0, .val (.long q1), .second, iv q2, iv q3, iv (q2 &&& (255 : Int32)), iv (q3 &&& (255 : Int32)), rv b1, rv b3, rv b18, rv b3, rv b3, rv b1, iv (0 : Int32), rv b3] [(.int (1 : Int32))]
        refine Goes.retN X58 hx hret (by simp) (hb hby at_182) (by decide) (lvV X58 hlk hS (by rw [eh58]; exact hk) (vsome hret) ?_ (by decide) (by decide))
        rw [eh58]
        exact ⟨rfl, N58⟩
    · refine gifNo X52 hx (hb hby at_93) (XT.ll_lt_f c53) ?_
      show Gs p e below _ T52 m 96 #[iv q0, .val (.long q1), .second, iv q2, iv q3, iv (q2 &&& (255 : Int32)), iv (q3 &&& (255 : Int32)), rv b1, rv b3, rv b18, rv b3, rv b3, rv b1, .unset, .unset] []
      refine glloadN X52 hx (hb hby at_96) rfl ?_
      show Gs p e below _ T52 m 97 #[iv q0, .val (.long q1), .second, iv q2, iv q3, iv (q2 &&& (255 : Int32)), iv (q3 &&& (255 : Int32)), rv b1, rv b3, rv b18, rv b3, rv b3, rv b1, .unset, .unset] [(.long q1)]
      refine Goes.st (fun tg kg => X52.ldc2Long hx hown (mvT hZ (hwk hw 76 rfl)) (g := (mkF m 97 #[iv q0, .val (.long q1), .second, iv q2, iv q3, iv (q2 &&& (255 : Int32)), iv (q3 &&& (255 : Int32)), rv b1, rv b3, rv b18, rv b3, rv b3, rv b1, .unset, .unset] [(.long q1)])) rfl (hb hby at_97) tg kg) ?_
      show Gs p e below _ T52 m 100 #[iv q0, .val (.long q1), .second, iv q2, iv q3, iv (q2 &&& (255 : Int32)), iv (q3 &&& (255 : Int32)), rv b1, rv b3, rv b18, rv b3, rv b3, rv b1, .unset, .unset] [(.long (2147483647 : Int64)), (.long q1)]
      refine Goes.st (fun tg kg => XT.lcmp X52.here hx rfl (hb hby at_100) rfl kg) ?_
      show Gs p e below _ T52 m 101 #[iv q0, .val (.long q1), .second, iv q2, iv q3, iv (q2 &&& (255 : Int32)), iv (q3 &&& (255 : Int32)), rv b1, rv b3, rv b18, rv b3, rv b3, rv b1, .unset, .unset] [(.int (XT.cmpL q1 (2147483647 : Int64)))]
      by_cases c60 : (2147483647 : Int64) < q1
      · refine gifYes X52 hx (pc' := 120) (hb hby at_101) (XT.ll_gt_t c60) (by decide) (by decide) ?_
        show Gs p e below _ T52 m 120 #[iv q0, .val (.long q1), .second, iv q2, iv q3, iv (q2 &&& (255 : Int32)), iv (q3 &&& (255 : Int32)), rv b1, rv b3, rv b18, rv b3, rv b3, rv b1, .unset, .unset] []
        refine glloadN X52 hx (hb hby at_120) rfl ?_
        refine Goes.st (fun tg kg => XT.lconst X52.here hx rfl (hb hby at_121) kg) ?_
        refine Goes.st (fun tg kg => XT.lcmp X52.here hx rfl (hb hby at_122) rfl kg) ?_
        show Gs p e below _ T52 m 123 #[iv q0, .val (.long q1), .second, iv q2, iv q3, iv (q2 &&& (255 : Int32)), iv (q3 &&& (255 : Int32)), rv b1, rv b3, rv b18, rv b3, rv b3, rv b1, .unset, .unset] [(.int (XT.cmpL q1 (0 : Int64)))]
        by_cases c61 : q1 < (0 : Int64)
        · refine gifNo X52 hx (hb hby at_123) (XT.ll_ge_f c61) ?_
          show Gs p e below _ T52 m 126 #[iv q0, .val (.long q1), .second, iv q2, iv q3, iv (q2 &&& (255 : Int32)), iv (q3 &&& (255 : Int32)), rv b1, rv b3, rv b18, rv b3, rv b3, rv b1, .unset, .unset] []
          refine giconst X52 hx (hb hby at_126) ?_
          show Gs p e below _ T52 m 127 #[iv q0, .val (.long q1), .second, iv q2, iv q3, iv (q2 &&& (255 : Int32)), iv (q3 &&& (255 : Int32)), rv b1, rv b3, rv b18, rv b3, rv b3, rv b1, .unset, .unset] [(.int (1 : Int32))]
          refine ggoto X52 hx (pc' := 131) (hb hby at_127) (by decide) (by decide) ?_
          show Gs p e below _ T52 m 131 #[iv q0, .val (.long q1), .second, iv q2, iv q3, iv (q2 &&& (255 : Int32)), iv (q3 &&& (255 : Int32)), rv b1, rv b3, rv b18, rv b3, rv b3, rv b1, .unset, .unset] [(.int (1 : Int32))]
          refine gistore X52 hx (hb hby at_131) trivial (l' := #[iv q0, .val (.long q1), .second, iv q2, iv q3, iv (q2 &&& (255 : Int32)), iv (q3 &&& (255 : Int32)), rv b1, rv b3, rv b18, rv b3, rv b3, rv b1, iv (1 : Int32), .unset]) rfl ?_
          show Gs p e below _ T52 m 133 #[iv q0, .val (.long q1), .second, iv q2, iv q3, iv (q2 &&& (255 : Int32)), iv (q3 &&& (255 : Int32)), rv b1, rv b3, rv b18, rv b3, rv b3, rv b1, iv (1 : Int32), .unset] []
          exact absurd c61 (own_b3 (q := q0) c60).2
        · refine gifYes X52 hx (pc' := 130) (hb hby at_123) (XT.ll_ge_t c61) (by decide) (by decide) ?_
          show Gs p e below _ T52 m 130 #[iv q0, .val (.long q1), .second, iv q2, iv q3, iv (q2 &&& (255 : Int32)), iv (q3 &&& (255 : Int32)), rv b1, rv b3, rv b18, rv b3, rv b3, rv b1, .unset, .unset] []
          refine giconst X52 hx (hb hby at_130) ?_
          refine gistore X52 hx (hb hby at_131) trivial (l' := #[iv q0, .val (.long q1), .second, iv q2, iv q3, iv (q2 &&& (255 : Int32)), iv (q3 &&& (255 : Int32)), rv b1, rv b3, rv b18, rv b3, rv b3, rv b1, iv (0 : Int32), .unset]) rfl ?_
          show Gs p e below _ T52 m 133 #[iv q0, .val (.long q1), .second, iv q2, iv q3, iv (q2 &&& (255 : Int32)), iv (q3 &&& (255 : Int32)), rv b1, rv b3, rv b18, rv b3, rv b3, rv b1, iv (0 : Int32), .unset] []
          refine giload X52 hx (hb hby at_133) rfl ?_
          show Gs p e below _ T52 m 135 #[iv q0, .val (.long q1), .second, iv q2, iv q3, iv (q2 &&& (255 : Int32)), iv (q3 &&& (255 : Int32)), rv b1, rv b3, rv b18, rv b3, rv b3, rv b1, iv (0 : Int32), .unset] [(.int (0 : Int32))]
          refine gifYes X52 hx (pc' := 143) (hb hby at_135) (by decide) (by decide) (by decide) ?_
          show Gs p e below _ T52 m 143 #[iv q0, .val (.long q1), .second, iv q2, iv q3, iv (q2 &&& (255 : Int32)), iv (q3 &&& (255 : Int32)), rv b1, rv b3, rv b18, rv b3, rv b3, rv b1, iv (0 : Int32), .unset] []
          refine gaload X52 hx (hb hby at_143) rfl rfl ?_
          refine gastore X52 hx (hb hby at_145) trivial rfl (l' := #[iv q0, .val (.long q1), .second, iv q2, iv q3, iv (q2 &&& (255 : Int32)), iv (q3 &&& (255 : Int32)), rv b1, rv b3, rv b18, rv b3, rv b3, rv b1, iv (0 : Int32), rv b3]) rfl ?_
          refine gaload X52 hx (hb hby at_147) rfl rfl ?_
          refine gaload X52 hx (hb hby at_149) rfl rfl ?_
          have f63 := ((f20.ext E18).keep K23)
          obtain ⟨cq62, kq62, qa62, qb62, qc62⟩ := isOf hZ eh52 f63
          obtain ⟨_, _, ⟨T62, L62, k62, n62⟩, -, X62, ⟨Lc62, hQ62, l62, y62, z62⟩, st62⟩ := X52.virtualBack hx (y := mN13) (z := mN13) hown (mvT hZ (hwk hw 77 rfl)) (mvT hZ (hwk hw 78 rfl)) (notFace_of_selects (args := #[]) (mvT hZ (hwk hw 80 rfl))) (mvT hZ (hwk hw 80 rfl)) (mvT hZ (hwk hw 79 rfl)) (by decide) (backOf (W := 0) (rmEq l Z a0 hw [] b3 T23.heap n0 Z23 ) hZ (hwk hw 81 rfl) (hwk hw 2 rfl) (by decide) (by decide)) qa62 qc62 (g := (mkF m 151 #[iv q0, .val (.long q1), .second, iv q2, iv q3, iv (q2 &&& (255 : Int32)), iv (q3 &&& (255 : Int32)), rv b1, rv b3, rv b18, rv b3, rv b3, rv b1, iv (0 : Int32), rv b3] [(.ref b3), (.ref b3)])) rfl (by rw [hml]; rfl) (Steps.refl _) (argsL := [(.ref b3)]) (rest := []) (lenOf pd__Ljava_lang_Object__Z_79ae rfl) rfl (by show 2 * 0 + _ ≤ _; exact Nat.le_of_eq rfl) (hb hby at_151) (fun _ _ => ⟨rfl, eh52, (by decide : 10 + 0 ≤ 24), (by decide : 148 + 0 ≤ 2176)⟩)
          dsimp only [Pt.U, Pt.locs, Pt.cells, Pt.slots] at X62 l62 y62 z62 st62 hQ62
          subst l62 y62 z62
          obtain ⟨rfl, N62q, eh62⟩ := hQ62
          have N62 := Fr.app N52 N62q
          refine Goes.sts st62 ?_
          show Gs p e below _ T62 m 154 #[iv q0, .val (.long q1), .second, iv q2, iv q3, iv (q2 &&& (255 : Int32)), iv (q3 &&& (255 : Int32)), rv b1, rv b3, rv b18, rv b3, rv b3, rv b1, iv (0 : Int32), rv b3] [(.int (1 : Int32))]
          refine gifNo X62 hx (hb hby at_154) (by decide) ?_
          show Gs p e below _ T62 m 157 #[iv q0, .val (.long q1), .second, iv q2, iv q3, iv (q2 &&& (255 : Int32)), iv (q3 &&& (255 : Int32)), rv b1, rv b3, rv b18, rv b3, rv b3, rv b1, iv (0 : Int32), rv b3] []
          refine gaload X62 hx (hb hby at_157) rfl rfl ?_
          refine gaload X62 hx (hb hby at_159) rfl rfl ?_
          obtain ⟨cq64, kq64, qa64, qb64, qc64⟩ := isOf hZ eh62 f63
          obtain ⟨_, _, ⟨T64, L64, k64, n64⟩, -, X64, ⟨Lc64, hQ64, l64, y64, z64⟩, st64⟩ := X62.virtualBack hx (y := mN13) (z := mN13) hown (mvT hZ (hwk hw 77 rfl)) (mvT hZ (hwk hw 78 rfl)) (notFace_of_selects (args := #[]) (mvT hZ (hwk hw 80 rfl))) (mvT hZ (hwk hw 80 rfl)) (mvT hZ (hwk hw 79 rfl)) (by decide) (backOf (W := 0) (rmEq l Z a0 hw [] b3 T23.heap n0 Z23 ) hZ (hwk hw 81 rfl) (hwk hw 2 rfl) (by decide) (by decide)) qa64 qc64 (g := (mkF m 161 #[iv q0, .val (.long q1), .second, iv q2, iv q3, iv (q2 &&& (255 : Int32)), iv (q3 &&& (255 : Int32)), rv b1, rv b3, rv b18, rv b3, rv b3, rv b1, iv (0 : Int32), rv b3] [(.ref b3), (.ref b3)])) rfl (by rw [hml]; rfl) (Steps.refl _) (argsL := [(.ref b3)]) (rest := []) (lenOf pd__Ljava_lang_Object__Z_79ae rfl) rfl (by show 2 * 0 + _ ≤ _; exact Nat.le_of_eq rfl) (hb hby at_161) (fun _ _ => ⟨rfl, eh62, (by decide : 10 + 0 ≤ 24), (by decide : 148 + 0 ≤ 2176)⟩)
          dsimp only [Pt.U, Pt.locs, Pt.cells, Pt.slots] at X64 l64 y64 z64 st64 hQ64
          subst l64 y64 z64
          obtain ⟨rfl, N64q, eh64⟩ := hQ64
          have N64 := Fr.app N62 N64q
          refine Goes.sts st64 ?_
          show Gs p e below _ T64 m 164 #[iv q0, .val (.long q1), .second, iv q2, iv q3, iv (q2 &&& (255 : Int32)), iv (q3 &&& (255 : Int32)), rv b1, rv b3, rv b18, rv b3, rv b3, rv b1, iv (0 : Int32), rv b3] [(.int (1 : Int32))]
          refine gifNo X64 hx (hb hby at_164) (by decide) ?_
          show Gs p e below _ T64 m 167 #[iv q0, .val (.long q1), .second, iv q2, iv q3, iv (q2 &&& (255 : Int32)), iv (q3 &&& (255 : Int32)), rv b1, rv b3, rv b18, rv b3, rv b3, rv b1, iv (0 : Int32), rv b3] []
          refine gaload X64 hx (hb hby at_167) rfl rfl ?_
          refine gaload X64 hx (hb hby at_169) rfl rfl ?_
          have f66 := ((f19.ext E18).keep K23)
          obtain ⟨cq65, kq65, qa65, qb65, qc65⟩ := isOf hZ eh64 f66
          obtain ⟨_, _, ⟨T65, L65, k65, n65⟩, -, X65, ⟨Lc65, hQ65, l65, y65, z65⟩, st65⟩ := X64.virtualBack hx (y := mN13) (z := mN13) hown (mvT hZ (hwk hw 77 rfl)) (mvT hZ (hwk hw 78 rfl)) (notFace_of_selects (args := #[]) (mvT hZ (hwk hw 80 rfl))) (mvT hZ (hwk hw 80 rfl)) (mvT hZ (hwk hw 79 rfl)) (by decide) (backOf (W := 0) (rmEq l Z a0 hw [] b1 T23.heap n0 Z23 ) hZ (hwk hw 81 rfl) (hwk hw 2 rfl) (by decide) (by decide)) qa65 qc65 (g := (mkF m 171 #[iv q0, .val (.long q1), .second, iv q2, iv q3, iv (q2 &&& (255 : Int32)), iv (q3 &&& (255 : Int32)), rv b1, rv b3, rv b18, rv b3, rv b3, rv b1, iv (0 : Int32), rv b3] [(.ref b1), (.ref b1)])) rfl (by rw [hml]; rfl) (Steps.refl _) (argsL := [(.ref b1)]) (rest := []) (lenOf pd__Ljava_lang_Object__Z_79ae rfl) rfl (by show 2 * 0 + _ ≤ _; exact Nat.le_of_eq rfl) (hb hby at_171) (fun _ _ => ⟨rfl, eh64, (by decide : 10 + 0 ≤ 24), (by decide : 148 + 0 ≤ 2176)⟩)
          dsimp only [Pt.U, Pt.locs, Pt.cells, Pt.slots] at X65 l65 y65 z65 st65 hQ65
          subst l65 y65 z65
          obtain ⟨rfl, N65q, eh65⟩ := hQ65
          have N65 := Fr.app N64 N65q
          refine Goes.sts st65 ?_
          show Gs p e below _ T65 m 174 #[iv q0, .val (.long q1), .second, iv q2, iv q3, iv (q2 &&& (255 : Int32)), iv (q3 &&& (255 : Int32)), rv b1, rv b3, rv b18, rv b3, rv b3, rv b1, iv (0 : Int32), rv b3] [(.int (1 : Int32))]
          refine gifNo X65 hx (hb hby at_174) (by decide) ?_
          show Gs p e below _ T65 m 177 #[iv q0, .val (.long q1), .second, iv q2, iv q3, iv (q2 &&& (255 : Int32)), iv (q3 &&& (255 : Int32)), rv b1, rv b3, rv b18, rv b3, rv b3, rv b1, iv (0 : Int32), rv b3] []
          refine giconst X65 hx (hb hby at_177) ?_
          show Gs p e below _ T65 m 178 #[iv q0, .val (.long q1), .second, iv q2, iv q3, iv (q2 &&& (255 : Int32)), iv (q3 &&& (255 : Int32)), rv b1, rv b3, rv b18, rv b3, rv b3, rv b1, iv (0 : Int32), rv b3] [(.int (1 : Int32))]
          refine ggoto X65 hx (pc' := 182) (hb hby at_178) (by decide) (by decide) ?_
          show Gs p e below _ T65 m 182 #[iv q0, .val (.long q1), .second, iv q2, iv q3, iv (q2 &&& (255 : Int32)), iv (q3 &&& (255 : Int32)), rv b1, rv b3, rv b18, rv b3, rv b3, rv b1, iv (0 : Int32), rv b3] [(.int (1 : Int32))]
          refine Goes.retN X65 hx hret (by simp) (hb hby at_182) (by decide) (lvV X65 hlk hS (by rw [eh65]; exact hk) (vsome hret) ?_ (by decide) (by decide))
          rw [eh65]
          exact ⟨rfl, N65⟩
      · refine gifNo X52 hx (hb hby at_101) (XT.ll_gt_f c60) ?_
        show Gs p e below _ T52 m 104 #[iv q0, .val (.long q1), .second, iv q2, iv q3, iv (q2 &&& (255 : Int32)), iv (q3 &&& (255 : Int32)), rv b1, rv b3, rv b18, rv b3, rv b3, rv b1, .unset, .unset] []
        refine glloadN X52 hx (hb hby at_104) rfl ?_
        show Gs p e below _ T52 m 105 #[iv q0, .val (.long q1), .second, iv q2, iv q3, iv (q2 &&& (255 : Int32)), iv (q3 &&& (255 : Int32)), rv b1, rv b3, rv b18, rv b3, rv b3, rv b1, .unset, .unset] [(.long q1)]
        refine Goes.st (fun tg kg => XT.l2i X52.here hx rfl (hb hby at_105) rfl kg) ?_
        show Gs p e below _ T52 m 106 #[iv q0, .val (.long q1), .second, iv q2, iv q3, iv (q2 &&& (255 : Int32)), iv (q3 &&& (255 : Int32)), rv b1, rv b3, rv b18, rv b3, rv b3, rv b1, .unset, .unset] [(.int (q1).toInt32)]
        refine giloadN X52 hx (hb hby at_106) rfl ?_
        show Gs p e below _ T52 m 107 #[iv q0, .val (.long q1), .second, iv q2, iv q3, iv (q2 &&& (255 : Int32)), iv (q3 &&& (255 : Int32)), rv b1, rv b3, rv b18, rv b3, rv b3, rv b1, .unset, .unset] [(.int q0), (.int (q1).toInt32)]
        by_cases c67 : (q1).toInt32 < q0
        · refine gicmpNo X52 hx (hb hby at_107) (tlt c67).2.1 ?_
          show Gs p e below _ T52 m 110 #[iv q0, .val (.long q1), .second, iv q2, iv q3, iv (q2 &&& (255 : Int32)), iv (q3 &&& (255 : Int32)), rv b1, rv b3, rv b18, rv b3, rv b3, rv b1, .unset, .unset] []
          refine giconst X52 hx (hb hby at_110) ?_
          show Gs p e below _ T52 m 111 #[iv q0, .val (.long q1), .second, iv q2, iv q3, iv (q2 &&& (255 : Int32)), iv (q3 &&& (255 : Int32)), rv b1, rv b3, rv b18, rv b3, rv b3, rv b1, .unset, .unset] [(.int (1 : Int32))]
          refine ggoto X52 hx (pc' := 115) (hb hby at_111) (by decide) (by decide) ?_
          show Gs p e below _ T52 m 115 #[iv q0, .val (.long q1), .second, iv q2, iv q3, iv (q2 &&& (255 : Int32)), iv (q3 &&& (255 : Int32)), rv b1, rv b3, rv b18, rv b3, rv b3, rv b1, .unset, .unset] [(.int (1 : Int32))]
          refine gistore X52 hx (hb hby at_115) trivial (l' := #[iv q0, .val (.long q1), .second, iv q2, iv q3, iv (q2 &&& (255 : Int32)), iv (q3 &&& (255 : Int32)), rv b1, rv b3, rv b18, rv b3, rv b3, rv b1, iv (1 : Int32), .unset]) rfl ?_
          show Gs p e below _ T52 m 117 #[iv q0, .val (.long q1), .second, iv q2, iv q3, iv (q2 &&& (255 : Int32)), iv (q3 &&& (255 : Int32)), rv b1, rv b3, rv b18, rv b3, rv b3, rv b1, iv (1 : Int32), .unset] []
          refine ggoto X52 hx (pc' := 133) (hb hby at_117) (by decide) (by decide) ?_
          show Gs p e below _ T52 m 133 #[iv q0, .val (.long q1), .second, iv q2, iv q3, iv (q2 &&& (255 : Int32)), iv (q3 &&& (255 : Int32)), rv b1, rv b3, rv b18, rv b3, rv b3, rv b1, iv (1 : Int32), .unset] []
          exact absurd ((own_b1 c53 c60).mp c67) hbe
        · refine gicmpYes X52 hx (pc' := 114) (hb hby at_107) (flt c67).2.1 (by decide) (by decide) ?_
          show Gs p e below _ T52 m 114 #[iv q0, .val (.long q1), .second, iv q2, iv q3, iv (q2 &&& (255 : Int32)), iv (q3 &&& (255 : Int32)), rv b1, rv b3, rv b18, rv b3, rv b3, rv b1, .unset, .unset] []
          refine giconst X52 hx (hb hby at_114) ?_
          refine gistore X52 hx (hb hby at_115) trivial (l' := #[iv q0, .val (.long q1), .second, iv q2, iv q3, iv (q2 &&& (255 : Int32)), iv (q3 &&& (255 : Int32)), rv b1, rv b3, rv b18, rv b3, rv b3, rv b1, iv (0 : Int32), .unset]) rfl ?_
          show Gs p e below _ T52 m 117 #[iv q0, .val (.long q1), .second, iv q2, iv q3, iv (q2 &&& (255 : Int32)), iv (q3 &&& (255 : Int32)), rv b1, rv b3, rv b18, rv b3, rv b3, rv b1, iv (0 : Int32), .unset] []
          refine ggoto X52 hx (pc' := 133) (hb hby at_117) (by decide) (by decide) ?_
          show Gs p e below _ T52 m 133 #[iv q0, .val (.long q1), .second, iv q2, iv q3, iv (q2 &&& (255 : Int32)), iv (q3 &&& (255 : Int32)), rv b1, rv b3, rv b18, rv b3, rv b3, rv b1, iv (0 : Int32), .unset] []
          refine giload X52 hx (hb hby at_133) rfl ?_
          show Gs p e below _ T52 m 135 #[iv q0, .val (.long q1), .second, iv q2, iv q3, iv (q2 &&& (255 : Int32)), iv (q3 &&& (255 : Int32)), rv b1, rv b3, rv b18, rv b3, rv b3, rv b1, iv (0 : Int32), .unset] [(.int (0 : Int32))]
          refine gifYes X52 hx (pc' := 143) (hb hby at_135) (by decide) (by decide) (by decide) ?_
          show Gs p e below _ T52 m 143 #[iv q0, .val (.long q1), .second, iv q2, iv q3, iv (q2 &&& (255 : Int32)), iv (q3 &&& (255 : Int32)), rv b1, rv b3, rv b18, rv b3, rv b3, rv b1, iv (0 : Int32), .unset] []
          refine gaload X52 hx (hb hby at_143) rfl rfl ?_
          refine gastore X52 hx (hb hby at_145) trivial rfl (l' := #[iv q0, .val (.long q1), .second, iv q2, iv q3, iv (q2 &&& (255 : Int32)), iv (q3 &&& (255 : Int32)), rv b1, rv b3, rv b18, rv b3, rv b3, rv b1, iv (0 : Int32), rv b3]) rfl ?_
          refine gaload X52 hx (hb hby at_147) rfl rfl ?_
          refine gaload X52 hx (hb hby at_149) rfl rfl ?_
          have f69 := ((f20.ext E18).keep K23)
          obtain ⟨cq68, kq68, qa68, qb68, qc68⟩ := isOf hZ eh52 f69
          obtain ⟨_, _, ⟨T68, L68, k68, n68⟩, -, X68, ⟨Lc68, hQ68, l68, y68, z68⟩, st68⟩ := X52.virtualBack hx (y := mN13) (z := mN13) hown (mvT hZ (hwk hw 77 rfl)) (mvT hZ (hwk hw 78 rfl)) (notFace_of_selects (args := #[]) (mvT hZ (hwk hw 80 rfl))) (mvT hZ (hwk hw 80 rfl)) (mvT hZ (hwk hw 79 rfl)) (by decide) (backOf (W := 0) (rmEq l Z a0 hw [] b3 T23.heap n0 Z23 ) hZ (hwk hw 81 rfl) (hwk hw 2 rfl) (by decide) (by decide)) qa68 qc68 (g := (mkF m 151 #[iv q0, .val (.long q1), .second, iv q2, iv q3, iv (q2 &&& (255 : Int32)), iv (q3 &&& (255 : Int32)), rv b1, rv b3, rv b18, rv b3, rv b3, rv b1, iv (0 : Int32), rv b3] [(.ref b3), (.ref b3)])) rfl (by rw [hml]; rfl) (Steps.refl _) (argsL := [(.ref b3)]) (rest := []) (lenOf pd__Ljava_lang_Object__Z_79ae rfl) rfl (by show 2 * 0 + _ ≤ _; exact Nat.le_of_eq rfl) (hb hby at_151) (fun _ _ => ⟨rfl, eh52, (by decide : 10 + 0 ≤ 24), (by decide : 148 + 0 ≤ 2176)⟩)
          dsimp only [Pt.U, Pt.locs, Pt.cells, Pt.slots] at X68 l68 y68 z68 st68 hQ68
          subst l68 y68 z68
          obtain ⟨rfl, N68q, eh68⟩ := hQ68
          have N68 := Fr.app N52 N68q
          refine Goes.sts st68 ?_
          show Gs p e below _ T68 m 154 #[iv q0, .val (.long q1), .second, iv q2, iv q3, iv (q2 &&& (255 : Int32)), iv (q3 &&& (255 : Int32)), rv b1, rv b3, rv b18, rv b3, rv b3, rv b1, iv (0 : Int32), rv b3] [(.int (1 : Int32))]
          refine gifNo X68 hx (hb hby at_154) (by decide) ?_
          show Gs p e below _ T68 m 157 #[iv q0, .val (.long q1), .second, iv q2, iv q3, iv (q2 &&& (255 : Int32)), iv (q3 &&& (255 : Int32)), rv b1, rv b3, rv b18, rv b3, rv b3, rv b1, iv (0 : Int32), rv b3] []
          refine gaload X68 hx (hb hby at_157) rfl rfl ?_
          refine gaload X68 hx (hb hby at_159) rfl rfl ?_
          obtain ⟨cq70, kq70, qa70, qb70, qc70⟩ := isOf hZ eh68 f69
          obtain ⟨_, _, ⟨T70, L70, k70, n70⟩, -, X70, ⟨Lc70, hQ70, l70, y70, z70⟩, st70⟩ := X68.virtualBack hx (y := mN13) (z := mN13) hown (mvT hZ (hwk hw 77 rfl)) (mvT hZ (hwk hw 78 rfl)) (notFace_of_selects (args := #[]) (mvT hZ (hwk hw 80 rfl))) (mvT hZ (hwk hw 80 rfl)) (mvT hZ (hwk hw 79 rfl)) (by decide) (backOf (W := 0) (rmEq l Z a0 hw [] b3 T23.heap n0 Z23 ) hZ (hwk hw 81 rfl) (hwk hw 2 rfl) (by decide) (by decide)) qa70 qc70 (g := (mkF m 161 #[iv q0, .val (.long q1), .second, iv q2, iv q3, iv (q2 &&& (255 : Int32)), iv (q3 &&& (255 : Int32)), rv b1, rv b3, rv b18, rv b3, rv b3, rv b1, iv (0 : Int32), rv b3] [(.ref b3), (.ref b3)])) rfl (by rw [hml]; rfl) (Steps.refl _) (argsL := [(.ref b3)]) (rest := []) (lenOf pd__Ljava_lang_Object__Z_79ae rfl) rfl (by show 2 * 0 + _ ≤ _; exact Nat.le_of_eq rfl) (hb hby at_161) (fun _ _ => ⟨rfl, eh68, (by decide : 10 + 0 ≤ 24), (by decide : 148 + 0 ≤ 2176)⟩)
          dsimp only [Pt.U, Pt.locs, Pt.cells, Pt.slots] at X70 l70 y70 z70 st70 hQ70
          subst l70 y70 z70
          obtain ⟨rfl, N70q, eh70⟩ := hQ70
          have N70 := Fr.app N68 N70q
          refine Goes.sts st70 ?_
          show Gs p e below _ T70 m 164 #[iv q0, .val (.long q1), .second, iv q2, iv q3, iv (q2 &&& (255 : Int32)), iv (q3 &&& (255 : Int32)), rv b1, rv b3, rv b18, rv b3, rv b3, rv b1, iv (0 : Int32), rv b3] [(.int (1 : Int32))]
          refine gifNo X70 hx (hb hby at_164) (by decide) ?_
          show Gs p e below _ T70 m 167 #[iv q0, .val (.long q1), .second, iv q2, iv q3, iv (q2 &&& (255 : Int32)), iv (q3 &&& (255 : Int32)), rv b1, rv b3, rv b18, rv b3, rv b3, rv b1, iv (0 : Int32), rv b3] []
          refine gaload X70 hx (hb hby at_167) rfl rfl ?_
          refine gaload X70 hx (hb hby at_169) rfl rfl ?_
          have f72 := ((f19.ext E18).keep K23)
          obtain ⟨cq71, kq71, qa71, qb71, qc71⟩ := isOf hZ eh70 f72
          obtain ⟨_, _, ⟨T71, L71, k71, n71⟩, -, X71, ⟨Lc71, hQ71, l71, y71, z71⟩, st71⟩ := X70.virtualBack hx (y := mN13) (z := mN13) hown (mvT hZ (hwk hw 77 rfl)) (mvT hZ (hwk hw 78 rfl)) (notFace_of_selects (args := #[]) (mvT hZ (hwk hw 80 rfl))) (mvT hZ (hwk hw 80 rfl)) (mvT hZ (hwk hw 79 rfl)) (by decide) (backOf (W := 0) (rmEq l Z a0 hw [] b1 T23.heap n0 Z23 ) hZ (hwk hw 81 rfl) (hwk hw 2 rfl) (by decide) (by decide)) qa71 qc71 (g := (mkF m 171 #[iv q0, .val (.long q1), .second, iv q2, iv q3, iv (q2 &&& (255 : Int32)), iv (q3 &&& (255 : Int32)), rv b1, rv b3, rv b18, rv b3, rv b3, rv b1, iv (0 : Int32), rv b3] [(.ref b1), (.ref b1)])) rfl (by rw [hml]; rfl) (Steps.refl _) (argsL := [(.ref b1)]) (rest := []) (lenOf pd__Ljava_lang_Object__Z_79ae rfl) rfl (by show 2 * 0 + _ ≤ _; exact Nat.le_of_eq rfl) (hb hby at_171) (fun _ _ => ⟨rfl, eh70, (by decide : 10 + 0 ≤ 24), (by decide : 148 + 0 ≤ 2176)⟩)
          dsimp only [Pt.U, Pt.locs, Pt.cells, Pt.slots] at X71 l71 y71 z71 st71 hQ71
          subst l71 y71 z71
          obtain ⟨rfl, N71q, eh71⟩ := hQ71
          have N71 := Fr.app N70 N71q
          refine Goes.sts st71 ?_
          show Gs p e below _ T71 m 174 #[iv q0, .val (.long q1), .second, iv q2, iv q3, iv (q2 &&& (255 : Int32)), iv (q3 &&& (255 : Int32)), rv b1, rv b3, rv b18, rv b3, rv b3, rv b1, iv (0 : Int32), rv b3] [(.int (1 : Int32))]
          refine gifNo X71 hx (hb hby at_174) (by decide) ?_
          show Gs p e below _ T71 m 177 #[iv q0, .val (.long q1), .second, iv q2, iv q3, iv (q2 &&& (255 : Int32)), iv (q3 &&& (255 : Int32)), rv b1, rv b3, rv b18, rv b3, rv b3, rv b1, iv (0 : Int32), rv b3] []
          refine giconst X71 hx (hb hby at_177) ?_
          show Gs p e below _ T71 m 178 #[iv q0, .val (.long q1), .second, iv q2, iv q3, iv (q2 &&& (255 : Int32)), iv (q3 &&& (255 : Int32)), rv b1, rv b3, rv b18, rv b3, rv b3, rv b1, iv (0 : Int32), rv b3] [(.int (1 : Int32))]
          refine ggoto X71 hx (pc' := 182) (hb hby at_178) (by decide) (by decide) ?_
          show Gs p e below _ T71 m 182 #[iv q0, .val (.long q1), .second, iv q2, iv q3, iv (q2 &&& (255 : Int32)), iv (q3 &&& (255 : Int32)), rv b1, rv b3, rv b18, rv b3, rv b3, rv b1, iv (0 : Int32), rv b3] [(.int (1 : Int32))]
          refine Goes.retN X71 hx hret (by simp) (hb hby at_182) (by decide) (lvV X71 hlk hS (by rw [eh71]; exact hk) (vsome hret) ?_ (by decide) (by decide))
          rw [eh71]
          exact ⟨rfl, N71⟩
set_option maxRecDepth 65536 in
set_option maxHeartbeats 40000000 in
theorem comes_1 {Post : Tables → Env → Array Value → State → Outcome → State → Prop} (hpost : ∀ tb e args s v u, (limb_1_1.after args s (.returned v) u = true ∧ limb_1_2.after args s (.returned v) u = true ∧ True) → ReturnedEndW s (.returned v) u (Jvm.fieldLocs frame_1_writes args s ++ Jvm.arrayLocs frame_1_arrays args s ++ Jvm.staticLocs frame_1_statics s) 24 2176 → Post tb e args s (.returned v) u) :
    ArmFor flags0 classFile x code maxLocals ret World_1 tables_1 room_1 Calls_1 rest_1 Pre_1 Post := by
  intro l hfl _ _ p e ha hc hk s m args below hf hA hF happ hP
  obtain ⟨hcalls, hrest, hpre⟩ := hP
  obtain ⟨-, -, -, hnamed, -, -, -, hat⟩ := (Spec.applies_iff hf).mp happ
  obtain ⟨hg, hn⟩ := and_e (Cond.before_iff.mp (show (Jvm.Cond.and given_1 narrow_1).before args s = true from hpre))
  obtain ⟨hcnt, hg⟩ := and_e hg
  obtain ⟨ga0, hg⟩ := and_e hg
  obtain ⟨ga1, hg⟩ := and_e hg
  obtain ⟨ga2, hg⟩ := and_e hg
  have ga3 := hg
  obtain ⟨w0, w1, w2, w3, rfl⟩ : ∃ w0 w1 w2 w3 : Value, args = #[w0, w1, w2, w3] := by
    have hs : args.size = 4 := by simpa [Cond.value, given_1] using hcnt
    obtain ⟨L⟩ := args
    match L, hs with
    | [w0, w1, w2, w3], _ => exact ⟨w0, w1, w2, w3, rfl⟩
  have hw := fun d (hd : d ∈ tables_1) => atoms_spec (ws := Jvm.Cond.code x code maxLocals ret :: tables_1) hat d (List.mem_cons_of_mem _ hd)
  have hfit : Fit s := fun {y c} hc i hi => by
    obtain ⟨ha, rfl⟩ := Array.getElem?_eq_some_iff.mp hc
    have q := List.all_eq_true.mp ((Array.all_eq_true_iff_forall_mem.mp hF) _ (Array.getElem_mem ha)) i (List.mem_range.mpr hi)
    simpa [Array.getElem?_eq_getElem hi] using q
  obtain ⟨i0, q0⟩ := is_v ga0
  obtain rfl : w0 = (.int i0) := Option.some.inj q0
  obtain ⟨i1, q1⟩ := isL_v ga1
  obtain rfl : w1 = (.long i1) := Option.some.inj q1
  obtain ⟨i2, q2⟩ := is_v ga2
  obtain rfl : w2 = (.int i2) := Option.some.inj q2
  obtain ⟨i3, q3⟩ := is_v ga3
  obtain rfl : w3 = (.int i3) := Option.some.inj q3
  obtain ⟨hsets, hown0⟩ := atoms_of _ (rest_1_c_eq ▸ (show rest_1_c.before _ s = true from hrest))
  have n5 := not_v (Cond.before_iff.mp (hsets _ (List.mem_of_getElem? (i := 2) rfl)))
  obtain ⟨i11, e10⟩ := is_v (Cond.before_iff.mp (hsets _ (List.mem_of_getElem? (i := 1) rfl)))
  have S12 : Sta s s.heap "java/lang/String" "COMPACT_STRINGS" "Z" (.int i11) := Sta.start e10 (Or.inl (hsets _ (List.mem_of_getElem? (i := 0) rfl)))
  have c17 : ¬ (i11 = (0 : Int32)) := gotF (Cond.eq_ints e10 (Term.int_eval (0))) n5
  obtain ⟨n, o, h1, h2, h3, _, L, rfl, ⟨rfl, N⟩, hq⟩ := rm0 l s _ hw tables_1 i0 i1 i2 i3 i11 s.heap s.heap.size (Nat.le_refl _) S12 c17 p e ha hc hk s m _ below hf ((Spec.applies_iff_loose hf).mp happ).1 ⟨rfl, State.Warmed39.refl s, rfl⟩ trivial
  refine ⟨n, _, h1, h2, h3, hpost _ _ _ _ _ _ ⟨Cond.after_iff.mpr rfl, Cond.after_iff.mpr (eq_i res_at (Term.int_eval (1)) rfl), trivial⟩ ⟨hq.1, hq.2.1, hq.2.2.1, (hq.2.2.2.sift fun y hy => Or.inr (N y hy)).mono (by decide) (by decide)⟩⟩
theorem main_1_1 : Claimed_1_1 := comes_1 fun _ _ _ _ _ _ h hF => ⟨h.1, hF⟩
theorem main_1_2 : Claimed_1_2 := comes_1 fun _ _ _ _ _ _ h hF => ⟨h.2.1, hF⟩
end Jvm.Pilot.@@N@@
namespace Jvm.Pilot.@@N@@
open Jvm Jvm.ClassFile Sem Op Lib Jvm.Free Jvm.Stand Jvm.Pilot.@@N@@.Jvm.D
/-! MADE BY PROGRAM (witnessworld.py) out of the Statement's table words and the real class files: 22 classes; the members and pool entries that the words name. The judged class is class 1, her method 1. -/
namespace start1
open Jvm.ClassFile
def u (s : String) : CpInfo := .utf8 (stringToUtf16 s)
/-- a pool by its gaps: so many unusable entries, then the entry; so many at the end -/
def gap : Nat → List CpInfo → List CpInfo
  | 0, r => r
  | n + 1, r => .unusable :: gap n r
def poolList (es : List (Nat × CpInfo)) (last : Nat) : List CpInfo := es.foldr (fun e r => gap e.1 (e.2 :: r)) (gap last [])
def pool (es : List (Nat × CpInfo)) (last : Nat) : Array CpInfo := ⟨poolList es last⟩
def fileOf (pool : Array CpInfo) (this : Nat) (attrs : Array Attribute := #[]) (ms : Array MethodInfo := #[]) (fl : Nat := 33) (sup : Nat := 0) (ifs : Array Nat := #[]) (fds : Array FieldInfo := #[]) : ClassFile where
  minorVersion := 0
  majorVersion := 65
  constantPool := pool
  accessFlags := fl
  thisClass := this
  superClass := sup
  interfaces := ifs
  fields := fds
  methods := ms
  attributes := attrs
def plain (name : String) (sup : Option ClassId) : Class where
  name := name
  kind := .ordinary
  loader := none
  accessFlags := 33
  super := sup
  interfaces := #[]
  cf := none
  fields := #[]
  methods := #[]
  instanceTypes := #[]
  staticTypes := #[]
  resolved := #[]
  callSites := []
  init := .initialized
  statics := none
  mirror := none

def pool0 : Array CpInfo := pool [(5, u "<init>"), (0, u "()V"), (1, .class_ 10), (1, u "java/lang/Object")] 113

def k0c0 : Code := { maxStack := 0, maxLocals := 1, code := object_method_1_code, exceptionTable := #[], attributes := #[] }
def k0m0 : Method := { name := "<init>", desc := "()V", sig := { parameters := [], returnType := none }, accessFlags := 1, code := some k0c0 }
/-- java/lang/Object -/
def k0 : Class := { plain "java/lang/Object" none with
  accessFlags := 33
  interfaces := #[]
  cf := some (fileOf pool0 8 #[] #[{ accessFlags := 1, nameIndex := 5, descriptorIndex := 6, attributes := #[] }] 33 0 #[] #[])
  fields := #[]
  methods := #[k0m0]
  instanceTypes := #[]
  staticTypes := #[]
  resolved := Array.replicate 124 none
  statics := none }

def pool1 : Array CpInfo := pool [(2, .class_ 4), (1, u "java/lang/Object"), (0, u "<init>"), (0, u "()V"), (0, .methodref 8 9), (0, .class_ 10), (0, .nameAndType 11 12), (0, u "java/lang/String"), (0, u "valueOf"), (0, u "(C)Ljava/lang/String;"), (0, .methodref 8 14), (0, .nameAndType 5 15), (0, u "([C)V"), (0, .class_ 17), (0, u "com/example/lean_renewal/leanrenewal/service/EarlyAdopterOffer"), (0, .methodref 16 19), (0, .nameAndType 5 20), (0, u "(ILjava/lang/String;Ljava/lang/String;)V"), (0, .methodref 16 22), (0, .nameAndType 23 24), (0, u "productFor"), (0, u "(J)Ljava/lang/String;"), (2, .long 18446744071562067968), (1, .long 2147483647), (1, .methodref 8 32), (0, .nameAndType 33 34), (0, u "equals"), (0, u "(Ljava/lang/Object;)Z"), (0, .class_ 36), (0, u "com/example/lean_renewal/leanrenewal/service/EarlyAdopterOfferProductForPinLaw"), (2, u "law"), (0, u "(IJII)Z")] 3

def k1m0 : Method := { name := "<init>", desc := "()V", sig := { parameters := [], returnType := none }, accessFlags := 1, code := none }
def k1c1 : Code := { maxStack := 6, maxLocals := 15, code := code, exceptionTable := #[], attributes := #[] }
def k1m1 : Method := { name := "law", desc := "(IJII)Z", sig := { parameters := [.int, .long, .int, .int], returnType := some .boolean }, accessFlags := 9, code := some k1c1 }
/-- com/example/lean_renewal/leanrenewal/service/EarlyAdopterOfferProductForPinLaw -/
def k1 : Class := { plain "com/example/lean_renewal/leanrenewal/service/EarlyAdopterOfferProductForPinLaw" (some 0) with
  accessFlags := 49
  interfaces := #[]
  cf := some (fileOf pool1 35 #[] #[{ accessFlags := 1, nameIndex := 5, descriptorIndex := 6, attributes := #[] }, { accessFlags := 9, nameIndex := 39, descriptorIndex := 40, attributes := #[] }] 49 2 #[] #[])
  fields := #[]
  methods := #[k1m0, k1m1]
  instanceTypes := #[]
  staticTypes := #[]
  resolved := Array.replicate 44 none
  statics := none }

def pool2 : Array CpInfo := pool [(1, .class_ 2), (0, u "java/io/Serializable"), (0, .class_ 4), (0, u "java/lang/Object")] 2

/-- java/io/Serializable -/
def k2 : Class := { plain "java/io/Serializable" (some 0) with
  accessFlags := 1537
  interfaces := #[]
  cf := some (fileOf pool2 1 #[] #[] 1537 3 #[] #[])
  fields := #[]
  methods := #[]
  instanceTypes := #[]
  staticTypes := #[]
  resolved := Array.replicate 7 none
  statics := none }

def pool3 : Array CpInfo := pool [(1, .class_ 2), (0, u "java/lang/Comparable"), (0, .class_ 4), (0, u "java/lang/Object")] 7

/-- java/lang/Comparable -/
def k3 : Class := { plain "java/lang/Comparable" (some 0) with
  accessFlags := 1537
  interfaces := #[]
  cf := some (fileOf pool3 1 #[] #[] 1537 3 #[] #[])
  fields := #[]
  methods := #[]
  instanceTypes := #[]
  staticTypes := #[]
  resolved := Array.replicate 12 none
  statics := none }

def pool4 : Array CpInfo := pool [(2, .class_ 4), (1, u "java/lang/CharSequence"), (42, .class_ 48), (0, u "java/lang/CharSequence$1CodePointIterator"), (10, .class_ 60), (0, u "java/lang/CharSequence$1CharIterator"), (5, .class_ 67), (0, u "java/lang/Object")] 63

/-- java/lang/CharSequence -/
def k4 : Class := { plain "java/lang/CharSequence" (some 0) with
  accessFlags := 1537
  interfaces := #[]
  cf := some (fileOf pool4 2 #[.nestMembers #[47, 59]] #[] 1537 66 #[] #[])
  fields := #[]
  methods := #[]
  instanceTypes := #[]
  staticTypes := #[]
  resolved := Array.replicate 131 none
  statics := none }

def pool5 : Array CpInfo := pool [(1, .class_ 2), (0, u "java/lang/constant/Constable"), (0, .class_ 4), (0, u "java/lang/Object")] 6

/-- java/lang/constant/Constable -/
def k5 : Class := { plain "java/lang/constant/Constable" (some 0) with
  accessFlags := 1537
  interfaces := #[]
  cf := some (fileOf pool5 1 #[] #[] 1537 3 #[] #[])
  fields := #[]
  methods := #[]
  instanceTypes := #[]
  staticTypes := #[]
  resolved := Array.replicate 11 none
  statics := none }

def pool6 : Array CpInfo := pool [(1, .class_ 2), (0, u "java/lang/constant/ConstantDesc"), (0, .class_ 4), (0, u "java/lang/Object")] 32

/-- java/lang/constant/ConstantDesc -/
def k6 : Class := { plain "java/lang/constant/ConstantDesc" (some 0) with
  accessFlags := 1537
  interfaces := #[]
  cf := some (fileOf pool6 1 #[] #[] 1537 3 #[] #[])
  fields := #[]
  methods := #[]
  instanceTypes := #[]
  staticTypes := #[]
  resolved := Array.replicate 37 none
  statics := none }

def pool7 : Array CpInfo := pool [(1, .methodref 2 3), (0, .class_ 4), (0, .nameAndType 5 6), (0, u "java/lang/Object"), (0, u "<init>"), (0, u "()V"), (2, .fieldref 10 11), (0, .class_ 12), (0, .nameAndType 13 14), (0, u "java/lang/String"), (0, u "value"), (0, u "[B"), (0, .fieldref 10 16), (0, .nameAndType 17 18), (0, u "coder"), (0, u "B"), (2, u "hash"), (0, u "I"), (2, u "hashIsZero"), (0, u "Z"), (0, .methodref 10 28), (0, .nameAndType 5 29), (0, u "([CIILjava/lang/Void;)V"), (8, .fieldref 10 39), (0, .nameAndType 40 26), (0, u "COMPACT_STRINGS"), (1, .class_ 44), (1, u "java/lang/StringUTF16"), (0, u "compress"), (1, .methodref 42 48), (0, .nameAndType 49 50), (0, u "coderFromArrayLen"), (0, u "([BI)B"), (2, u "toBytes"), (53, .class_ 109), (1, u "java/lang/StringLatin1"), (67, .methodref 42 178), (0, .nameAndType 45 179), (0, u "([CII)[B"), (29, .methodref 10 210), (0, .nameAndType 5 211), (0, u "([BB)V"), (157, u "(C)Z"), (173, u "equals"), (29, u "(Ljava/lang/Object;)Z"), (1, .class_ 576), (0, u "java/lang/CharSequence"), (22, u "CASE_INSENSITIVE_ORDER"), (0, u "Ljava/util/Comparator;"), (181, u "valueOf"), (0, u "(C)Ljava/lang/String;"), (226, u "([C)V"), (4, .methodref 107 1016), (0, .nameAndType 1017 369), (0, u "canEncode"), (0, .methodref 107 1019), (0, .nameAndType 53 1020), (0, u "(C)[B"), (80, u "serialPersistentFields"), (0, u "[Ljava/io/ObjectStreamField;"), (0, .class_ 1104), (0, u "java/lang/String$CaseInsensitiveComparator"), (1, .class_ 1107), (0, u "java/io/Serializable"), (0, .class_ 1109), (0, u "java/lang/Comparable"), (0, .class_ 1111), (0, u "java/lang/constant/Constable"), (0, .class_ 1113), (0, u "java/lang/constant/ConstantDesc"), (2, u "serialVersionUID"), (0, u "J"), (3, u "REPL"), (0, u "C"), (2, u "LATIN1"), (1, u "UTF16")] 323

def k7m0 : Method := { name := "<init>", desc := "()V", sig := { parameters := [], returnType := none }, accessFlags := 1, code := none }
def k7c1 : Code := { maxStack := 5, maxLocals := 2, code := jdk_42_method_3_code, exceptionTable := #[], attributes := #[] }
def k7m1 : Method := { name := "<init>", desc := "([C)V", sig := { parameters := [(.array .char)], returnType := none }, accessFlags := 1, code := some k7c1 }
def k7c2 : Code := { maxStack := 2, maxLocals := 3, code := jdk_42_method_66_code, exceptionTable := #[], attributes := #[] }
def k7m2 : Method := { name := "equals", desc := "(Ljava/lang/Object;)Z", sig := { parameters := [(.object "java/lang/Object")], returnType := some .boolean }, accessFlags := 1, code := some k7c2 }
def k7c3 : Code := { maxStack := 4, maxLocals := 1, code := jdk_42_method_139_code, exceptionTable := #[], attributes := #[] }
def k7m3 : Method := { name := "valueOf", desc := "(C)Ljava/lang/String;", sig := { parameters := [.char], returnType := some (.object "java/lang/String") }, accessFlags := 9, code := some k7c3 }
def k7c4 : Code := { maxStack := 4, maxLocals := 6, code := jdk_42_method_149_code, exceptionTable := #[], attributes := #[] }
def k7m4 : Method := { name := "<init>", desc := "([CIILjava/lang/Void;)V", sig := { parameters := [(.array .char), .int, .int, (.object "java/lang/Void")], returnType := none }, accessFlags := 2, code := some k7c4 }
def k7c5 : Code := { maxStack := 2, maxLocals := 3, code := jdk_42_method_151_code, exceptionTable := #[], attributes := #[] }
def k7m5 : Method := { name := "<init>", desc := "([BB)V", sig := { parameters := [(.array .byte), .byte], returnType := none }, accessFlags := 0, code := some k7c5 }
/-- java/lang/String -/
def k7 : Class := { plain "java/lang/String" (some 0) with
  accessFlags := 49
  interfaces := #[2, 3, 4, 5, 6]
  cf := some (fileOf pool7 10 #[.nestMembers #[1103]] #[{ accessFlags := 1, nameIndex := 5, descriptorIndex := 6, attributes := #[] }, { accessFlags := 1, nameIndex := 5, descriptorIndex := 1010, attributes := #[] }, { accessFlags := 1, nameIndex := 543, descriptorIndex := 573, attributes := #[] }, { accessFlags := 9, nameIndex := 782, descriptorIndex := 783, attributes := #[] }, { accessFlags := 2, nameIndex := 5, descriptorIndex := 29, attributes := #[] }, { accessFlags := 0, nameIndex := 5, descriptorIndex := 211, attributes := #[] }] 49 2 #[1106, 1108, 575, 1110, 1112] #[{ accessFlags := 18, nameIndex := 13, descriptorIndex := 14, attributes := #[] }, { accessFlags := 18, nameIndex := 17, descriptorIndex := 18, attributes := #[] }, { accessFlags := 2, nameIndex := 21, descriptorIndex := 22, attributes := #[] }, { accessFlags := 2, nameIndex := 25, descriptorIndex := 26, attributes := #[] }, { accessFlags := 26, nameIndex := 1116, descriptorIndex := 1117, attributes := #[] }, { accessFlags := 24, nameIndex := 40, descriptorIndex := 26, attributes := #[] }, { accessFlags := 26, nameIndex := 1101, descriptorIndex := 1102, attributes := #[] }, { accessFlags := 26, nameIndex := 1121, descriptorIndex := 1122, attributes := #[] }, { accessFlags := 25, nameIndex := 599, descriptorIndex := 600, attributes := #[] }, { accessFlags := 24, nameIndex := 1125, descriptorIndex := 18, attributes := #[] }, { accessFlags := 24, nameIndex := 1127, descriptorIndex := 18, attributes := #[] }])
  fields := #[{ name := "value", type := (.array .byte), accessFlags := 18, slot := 0, constantValue := 0 }, { name := "coder", type := .byte, accessFlags := 18, slot := 1, constantValue := 0 }, { name := "hash", type := .int, accessFlags := 2, slot := 2, constantValue := 0 }, { name := "hashIsZero", type := .boolean, accessFlags := 2, slot := 3, constantValue := 0 }, { name := "serialVersionUID", type := .long, accessFlags := 26, slot := 0, constantValue := 0 }, { name := "COMPACT_STRINGS", type := .boolean, accessFlags := 24, slot := 1, constantValue := 0 }, { name := "serialPersistentFields", type := (.array (.object "java/io/ObjectStreamField")), accessFlags := 26, slot := 2, constantValue := 0 }, { name := "REPL", type := .char, accessFlags := 26, slot := 3, constantValue := 0 }, { name := "CASE_INSENSITIVE_ORDER", type := (.object "java/util/Comparator"), accessFlags := 25, slot := 4, constantValue := 0 }, { name := "LATIN1", type := .byte, accessFlags := 24, slot := 5, constantValue := 0 }, { name := "UTF16", type := .byte, accessFlags := 24, slot := 6, constantValue := 0 }]
  methods := #[k7m0, k7m1, k7m2, k7m3, k7m4, k7m5]
  instanceTypes := #[(.array .byte), .byte, .int, .boolean]
  staticTypes := #[.long, .boolean, (.array (.object "java/io/ObjectStreamField")), .char, (.object "java/util/Comparator"), .byte, .byte]
  resolved := Array.replicate 1451 none
  statics := some 0 }

def pool8 : Array CpInfo := pool [(4, .class_ 6), (1, u "java/lang/Object"), (0, u "<init>"), (0, u "()V"), (5, .class_ 16), (1, u "java/lang/StringLatin1"), (73, u "canEncode"), (14, u "(C)Z"), (15, u "$assertionsDisabled"), (0, u "Z"), (98, .class_ 223), (1, u "java/lang/StringLatin1$LinesSpliterator"), (156, u "toBytes"), (1, u "(C)[B"), (7, .class_ 391), (0, u "java/lang/StringLatin1$CharsSpliterator")] 3

def k8m0 : Method := { name := "<init>", desc := "()V", sig := { parameters := [], returnType := none }, accessFlags := 0, code := none }
def k8c1 : Code := { maxStack := 2, maxLocals := 1, code := jdk_43_method_3_code, exceptionTable := #[], attributes := #[] }
def k8m1 : Method := { name := "canEncode", desc := "(C)Z", sig := { parameters := [.char], returnType := some .boolean }, accessFlags := 9, code := some k8c1 }
def k8c2 : Code := { maxStack := 4, maxLocals := 1, code := jdk_43_method_46_code, exceptionTable := #[], attributes := #[] }
def k8m2 : Method := { name := "toBytes", desc := "(C)[B", sig := { parameters := [.char], returnType := some (.array .byte) }, accessFlags := 9, code := some k8c2 }
/-- java/lang/StringLatin1 -/
def k8 : Class := { plain "java/lang/StringLatin1" (some 0) with
  accessFlags := 48
  interfaces := #[]
  cf := some (fileOf pool8 14 #[.nestMembers #[390, 221]] #[{ accessFlags := 0, nameIndex := 7, descriptorIndex := 8, attributes := #[] }, { accessFlags := 9, nameIndex := 90, descriptorIndex := 105, attributes := #[] }, { accessFlags := 9, nameIndex := 380, descriptorIndex := 382, attributes := #[] }] 48 4 #[] #[{ accessFlags := 4120, nameIndex := 121, descriptorIndex := 122, attributes := #[] }])
  fields := #[{ name := "$assertionsDisabled", type := .boolean, accessFlags := 4120, slot := 0, constantValue := 0 }]
  methods := #[k8m0, k8m1, k8m2]
  instanceTypes := #[]
  staticTypes := #[.boolean]
  resolved := Array.replicate 395 none
  statics := none }

def pool9 : Array CpInfo := pool [(6, .class_ 8), (1, u "java/lang/Object"), (0, u "<init>"), (0, u "()V"), (1, .class_ 14), (1, u "java/lang/StringUTF16"), (31, u "$assertionsDisabled"), (0, u "Z"), (13, u "HI_BYTE_SHIFT"), (0, u "I"), (2, u "LO_BYTE_SHIFT"), (49, .methodref 12 116), (0, .nameAndType 117 118), (0, u "compress"), (0, u "([CI[BII)I"), (3, u "([CII)[B"), (138, u "coderFromArrayLen"), (0, u "([BI)B"), (106, .class_ 371), (1, u "java/lang/StringUTF16$LinesSpliterator"), (58, u "MAX_LENGTH"), (196, .class_ 628), (0, u "java/lang/StringUTF16$CodePointsSpliterator"), (0, .class_ 630), (0, u "java/lang/StringUTF16$CharsSpliterator")] 4

def k9m0 : Method := { name := "<init>", desc := "()V", sig := { parameters := [], returnType := none }, accessFlags := 0, code := none }
def k9c1 : Code := { maxStack := 2, maxLocals := 2, code := jdk_52_method_15_code, exceptionTable := #[], attributes := #[] }
def k9m1 : Method := { name := "coderFromArrayLen", desc := "([BI)B", sig := { parameters := [(.array .byte), .int], returnType := some .byte }, accessFlags := 8, code := some k9c1 }
def k9c2 : Code := { maxStack := 5, maxLocals := 6, code := jdk_52_method_16_code, exceptionTable := #[], attributes := #[] }
def k9m2 : Method := { name := "compress", desc := "([CII)[B", sig := { parameters := [(.array .char), .int, .int], returnType := some (.array .byte) }, accessFlags := 9, code := some k9c2 }
def k9c3 : Code := { maxStack := 3, maxLocals := 7, code := jdk_52_method_21_code, exceptionTable := #[], attributes := #[] }
def k9m3 : Method := { name := "compress", desc := "([CI[BII)I", sig := { parameters := [(.array .char), .int, (.array .byte), .int, .int], returnType := some .int }, accessFlags := 9, code := some k9c3 }
/-- java/lang/StringUTF16 -/
def k9 : Class := { plain "java/lang/StringUTF16" (some 0) with
  accessFlags := 48
  interfaces := #[]
  cf := some (fileOf pool9 12 #[.nestMembers #[627, 629, 369]] #[{ accessFlags := 0, nameIndex := 9, descriptorIndex := 10, attributes := #[] }, { accessFlags := 8, nameIndex := 261, descriptorIndex := 262, attributes := #[] }, { accessFlags := 9, nameIndex := 117, descriptorIndex := 122, attributes := #[] }, { accessFlags := 9, nameIndex := 117, descriptorIndex := 118, attributes := #[] }] 48 6 #[] #[{ accessFlags := 26, nameIndex := 61, descriptorIndex := 62, attributes := #[] }, { accessFlags := 26, nameIndex := 65, descriptorIndex := 62, attributes := #[] }, { accessFlags := 24, nameIndex := 430, descriptorIndex := 62, attributes := #[] }, { accessFlags := 4120, nameIndex := 46, descriptorIndex := 47, attributes := #[] }])
  fields := #[{ name := "HI_BYTE_SHIFT", type := .int, accessFlags := 26, slot := 0, constantValue := 0 }, { name := "LO_BYTE_SHIFT", type := .int, accessFlags := 26, slot := 1, constantValue := 0 }, { name := "MAX_LENGTH", type := .int, accessFlags := 24, slot := 2, constantValue := 0 }, { name := "$assertionsDisabled", type := .boolean, accessFlags := 4120, slot := 3, constantValue := 0 }]
  methods := #[k9m0, k9m1, k9m2, k9m3]
  instanceTypes := #[]
  staticTypes := #[.int, .int, .int, .boolean]
  resolved := Array.replicate 635 none
  statics := none }

def pool10 : Array CpInfo := pool [(1, .methodref 2 3), (0, .class_ 4), (0, .nameAndType 5 6), (0, u "java/lang/Object"), (0, u "<init>"), (0, u "()V"), (0, .class_ 8), (0, u "java/lang/Record")] 13

def k10c0 : Code := { maxStack := 1, maxLocals := 1, code := jdk_30_method_1_code, exceptionTable := #[], attributes := #[] }
def k10m0 : Method := { name := "<init>", desc := "()V", sig := { parameters := [], returnType := none }, accessFlags := 4, code := some k10c0 }
/-- java/lang/Record -/
def k10 : Class := { plain "java/lang/Record" (some 0) with
  accessFlags := 1057
  interfaces := #[]
  cf := some (fileOf pool10 7 #[] #[{ accessFlags := 4, nameIndex := 5, descriptorIndex := 6, attributes := #[] }] 1057 2 #[] #[])
  fields := #[]
  methods := #[k10m0]
  instanceTypes := #[]
  staticTypes := #[]
  resolved := Array.replicate 22 none
  statics := none }

def pool11 : Array CpInfo := pool [(1, .methodref 2 3), (0, .class_ 4), (0, .nameAndType 5 6), (0, u "java/lang/Record"), (0, u "<init>"), (0, u "()V"), (0, .string 8), (0, u "introProductId"), (0, .methodref 10 11), (0, .class_ 12), (0, .nameAndType 13 14), (0, u "java/util/Objects"), (0, u "requireNonNull"), (0, u "(Ljava/lang/Object;Ljava/lang/String;)Ljava/lang/Object;"), (0, .string 16), (0, u "standardProductId"), (0, .fieldref 18 19), (0, .class_ 20), (0, .nameAndType 21 22), (0, u "com/example/lean_renewal/leanrenewal/service/EarlyAdopterOffer"), (0, u "limit"), (0, u "I"), (0, .fieldref 18 24), (0, .nameAndType 8 25), (0, u "Ljava/lang/String;"), (0, .fieldref 18 27), (0, .nameAndType 16 25), (12, u "DEFAULT_LIMIT"), (2, u "(ILjava/lang/String;Ljava/lang/String;)V"), (3, u "productFor"), (0, u "(J)Ljava/lang/String;")] 28

def k11c0 : Code := { maxStack := 2, maxLocals := 4, code := prog_22_method_1_code, exceptionTable := #[], attributes := #[] }
def k11m0 : Method := { name := "<init>", desc := "(ILjava/lang/String;Ljava/lang/String;)V", sig := { parameters := [.int, (.object "java/lang/String"), (.object "java/lang/String")], returnType := none }, accessFlags := 1, code := some k11c0 }
def k11c1 : Code := { maxStack := 4, maxLocals := 3, code := prog_22_method_2_code, exceptionTable := #[], attributes := #[] }
def k11m1 : Method := { name := "productFor", desc := "(J)Ljava/lang/String;", sig := { parameters := [.long], returnType := some (.object "java/lang/String") }, accessFlags := 1, code := some k11c1 }
/-- com/example/lean_renewal/leanrenewal/service/EarlyAdopterOffer -/
def k11 : Class := { plain "com/example/lean_renewal/leanrenewal/service/EarlyAdopterOffer" (some 10) with
  accessFlags := 49
  interfaces := #[]
  cf := some (fileOf pool11 18 #[] #[{ accessFlags := 1, nameIndex := 5, descriptorIndex := 43, attributes := #[] }, { accessFlags := 1, nameIndex := 47, descriptorIndex := 48, attributes := #[] }] 49 2 #[] #[{ accessFlags := 18, nameIndex := 21, descriptorIndex := 22, attributes := #[] }, { accessFlags := 18, nameIndex := 8, descriptorIndex := 25, attributes := #[] }, { accessFlags := 18, nameIndex := 16, descriptorIndex := 25, attributes := #[] }, { accessFlags := 25, nameIndex := 40, descriptorIndex := 22, attributes := #[] }])
  fields := #[{ name := "limit", type := .int, accessFlags := 18, slot := 0, constantValue := 0 }, { name := "introProductId", type := (.object "java/lang/String"), accessFlags := 18, slot := 1, constantValue := 0 }, { name := "standardProductId", type := (.object "java/lang/String"), accessFlags := 18, slot := 2, constantValue := 0 }, { name := "DEFAULT_LIMIT", type := .int, accessFlags := 25, slot := 0, constantValue := 0 }]
  methods := #[k11m0, k11m1]
  instanceTypes := #[.int, (.object "java/lang/String"), (.object "java/lang/String")]
  staticTypes := #[.int]
  resolved := Array.replicate 77 none
  statics := none }

def pool12 : Array CpInfo := pool [(2, .class_ 4), (1, u "java/lang/Object"), (0, u "<init>"), (0, u "()V"), (35, .class_ 44), (1, u "java/util/Objects"), (0, u "requireNonNull"), (48, u "(Ljava/lang/Object;Ljava/lang/String;)Ljava/lang/Object;")] 89

def k12m0 : Method := { name := "<init>", desc := "()V", sig := { parameters := [], returnType := none }, accessFlags := 2, code := none }
def k12c1 : Code := { maxStack := 3, maxLocals := 2, code := jdk_31_method_11_code, exceptionTable := #[], attributes := #[] }
def k12m1 : Method := { name := "requireNonNull", desc := "(Ljava/lang/Object;Ljava/lang/String;)Ljava/lang/Object;", sig := { parameters := [(.object "java/lang/Object"), (.object "java/lang/String")], returnType := some (.object "java/lang/Object") }, accessFlags := 9, code := some k12c1 }
/-- java/util/Objects -/
def k12 : Class := { plain "java/util/Objects" (some 0) with
  accessFlags := 49
  interfaces := #[]
  cf := some (fileOf pool12 42 #[] #[{ accessFlags := 2, nameIndex := 5, descriptorIndex := 6, attributes := #[] }, { accessFlags := 9, nameIndex := 45, descriptorIndex := 94, attributes := #[] }] 49 2 #[] #[])
  fields := #[]
  methods := #[k12m0, k12m1]
  instanceTypes := #[]
  staticTypes := #[]
  resolved := Array.replicate 184 none
  statics := none }

def pool13 : Array CpInfo := pool [(2, .class_ 4), (1, u "java/lang/Object"), (0, u "<init>"), (0, u "()V"), (17, .class_ 26), (1, u "jdk/internal/util/Preconditions"), (28, .class_ 56), (0, u "jdk/internal/util/Preconditions$4"), (57, .class_ 115), (0, u "jdk/internal/util/Preconditions$1"), (7, u "SIOOBE_FORMATTER"), (0, u "Ljava/util/function/BiFunction;"), (0, .class_ 126), (0, u "jdk/internal/util/Preconditions$2"), (3, u "AIOOBE_FORMATTER"), (0, .class_ 132), (0, u "jdk/internal/util/Preconditions$3"), (3, u "IOOBE_FORMATTER")] 57

def k13m0 : Method := { name := "<init>", desc := "()V", sig := { parameters := [], returnType := none }, accessFlags := 1, code := none }
/-- jdk/internal/util/Preconditions -/
def k13 : Class := { plain "jdk/internal/util/Preconditions" (some 0) with
  accessFlags := 33
  interfaces := #[]
  cf := some (fileOf pool13 24 #[.nestMembers #[55, 131, 125, 114]] #[{ accessFlags := 1, nameIndex := 5, descriptorIndex := 6, attributes := #[] }] 33 2 #[] #[{ accessFlags := 25, nameIndex := 123, descriptorIndex := 124, attributes := #[] }, { accessFlags := 25, nameIndex := 130, descriptorIndex := 124, attributes := #[] }, { accessFlags := 25, nameIndex := 136, descriptorIndex := 124, attributes := #[] }])
  fields := #[{ name := "SIOOBE_FORMATTER", type := (.object "java/util/function/BiFunction"), accessFlags := 25, slot := 0, constantValue := 0 }, { name := "AIOOBE_FORMATTER", type := (.object "java/util/function/BiFunction"), accessFlags := 25, slot := 1, constantValue := 0 }, { name := "IOOBE_FORMATTER", type := (.object "java/util/function/BiFunction"), accessFlags := 25, slot := 2, constantValue := 0 }]
  methods := #[k13m0]
  instanceTypes := #[]
  staticTypes := #[(.object "java/util/function/BiFunction"), (.object "java/util/function/BiFunction"), (.object "java/util/function/BiFunction")]
  resolved := Array.replicate 194 none
  statics := some 1 }

def pool14 : Array CpInfo := pool [(9, u "<init>"), (6, .class_ 18), (1, u "java/lang/Object"), (0, u "()V"), (1, .class_ 23), (1, u "jdk/internal/util/ArraysSupport"), (0, u "LOG2_ARRAY_LONG_INDEX_SCALE"), (0, u "I"), (2, u "U"), (0, u "Ljdk/internal/misc/Unsafe;"), (8, u "BIG_ENDIAN"), (0, u "Z"), (8, u "LOG2_BYTE_BIT_SIZE"), (4, u "LOG2_ARRAY_INT_INDEX_SCALE"), (54, u "JLA"), (0, u "Ljdk/internal/access/JavaLangAccess;"), (11, u "LOG2_ARRAY_BOOLEAN_INDEX_SCALE"), (9, u "LOG2_ARRAY_BYTE_INDEX_SCALE"), (5, u "LOG2_ARRAY_CHAR_INDEX_SCALE"), (5, u "LOG2_ARRAY_SHORT_INDEX_SCALE"), (18, u "LOG2_ARRAY_FLOAT_INDEX_SCALE"), (24, u "LOG2_ARRAY_DOUBLE_INDEX_SCALE"), (89, u "T_BOOLEAN"), (2, u "T_CHAR"), (1, u "T_FLOAT"), (1, u "T_DOUBLE"), (1, u "T_BYTE"), (1, u "T_SHORT"), (1, u "T_INT"), (1, u "T_LONG"), (1, u "SOFT_MAX_ARRAY_LENGTH")] 83

def k14m0 : Method := { name := "<init>", desc := "()V", sig := { parameters := [], returnType := none }, accessFlags := 2, code := none }
/-- jdk/internal/util/ArraysSupport -/
def k14 : Class := { plain "jdk/internal/util/ArraysSupport" (some 0) with
  accessFlags := 33
  interfaces := #[]
  cf := some (fileOf pool14 21 #[] #[{ accessFlags := 2, nameIndex := 9, descriptorIndex := 19, attributes := #[] }] 33 16 #[] #[{ accessFlags := 24, nameIndex := 28, descriptorIndex := 29, attributes := #[] }, { accessFlags := 26, nameIndex := 38, descriptorIndex := 39, attributes := #[] }, { accessFlags := 25, nameIndex := 121, descriptorIndex := 25, attributes := #[] }, { accessFlags := 25, nameIndex := 131, descriptorIndex := 25, attributes := #[] }, { accessFlags := 25, nameIndex := 137, descriptorIndex := 25, attributes := #[] }, { accessFlags := 25, nameIndex := 143, descriptorIndex := 25, attributes := #[] }, { accessFlags := 25, nameIndex := 53, descriptorIndex := 25, attributes := #[] }, { accessFlags := 25, nameIndex := 24, descriptorIndex := 25, attributes := #[] }, { accessFlags := 25, nameIndex := 162, descriptorIndex := 25, attributes := #[] }, { accessFlags := 25, nameIndex := 187, descriptorIndex := 25, attributes := #[] }, { accessFlags := 26, nameIndex := 48, descriptorIndex := 25, attributes := #[] }, { accessFlags := 25, nameIndex := 277, descriptorIndex := 25, attributes := #[] }, { accessFlags := 25, nameIndex := 280, descriptorIndex := 25, attributes := #[] }, { accessFlags := 25, nameIndex := 282, descriptorIndex := 25, attributes := #[] }, { accessFlags := 25, nameIndex := 284, descriptorIndex := 25, attributes := #[] }, { accessFlags := 25, nameIndex := 286, descriptorIndex := 25, attributes := #[] }, { accessFlags := 25, nameIndex := 288, descriptorIndex := 25, attributes := #[] }, { accessFlags := 25, nameIndex := 290, descriptorIndex := 25, attributes := #[] }, { accessFlags := 25, nameIndex := 292, descriptorIndex := 25, attributes := #[] }, { accessFlags := 26, nameIndex := 108, descriptorIndex := 109, attributes := #[] }, { accessFlags := 25, nameIndex := 294, descriptorIndex := 25, attributes := #[] }])
  fields := #[{ name := "U", type := (.object "jdk/internal/misc/Unsafe"), accessFlags := 24, slot := 0, constantValue := 0 }, { name := "BIG_ENDIAN", type := .boolean, accessFlags := 26, slot := 1, constantValue := 0 }, { name := "LOG2_ARRAY_BOOLEAN_INDEX_SCALE", type := .int, accessFlags := 25, slot := 2, constantValue := 0 }, { name := "LOG2_ARRAY_BYTE_INDEX_SCALE", type := .int, accessFlags := 25, slot := 3, constantValue := 0 }, { name := "LOG2_ARRAY_CHAR_INDEX_SCALE", type := .int, accessFlags := 25, slot := 4, constantValue := 0 }, { name := "LOG2_ARRAY_SHORT_INDEX_SCALE", type := .int, accessFlags := 25, slot := 5, constantValue := 0 }, { name := "LOG2_ARRAY_INT_INDEX_SCALE", type := .int, accessFlags := 25, slot := 6, constantValue := 0 }, { name := "LOG2_ARRAY_LONG_INDEX_SCALE", type := .int, accessFlags := 25, slot := 7, constantValue := 0 }, { name := "LOG2_ARRAY_FLOAT_INDEX_SCALE", type := .int, accessFlags := 25, slot := 8, constantValue := 0 }, { name := "LOG2_ARRAY_DOUBLE_INDEX_SCALE", type := .int, accessFlags := 25, slot := 9, constantValue := 0 }, { name := "LOG2_BYTE_BIT_SIZE", type := .int, accessFlags := 26, slot := 10, constantValue := 0 }, { name := "T_BOOLEAN", type := .int, accessFlags := 25, slot := 11, constantValue := 0 }, { name := "T_CHAR", type := .int, accessFlags := 25, slot := 12, constantValue := 0 }, { name := "T_FLOAT", type := .int, accessFlags := 25, slot := 13, constantValue := 0 }, { name := "T_DOUBLE", type := .int, accessFlags := 25, slot := 14, constantValue := 0 }, { name := "T_BYTE", type := .int, accessFlags := 25, slot := 15, constantValue := 0 }, { name := "T_SHORT", type := .int, accessFlags := 25, slot := 16, constantValue := 0 }, { name := "T_INT", type := .int, accessFlags := 25, slot := 17, constantValue := 0 }, { name := "T_LONG", type := .int, accessFlags := 25, slot := 18, constantValue := 0 }, { name := "JLA", type := (.object "jdk/internal/access/JavaLangAccess"), accessFlags := 26, slot := 19, constantValue := 0 }, { name := "SOFT_MAX_ARRAY_LENGTH", type := .int, accessFlags := 25, slot := 20, constantValue := 0 }]
  methods := #[k14m0]
  instanceTypes := #[]
  staticTypes := #[(.object "jdk/internal/misc/Unsafe"), .boolean, .int, .int, .int, .int, .int, .int, .int, .int, .int, .int, .int, .int, .int, .int, .int, .int, .int, (.object "jdk/internal/access/JavaLangAccess"), .int]
  resolved := Array.replicate 378 none
  statics := none }

def pool15 : Array CpInfo := pool [(1, u "java/lang/Cloneable"), (0, .class_ 1), (0, u "java/lang/Object"), (0, .class_ 3)] 3

/-- java/lang/Cloneable -/
def k15 : Class := { plain "java/lang/Cloneable" (some 0) with
  accessFlags := 1537
  interfaces := #[]
  cf := some (fileOf pool15 2 #[] #[] 1537 4 #[] #[])
  fields := #[]
  methods := #[]
  instanceTypes := #[]
  staticTypes := #[]
  resolved := Array.replicate 8 none
  statics := none }

/-- the primitive byte -/
def k16 : Class := { plain "byte" none with kind := .primitive 'B', accessFlags := 0x411 }
/-- [B -/
def k17 : Class := { plain "[B" (some 0) with kind := .array 16 .byte, interfaces := #[15, 2], accessFlags := 1041 }

/-- the primitive char -/
def k18 : Class := { plain "char" none with kind := .primitive 'C', accessFlags := 0x411 }
/-- [C -/
def k19 : Class := { plain "[C" (some 0) with kind := .array 18 .char, interfaces := #[15, 2], accessFlags := 1041 }

/-- the primitive int -/
def k20 : Class := { plain "int" none with kind := .primitive 'I', accessFlags := 0x411 }
/-- [I -/
def k21 : Class := { plain "[I" (some 0) with kind := .array 20 .int, interfaces := #[15, 2], accessFlags := 1041 }

def heap : Heap := #[{ cls := 7, slots := #[.long 0, .int 1, .null, .int 0, .null, .int 0, .int 0], vm := .statics 7 },
  { cls := 13, slots := #[.null, .null, .null], vm := .statics 13 }]
def classes : Array Class := #[k0, k1, k2, k3, k4, k5, k6, k7, k8, k9, k10, k11, k12, k13, k14, k15, k16, k17, k18, k19, k20, k21]
def interned : List (Array UInt16 × Addr) := []
def slotsUsed : Nat := 10
def theMethod : MethodId := ⟨1, 1⟩
def args0 : Array Value := #[.int 5, .long 3, .int 70, .int 71]
def aboutOver (below : List Frame) : State where
  vm := { classes := classes, interned := interned.toArray }
  heap := heap
  slotsUsed := slotsUsed
  threads := #[{ frames := .invoking theMethod args0 :: below }]
def below0 : List Frame := [.native { method := ⟨0, 0⟩, args := #[] }]
def about1 : State := aboutOver below0
def p0 : Program := .bare "" "" ""
def e0 : Env := launch0.env 0 0 0
theorem w_frames : about1.frames = Frame.invoking theMethod args0 :: below0 := rfl
set_option maxRecDepth 65536 in
theorem w_args : argsFit about1.vm theMethod args0 = true := by decide +kernel
set_option maxRecDepth 65536 in
theorem w_heap : heapFits about1 = true := by decide +kernel
set_option maxRecDepth 65536 in
theorem w_runnable : about1.curStatus? = some .runnable := by decide +kernel
set_option maxRecDepth 65536 in
theorem w_alone : about1.alone = true := by decide +kernel
set_option maxRecDepth 65536 in
theorem w_named : about1.methodNamed? x = some theMethod := by decide +kernel
set_option maxRecDepth 65536 in
theorem w_hears : about1.hears theMethod below0 = true := by decide +kernel
set_option maxRecDepth 65536 in
theorem w_ripe : about1.ripe theMethod args0 below0 = true := by decide +kernel
theorem w_running : about1.status = .running := rfl
set_option maxRecDepth 65536 in
theorem w_room : about1.hasRoom e0.platform room_1 = true :=
  launch0.hasRoom_least _ room_1 (by decide +kernel) (by decide +kernel) (by decide +kernel) (by decide +kernel) (by decide +kernel) (by decide +kernel)
theorem allAtoms_all (ts : List Jvm.Cond) (a : Array Jvm.Value) (st : Jvm.State) : (allAtoms ts).before a st = ts.all (fun c => c.before a st) := by
  induction ts with
  | nil => rfl
  | cons c t ih =>
    show (Jvm.Cond.and c (allAtoms t)).before a st = _
    rw [Jvm.Cond.before_and, ih, List.all_cons]
def words1 : List Jvm.Cond := Jvm.Cond.code x code maxLocals ret :: tables_1
/-- a 'code' word, met by the world's own term for the bytes: nothing is compared byte by byte -/
theorem code_word {y : MethodName} {bytes : ByteArray} {mx : Nat} {rt : Option FieldType} {a : Array Value} {s : State} {m : MethodId} {meth : Method} {c : Code} (h1 : s.methodNamed? y = some m) (h2 : s.vm.method? m = some meth) (h3 : meth.code = some c) (h4 : c.code = bytes)
    (h5 : (c.maxLocals == mx && c.exceptionTable.isEmpty && decide (c.maxStack ≤ mostOperands) && decide (meth.sig.returnType = rt) && !meth.locks && decide (parseMethodDescriptor y.desc = some meth.sig)) = true) : (Jvm.Cond.code y bytes mx rt).before a s = true := by
  simp only [Bool.and_eq_true, beq_iff_eq, Bool.not_eq_true', decide_eq_true_eq] at h5
  obtain ⟨⟨⟨⟨⟨g1, g2⟩, g3⟩, g4⟩, g5⟩, g6⟩ := h5
  simp [Cond.before, Cond.holds, Cond.value, h1, h2, h3, h4, g1, g2, g3, g4, g5, g6]
def isCode : Jvm.Cond → Bool
  | .code _ _ _ _ => true
  | _ => false
theorem all_split {L : List Jvm.Cond} {P : Jvm.Cond → Bool} (h1 : L.all (fun c => isCode c || P c) = true) (h2 : ∀ c ∈ L.filter isCode, P c = true) : L.all P = true := by
  refine List.all_eq_true.mpr fun c hc => ?_
  have h := List.all_eq_true.mp h1 c hc
  rcases Bool.eq_false_or_eq_true (isCode c) with hi | hi
  · exact h2 c (List.mem_filter.mpr ⟨hc, hi⟩)
  · simpa [hi] using h
set_option maxRecDepth 65536 in
theorem w_c0 : (Jvm.Cond.code x code maxLocals ret).before args0 about1 = true := code_word (m := ⟨1, 1⟩) (meth := k1m1) (c := k1c1) (by decide +kernel) rfl rfl rfl (by decide +kernel)
set_option maxRecDepth 65536 in
theorem w_c1 : (Jvm.Cond.code ({ cls := "java/lang/String", name := "valueOf", desc := "(C)Ljava/lang/String;" } : Jvm.MethodName) jdk_42_method_139_code (1 : Nat) (Option.some (Jvm.ClassFile.FieldType.object "java/lang/String"))).before args0 about1 = true := code_word (m := ⟨7, 3⟩) (meth := k7m3) (c := k7c3) (by decide +kernel) rfl rfl rfl (by decide +kernel)
set_option maxRecDepth 65536 in
theorem w_c2 : (Jvm.Cond.code ({ cls := "java/lang/StringLatin1", name := "canEncode", desc := "(C)Z" } : Jvm.MethodName) jdk_43_method_3_code (1 : Nat) (Option.some Jvm.ClassFile.FieldType.boolean)).before args0 about1 = true := code_word (m := ⟨8, 1⟩) (meth := k8m1) (c := k8c1) (by decide +kernel) rfl rfl rfl (by decide +kernel)
set_option maxRecDepth 65536 in
theorem w_c3 : (Jvm.Cond.code ({ cls := "java/lang/StringLatin1", name := "toBytes", desc := "(C)[B" } : Jvm.MethodName) jdk_43_method_46_code (1 : Nat) (Option.some (Jvm.ClassFile.FieldType.array Jvm.ClassFile.FieldType.byte))).before args0 about1 = true := code_word (m := ⟨8, 2⟩) (meth := k8m2) (c := k8c2) (by decide +kernel) rfl rfl rfl (by decide +kernel)
set_option maxRecDepth 65536 in
theorem w_c4 : (Jvm.Cond.code ({ cls := "java/lang/String", name := "<init>", desc := "([BB)V" } : Jvm.MethodName) jdk_42_method_151_code (3 : Nat) (Option.none : Option Jvm.ClassFile.FieldType)).before args0 about1 = true := code_word (m := ⟨7, 5⟩) (meth := k7m5) (c := k7c5) (by decide +kernel) rfl rfl rfl (by decide +kernel)
set_option maxRecDepth 65536 in
theorem w_c5 : (Jvm.Cond.code ({ cls := "java/lang/Object", name := "<init>", desc := "()V" } : Jvm.MethodName) object_method_1_code (1 : Nat) (Option.none : Option Jvm.ClassFile.FieldType)).before args0 about1 = true := code_word (m := ⟨0, 0⟩) (meth := k0m0) (c := k0c0) (by decide +kernel) rfl rfl rfl (by decide +kernel)
set_option maxRecDepth 65536 in
theorem w_c6 : (Jvm.Cond.code ({ cls := "java/lang/String", name := "<init>", desc := "([C)V" } : Jvm.MethodName) jdk_42_method_3_code (2 : Nat) (Option.none : Option Jvm.ClassFile.FieldType)).before args0 about1 = true := code_word (m := ⟨7, 1⟩) (meth := k7m1) (c := k7c1) (by decide +kernel) rfl rfl rfl (by decide +kernel)
set_option maxRecDepth 65536 in
theorem w_c7 : (Jvm.Cond.code ({ cls := "java/lang/String", name := "<init>", desc := "([CIILjava/lang/Void;)V" } : Jvm.MethodName) jdk_42_method_149_code (6 : Nat) (Option.none : Option Jvm.ClassFile.FieldType)).before args0 about1 = true := code_word (m := ⟨7, 4⟩) (meth := k7m4) (c := k7c4) (by decide +kernel) rfl rfl rfl (by decide +kernel)
set_option maxRecDepth 65536 in
theorem w_c8 : (Jvm.Cond.code ({ cls := "java/lang/StringUTF16", name := "compress", desc := "([CII)[B" } : Jvm.MethodName) jdk_52_method_16_code (6 : Nat) (Option.some (Jvm.ClassFile.FieldType.array Jvm.ClassFile.FieldType.byte))).before args0 about1 = true := code_word (m := ⟨9, 2⟩) (meth := k9m2) (c := k9c2) (by decide +kernel) rfl rfl rfl (by decide +kernel)
set_option maxRecDepth 65536 in
theorem w_c9 : (Jvm.Cond.code ({ cls := "java/lang/StringUTF16", name := "compress", desc := "([CI[BII)I" } : Jvm.MethodName) jdk_52_method_21_code (7 : Nat) (Option.some Jvm.ClassFile.FieldType.int)).before args0 about1 = true := code_word (m := ⟨9, 3⟩) (meth := k9m3) (c := k9c3) (by decide +kernel) rfl rfl rfl (by decide +kernel)
set_option maxRecDepth 65536 in
theorem w_c10 : (Jvm.Cond.code ({ cls := "java/lang/StringUTF16", name := "coderFromArrayLen", desc := "([BI)B" } : Jvm.MethodName) jdk_52_method_15_code (2 : Nat) (Option.some Jvm.ClassFile.FieldType.byte)).before args0 about1 = true := code_word (m := ⟨9, 1⟩) (meth := k9m1) (c := k9c1) (by decide +kernel) rfl rfl rfl (by decide +kernel)
set_option maxRecDepth 65536 in
theorem w_c11 : (Jvm.Cond.code ({ cls := "com/example/lean_renewal/leanrenewal/service/EarlyAdopterOffer", name := "<init>", desc := "(ILjava/lang/String;Ljava/lang/String;)V" } : Jvm.MethodName) prog_22_method_1_code (4 : Nat) (Option.none : Option Jvm.ClassFile.FieldType)).before args0 about1 = true := code_word (m := ⟨11, 0⟩) (meth := k11m0) (c := k11c0) (by decide +kernel) rfl rfl rfl (by decide +kernel)
set_option maxRecDepth 65536 in
theorem w_c12 : (Jvm.Cond.code ({ cls := "java/lang/Record", name := "<init>", desc := "()V" } : Jvm.MethodName) jdk_30_method_1_code (1 : Nat) (Option.none : Option Jvm.ClassFile.FieldType)).before args0 about1 = true := code_word (m := ⟨10, 0⟩) (meth := k10m0) (c := k10c0) (by decide +kernel) rfl rfl rfl (by decide +kernel)
set_option maxRecDepth 65536 in
theorem w_c13 : (Jvm.Cond.code ({ cls := "java/util/Objects", name := "requireNonNull", desc := "(Ljava/lang/Object;Ljava/lang/String;)Ljava/lang/Object;" } : Jvm.MethodName) jdk_31_method_11_code (2 : Nat) (Option.some (Jvm.ClassFile.FieldType.object "java/lang/Object"))).before args0 about1 = true := code_word (m := ⟨12, 1⟩) (meth := k12m1) (c := k12c1) (by decide +kernel) rfl rfl rfl (by decide +kernel)
set_option maxRecDepth 65536 in
theorem w_c14 : (Jvm.Cond.code ({ cls := "com/example/lean_renewal/leanrenewal/service/EarlyAdopterOffer", name := "productFor", desc := "(J)Ljava/lang/String;" } : Jvm.MethodName) prog_22_method_2_code (3 : Nat) (Option.some (Jvm.ClassFile.FieldType.object "java/lang/String"))).before args0 about1 = true := code_word (m := ⟨11, 1⟩) (meth := k11m1) (c := k11c1) (by decide +kernel) rfl rfl rfl (by decide +kernel)
set_option maxRecDepth 65536 in
theorem w_c15 : (Jvm.Cond.code ({ cls := "java/lang/String", name := "equals", desc := "(Ljava/lang/Object;)Z" } : Jvm.MethodName) jdk_42_method_66_code (3 : Nat) (Option.some Jvm.ClassFile.FieldType.boolean)).before args0 about1 = true := code_word (m := ⟨7, 2⟩) (meth := k7m2) (c := k7c2) (by decide +kernel) rfl rfl rfl (by decide +kernel)
def codes1 : List Jvm.Cond := [Jvm.Cond.code x code maxLocals ret, Jvm.Cond.code ({ cls := "java/lang/String", name := "valueOf", desc := "(C)Ljava/lang/String;" } : Jvm.MethodName) jdk_42_method_139_code (1 : Nat) (Option.some (Jvm.ClassFile.FieldType.object "java/lang/String")), Jvm.Cond.code ({ cls := "java/lang/StringLatin1", name := "canEncode", desc := "(C)Z" } : Jvm.MethodName) jdk_43_method_3_code (1 : Nat) (Option.some Jvm.ClassFile.FieldType.boolean), Jvm.Cond.code ({ cls := "java/lang/StringLatin1", name := "toBytes", desc := "(C)[B" } : Jvm.MethodName) jdk_43_method_46_code (1 : Nat) (Option.some (Jvm.ClassFile.FieldType.array Jvm.ClassFile.FieldType.byte)), Jvm.Cond.code ({ cls := "java/lang/String", name := "<init>", desc := "([BB)V" } : Jvm.MethodName) jdk_42_method_151_code (3 : Nat) (Option.none : Option Jvm.ClassFile.FieldType), Jvm.Cond.code ({ cls := "java/lang/Object", name := "<init>", desc := "()V" } : Jvm.MethodName) object_method_1_code (1 : Nat) (Option.none : Option Jvm.ClassFile.FieldType), Jvm.Cond.code ({ cls := "java/lang/String", name := "<init>", desc := "([C)V" } : Jvm.MethodName) jdk_42_method_3_code (2 : Nat) (Option.none : Option Jvm.ClassFile.FieldType), Jvm.Cond.code ({ cls := "java/lang/String", name := "<init>", desc := "([CIILjava/lang/Void;)V" } : Jvm.MethodName) jdk_42_method_149_code (6 : Nat) (Option.none : Option Jvm.ClassFile.FieldType), Jvm.Cond.code ({ cls := "java/lang/StringUTF16", name := "compress", desc := "([CII)[B" } : Jvm.MethodName) jdk_52_method_16_code (6 : Nat) (Option.some (Jvm.ClassFile.FieldType.array Jvm.ClassFile.FieldType.byte)), Jvm.Cond.code ({ cls := "java/lang/StringUTF16", name := "compress", desc := "([CI[BII)I" } : Jvm.MethodName) jdk_52_method_21_code (7 : Nat) (Option.some Jvm.ClassFile.FieldType.int), Jvm.Cond.code ({ cls := "java/lang/StringUTF16", name := "coderFromArrayLen", desc := "([BI)B" } : Jvm.MethodName) jdk_52_method_15_code (2 : Nat) (Option.some Jvm.ClassFile.FieldType.byte), Jvm.Cond.code ({ cls := "com/example/lean_renewal/leanrenewal/service/EarlyAdopterOffer", name := "<init>", desc := "(ILjava/lang/String;Ljava/lang/String;)V" } : Jvm.MethodName) prog_22_method_1_code (4 : Nat) (Option.none : Option Jvm.ClassFile.FieldType), Jvm.Cond.code ({ cls := "java/lang/Record", name := "<init>", desc := "()V" } : Jvm.MethodName) jdk_30_method_1_code (1 : Nat) (Option.none : Option Jvm.ClassFile.FieldType), Jvm.Cond.code ({ cls := "java/util/Objects", name := "requireNonNull", desc := "(Ljava/lang/Object;Ljava/lang/String;)Ljava/lang/Object;" } : Jvm.MethodName) jdk_31_method_11_code (2 : Nat) (Option.some (Jvm.ClassFile.FieldType.object "java/lang/Object")), Jvm.Cond.code ({ cls := "com/example/lean_renewal/leanrenewal/service/EarlyAdopterOffer", name := "productFor", desc := "(J)Ljava/lang/String;" } : Jvm.MethodName) prog_22_method_2_code (3 : Nat) (Option.some (Jvm.ClassFile.FieldType.object "java/lang/String")), Jvm.Cond.code ({ cls := "java/lang/String", name := "equals", desc := "(Ljava/lang/Object;)Z" } : Jvm.MethodName) jdk_42_method_66_code (3 : Nat) (Option.some Jvm.ClassFile.FieldType.boolean)]
set_option maxRecDepth 65536 in
theorem codes_eq : words1.filter isCode = codes1 := rfl
theorem w_codes : ∀ c ∈ words1.filter isCode, c.before args0 about1 = true := by
  rw [codes_eq]
  intro c hc
  simp only [codes1, List.mem_cons, List.not_mem_nil, or_false] at hc
  rcases hc with rfl | rfl | rfl | rfl | rfl | rfl | rfl | rfl | rfl | rfl | rfl | rfl | rfl | rfl | rfl | rfl
  · exact w_c0
  · exact w_c1
  · exact w_c2
  · exact w_c3
  · exact w_c4
  · exact w_c5
  · exact w_c6
  · exact w_c7
  · exact w_c8
  · exact w_c9
  · exact w_c10
  · exact w_c11
  · exact w_c12
  · exact w_c13
  · exact w_c14
  · exact w_c15
set_option maxRecDepth 65536 in
theorem w_t1 : (words1.take 24).all (fun c => isCode c || c.before args0 about1) = true := by decide +kernel
set_option maxRecDepth 65536 in
theorem w_t2 : ((words1.drop 24).take 24).all (fun c => isCode c || c.before args0 about1) = true := by decide +kernel
set_option maxRecDepth 65536 in
theorem w_t3 : (((words1.drop 24).drop 24).take 24).all (fun c => isCode c || c.before args0 about1) = true := by decide +kernel
set_option maxRecDepth 65536 in
theorem w_t4 : (((words1.drop 24).drop 24).drop 24).all (fun c => isCode c || c.before args0 about1) = true := by decide +kernel
theorem w_tables : (allAtoms (Jvm.Cond.code x code maxLocals ret :: tables_1)).before args0 about1 = true := by
  rw [allAtoms_all]
  show words1.all (fun c => c.before args0 about1) = true
  refine all_split ?_ w_codes
  rw [← List.take_append_drop 24 words1, List.all_append, w_t1, ← List.take_append_drop 24 (words1.drop 24), List.all_append, w_t2, ← List.take_append_drop 24 ((words1.drop 24).drop 24), List.all_append, w_t3, w_t4]
  rfl
set_option maxRecDepth 65536 in
theorem w_rest : rest_1_c.before args0 about1 = true := by decide +kernel
set_option maxRecDepth 65536 in
theorem w_case : (Jvm.Cond.and given_1 narrow_1).before args0 about1 = true := by decide +kernel
theorem w_applies : (headSpec (Jvm.Cond.code x code maxLocals ret :: tables_1) room_1).applies x e0.platform about1 = true :=
  (Spec.applies_iff w_frames).mpr ⟨w_running, w_runnable, w_alone, w_named, w_hears, w_ripe, w_room, w_tables⟩
theorem atStart : AtStart classFile x code maxLocals ret World_1 tables_1 room_1 Calls_1 rest_1 Pre_1 launch0 p0 e0 about1 theMethod args0 below0 :=
  ⟨lists_1, trivial, launch0.admits_env _ _ _, launch0.least_env, fairChoices_fair.cas, fairChoices_fair.clock, w_frames, w_args, w_heap, w_applies, trivial, w_rest, w_case⟩
end start1
theorem witness_1 : WitnessClaimed_1 := ⟨start1.p0, start1.e0, start1.about1, start1.theMethod, start1.args0, start1.below0, start1.atStart⟩
end Jvm.Pilot.@@N@@
