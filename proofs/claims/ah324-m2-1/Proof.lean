import JvmDerived
import JvmDerived.Pilot.@@N@@Statement
import JvmDerived.Pilot.@@N@@Code
set_option linter.unusedVariables false
set_option linter.unusedSimpArgs false
namespace Jvm.RoadKit
open Sem ClassFile Op Lib Jvm.Stand Jvm.Free Jvm.LawKit
section OwnWalk
variable {p : Program} {l : Launch} {e : Env} {R : Room} {s : State} {m : MethodId} {args : Array Value} {below : List Frame} {meth : Method} {c : Code} {T : State} {locs : List Loc} {cells slots : Nat} {E : Outcome → State → Prop} {pc : Nat} {Ls : Array Slot} {sk : List Value}
/-- what a walk owes from a state on: it comes to an end as the contract says -/
def Goes (p : Program) (e : Env) (below : List Frame) (E : Outcome → State → Prop) (st : State) : Prop :=
  ∃ s₂ o, Steps p.tables e below st s₂ ∧ s₂.status = .running ∧ Ended s₂ below o ∧ E o s₂
abbrev Gs (p : Program) (e : Env) (below : List Frame) (E : Outcome → State → Prop) (T : State) (m : MethodId) (pc : Nat) (Ls : Array Slot) (st : List Value) : Prop := Goes p e below E (T.setTop (mkF m pc Ls st))
/-- the end, the table of interned texts as it was -/
abbrev EN (s : State) (Q : Option Value → Heap → List Loc → Prop) (cs ss : Nat) : Outcome → State → Prop := fun o u => ∃ v L, o = .returned v ∧ Q v u.heap L ∧ FrameEnd s o u L cs ss
/-- the end, where texts may have been interned -/
abbrev EV (s : State) (Q : Option Value → Heap → List Loc → Prop) (cs ss : Nat) : Outcome → State → Prop := fun o u => ∃ v L, o = .returned v ∧ Q v u.heap L ∧ ReturnedEndW s o u L cs ss
theorem Goes.st {st st' : State} (h : ∀ t, Steps p.tables e below st' t → Steps p.tables e below st t) (g : Goes p e below E st') : Goes p e below E st := by
  obtain ⟨s2, o, h1, r⟩ := g
  exact ⟨s2, o, h _ h1, r⟩
theorem Goes.sts {st st' : State} (h : Steps p.tables e below st st') (g : Goes p e below E st') : Goes p e below E st := Goes.st (fun _ k => h.trans k) g
/-- the frame can be left with v -/
def Lv (e : Env) (below : List Frame) (E : Outcome → State → Prop) (m : MethodId) (T : State) (v : Option Value) : Prop :=
  ∃ fs, (∀ (f : JFrame) (acts : List Action), f.method = m → f.locked = none → f.entered = [] → (doReturn e (T.setTop f) acts v).1 = T.setFrames fs) ∧ (T.setFrames fs).status = .running ∧ Ended (T.setFrames fs) below (.returned v) ∧ E (.returned v) (T.setFrames fs)
theorem lvN {Q : Option Value → Heap → List Loc → Prop} {cs ss : Nat} (X : Stand p l e R s m args below meth c T locs cells slots) (hlk : meth.locks = false) {v : Option Value} (hv : meth.sig.returnType = none → v = none) (hq : Q v T.heap locs) (hc : cells ≤ cs) (hs : slots ≤ ss) : Lv e below (EN s Q cs ss) m T v := by
  obtain ⟨fs, hr, hrun, hended, hW, hsame⟩ := X.leave (v := v) hv hlk
  exact ⟨fs, hr, hrun, hended, _, _, rfl, hq, ⟨_, rfl⟩, hW, hsame.mono hc hs⟩
theorem lvV {Q : Option Value → Heap → List Loc → Prop} {cs ss : Nat} {vm0 : Vm} (X : Stand p l e R (s.setVm vm0) m args below meth c T locs cells slots) (hlk : meth.locks = false) {k0 : Nat} (hS : s.Since vm0 k0) (hk : k0 ≤ T.heap.size) {v : Option Value} (hv : meth.sig.returnType = none → v = none) (hq : Q v T.heap locs) (hc : cells ≤ cs) (hs : slots ≤ ss) : Lv e below (EV s Q cs ss) m T v := by
  obtain ⟨fs, hr, hrun, hended, h1, h2, h3, h4⟩ := X.leaveW hS hk (v := v) hv hlk
  exact ⟨fs, hr, hrun, hended, _, _, rfl, hq, h1, h2, h3, h4.mono hc hs⟩
theorem vsome {rt : Option FieldType} {t : FieldType} {v : Option Value} (hret : rt = some t) : rt = none → v = none := fun h => by rw [hret] at h; cases h
theorem Goes.fin {v : Option Value} (lv : Lv e below E m T v) {F : JFrame} (hst : ∀ fs, (∀ (f : JFrame) (acts : List Action), f.method = m → f.locked = none → f.entered = [] → (doReturn e (T.setTop f) acts v).1 = T.setFrames fs) → Steps p.tables e below (T.setTop F) (T.setFrames fs)) : Goes p e below E (T.setTop F) := by
  obtain ⟨fs, hr, hrun, hended, hE⟩ := lv
  exact ⟨_, _, hst fs hr, hrun, hended, hE⟩
theorem Goes.retN (X : Stand p l e R s m args below meth c T locs cells slots) (hx : p.tables.exec = Jvm.exec) {t : FieldType} (hret : meth.sig.returnType = some t) (ht : t = .boolean ∨ t = .byte ∨ t = .char ∨ t = .short) {z : Int32} (hd : decode c.code pc = .ok (.ireturn, 1)) (hn : nar t z = z) (lv : Lv e below E m T (some (.int z))) : Goes p e below E (T.setTop (mkF m pc Ls (.int z :: sk))) :=
  Goes.fin lv fun fs hr => RoadKit.retN X hx hret ht hd (by rw [hn]; exact hr)
theorem Goes.retW (X : Stand p l e R s m args below meth c T locs cells slots) (hx : p.tables.exec = Jvm.exec) {t : FieldType} (hret : meth.sig.returnType = some t) {w : Value} {i : Instr} (hn : narrow t w = w) (hi : (i = .ireturn ∧ (t = .int ∨ t = .boolean ∨ t = .byte ∨ t = .char ∨ t = .short) ∧ ∃ z, w = .int z) ∨ (i = .lreturn ∧ t = .long ∧ ∃ z, w = .long z) ∨ (i = .dreturn ∧ t = .double ∧ ∃ z, w = .double z) ∨ (i = .freturn ∧ t = .float ∧ ∃ z, w = .float z) ∨ (i = .areturn ∧ t.isReference = true ∧ w.isRef = true))
    (hd : decode c.code pc = .ok (i, 1)) (lv : Lv e below E m T (some w)) : Goes p e below E (T.setTop (mkF m pc Ls (w :: sk))) :=
  Goes.fin lv fun fs hr => RoadKit.retOut X hx hret hn hi hd hr
theorem Goes.retI (X : Stand p l e R s m args below meth c T locs cells slots) (hx : p.tables.exec = Jvm.exec) (hret : meth.sig.returnType = some .int) {z : Int32} (hd : decode c.code pc = .ok (.ireturn, 1)) (lv : Lv e below E m T (some (.int z))) : Goes p e below E (T.setTop (mkF m pc Ls (.int z :: sk))) :=
  Goes.retW X hx hret rfl (Or.inl ⟨rfl, Or.inl rfl, _, rfl⟩) hd lv
theorem Goes.retL (X : Stand p l e R s m args below meth c T locs cells slots) (hx : p.tables.exec = Jvm.exec) (hret : meth.sig.returnType = some .long) {z : Int64} (hd : decode c.code pc = .ok (.lreturn, 1)) (lv : Lv e below E m T (some (.long z))) : Goes p e below E (T.setTop (mkF m pc Ls (.long z :: sk))) :=
  Goes.retW X hx hret rfl (Or.inr (Or.inl ⟨rfl, rfl, _, rfl⟩)) hd lv
theorem Goes.retD (X : Stand p l e R s m args below meth c T locs cells slots) (hx : p.tables.exec = Jvm.exec) (hret : meth.sig.returnType = some .double) {z : UInt64} (hd : decode c.code pc = .ok (.dreturn, 1)) (lv : Lv e below E m T (some (.double z))) : Goes p e below E (T.setTop (mkF m pc Ls (.double z :: sk))) :=
  Goes.retW X hx hret rfl (Or.inr (Or.inr (Or.inl ⟨rfl, rfl, _, rfl⟩))) hd lv
theorem Goes.retA (X : Stand p l e R s m args below meth c T locs cells slots) (hx : p.tables.exec = Jvm.exec) {t : FieldType} (hret : meth.sig.returnType = some t) (ht : t.isReference = true) {w : Value} (hn : narrow t w = w) (hw : w.isRef = true) (hd : decode c.code pc = .ok (.areturn, 1)) (lv : Lv e below E m T (some w)) : Goes p e below E (T.setTop (mkF m pc Ls (w :: sk))) :=
  Goes.retW X hx hret hn (Or.inr (Or.inr (Or.inr (Or.inr ⟨rfl, ht, hw⟩)))) hd lv
theorem Goes.retV (X : Stand p l e R s m args below meth c T locs cells slots) (hx : p.tables.exec = Jvm.exec) (hret : meth.sig.returnType = none) (hd : decode c.code pc = .ok (.return_, 1)) (lv : Lv e below E m T none) : Goes p e below E (T.setTop (mkF m pc Ls [])) :=
  Goes.fin lv fun fs hr => X.returnOut hx hret hd hr
theorem hwk {ws : List Jvm.Cond} {Z : State} {a0 : Array Value} (hw : ∀ d ∈ ws, d.before a0 Z = true) (k : Nat) {d : Jvm.Cond} (h : ws[k]? = some d) : d.before a0 Z = true := hw _ (List.mem_of_getElem? h)
theorem selP {U : State} {as : Array Value} {y : MethodName} {n : Nat} (wi : (Cond.instantiable y.cls n).before as U = true) (wp : (Cond.privateMethod y).before as U = true) (wm : (Cond.instanceMethod y).before as U = true) (hy : y.cls ≠ "java/lang/invoke/MethodHandle" ∧ y.cls ≠ "java/lang/invoke/VarHandle") : (Cond.selects y.cls y y).before as U = true := by
  obtain ⟨c, k, h1, h2, -, h3, -⟩ := Cond.instantiable_spec wi
  exact Stand.selects_self_of_private h1 h2 (by simp only [Bool.or_eq_false_iff] at h3; exact h3.1) (Cond.privateMethod_at wp) wm hy
theorem strW {Z : State} {a0 : Array Value} (h1 : (Cond.initialized Bundle.sN).before a0 Z = true) (h2 : (Cond.instantiable Bundle.sN 4).before a0 Z = true) (h3 : (Cond.arrayClass .byte).before a0 Z = true) (h4 : (Cond.laysFinal Bundle.sN Bundle.sN "value" "[B").before a0 Z = true) (h5 : (Cond.laysFinal Bundle.sN Bundle.sN "coder" "B").before a0 Z = true) (h6 : (Cond.soleField Bundle.sN "value").before a0 Z = true) (h7 : (Cond.soleField Bundle.sN "coder").before a0 Z = true) : ∀ a ∈ Bundle.stringAtoms, a.before a0 Z = true := by
  intro d hd
  simp only [Bundle.stringAtoms, List.mem_cons, List.not_mem_nil, or_false] at hd
  rcases hd with rfl | rfl | rfl | rfl | rfl | rfl | rfl <;> assumption
theorem Sta.kept {Z : State} {h h' : Heap} {ws : List Addr} {C n d : String} {w : Value} (F : Sta Z h C n d w) (K : Keep h h' ws) (hns : ∀ x ∈ ws, ∀ cell : Cell, h[x]? = some cell → cell.vm.isStatics = false) : Sta Z h' C n d w := by
  obtain ⟨cf, i, k, f, st, cell, h1, h2, h3, h4, h5, h6, h7⟩ := F
  refine ⟨cf, i, k, f, st, cell, h1, h2, h3, h4, K.2.1 _ _ h5 fun q => ?_, h6, h7⟩
  have := hns _ q _ h5
  rw [h6] at this; cases this
end OwnWalk
section OwnSteps
variable {p : Program} {l : Launch} {e : Env} {R : Room} {s : State} {m : MethodId} {args : Array Value} {below : List Frame} {meth : Method} {c : Code} {T : State} {locs : List Loc} {cells slots : Nat} {E : Outcome → State → Prop} {pc : Nat} {Ls : Array Slot} {sk : List Value}
theorem giloadN (X : Stand p l e R s m args below meth c T locs cells slots) (hx : p.tables.exec = Jvm.exec) {i : Fin 4} {v : Int32} (hd : decode c.code pc = .ok (.iload_n i, 1)) (hl : Ls[i.val]? = some (.val (.int v))) (k : Goes p e below E (T.setTop (mkF m (pc + 1) Ls (.int v :: sk)))) : Goes p e below E (T.setTop (mkF m pc Ls sk)) :=
  Goes.st (fun _ q => XS.iloadN X.here hx rfl hd hl q) k
theorem glloadN (X : Stand p l e R s m args below meth c T locs cells slots) (hx : p.tables.exec = Jvm.exec) {i : Fin 4} {v : Int64} (hd : decode c.code pc = .ok (.lload_n i, 1)) (hl : Ls[i.val]? = some (.val (.long v))) (k : Goes p e below E (T.setTop (mkF m (pc + 1) Ls (.long v :: sk)))) : Goes p e below E (T.setTop (mkF m pc Ls sk)) :=
  Goes.st (fun _ q => XT.lloadN X.here hx rfl hd hl q) k
theorem gdloadN (X : Stand p l e R s m args below meth c T locs cells slots) (hx : p.tables.exec = Jvm.exec) {i : Fin 4} {v : UInt64} (hd : decode c.code pc = .ok (.dload_n i, 1)) (hl : Ls[i.val]? = some (.val (.double v))) (k : Goes p e below E (T.setTop (mkF m (pc + 1) Ls (.double v :: sk)))) : Goes p e below E (T.setTop (mkF m pc Ls sk)) :=
  Goes.st (fun _ q => XS.dloadN X.here hx rfl hd hl q) k
theorem giload (X : Stand p l e R s m args below meth c T locs cells slots) (hx : p.tables.exec = Jvm.exec) {i : Nat} {v : Int32} (hd : decode c.code pc = .ok (.iload i, 2)) (hl : Ls[i]? = some (.val (.int v))) (k : Goes p e below E (T.setTop (mkF m (pc + 2) Ls (.int v :: sk)))) : Goes p e below E (T.setTop (mkF m pc Ls sk)) :=
  Goes.st (fun _ q => XS.iload X.here hx rfl hd hl q) k
theorem glload (X : Stand p l e R s m args below meth c T locs cells slots) (hx : p.tables.exec = Jvm.exec) {i : Nat} {v : Int64} (hd : decode c.code pc = .ok (.lload i, 2)) (hl : Ls[i]? = some (.val (.long v))) (k : Goes p e below E (T.setTop (mkF m (pc + 2) Ls (.long v :: sk)))) : Goes p e below E (T.setTop (mkF m pc Ls sk)) :=
  Goes.st (fun _ q => XT.lload X.here hx rfl hd hl q) k
theorem gdload (X : Stand p l e R s m args below meth c T locs cells slots) (hx : p.tables.exec = Jvm.exec) {i : Nat} {v : UInt64} (hd : decode c.code pc = .ok (.dload i, 2)) (hl : Ls[i]? = some (.val (.double v))) (k : Goes p e below E (T.setTop (mkF m (pc + 2) Ls (.double v :: sk)))) : Goes p e below E (T.setTop (mkF m pc Ls sk)) :=
  Goes.st (fun _ q => XS.dload X.here hx rfl hd hl q) k
theorem galoadN (X : Stand p l e R s m args below meth c T locs cells slots) (hx : p.tables.exec = Jvm.exec) {i : Fin 4} {v : Value} (hd : decode c.code pc = .ok (.aload_n i, 1)) (hl : Ls[i.val]? = some (.val v)) (hv : v.isRef = true) (k : Goes p e below E (T.setTop (mkF m (pc + 1) Ls (v :: sk)))) : Goes p e below E (T.setTop (mkF m pc Ls sk)) :=
  Goes.st (fun _ q => XS.aloadN X.here hx rfl hd hl hv q) k
theorem gaload (X : Stand p l e R s m args below meth c T locs cells slots) (hx : p.tables.exec = Jvm.exec) {i : Nat} {v : Value} (hd : decode c.code pc = .ok (.aload i, 2)) (hl : Ls[i]? = some (.val v)) (hv : v.isRef = true) (k : Goes p e below E (T.setTop (mkF m (pc + 2) Ls (v :: sk)))) : Goes p e below E (T.setTop (mkF m pc Ls sk)) :=
  Goes.st (fun _ q => XS.aload X.here hx rfl hd hl hv q) k
theorem giconst (X : Stand p l e R s m args below meth c T locs cells slots) (hx : p.tables.exec = Jvm.exec) {i : Int} (hd : decode c.code pc = .ok (.iconst i, 1)) (k : Goes p e below E (T.setTop (mkF m (pc + 1) Ls (.int (Int32.ofInt i) :: sk)))) : Goes p e below E (T.setTop (mkF m pc Ls sk)) :=
  Goes.st (fun _ q => XS.iconst X.here hx rfl hd q) k
theorem giadd (X : Stand p l e R s m args below meth c T locs cells slots) (hx : p.tables.exec = Jvm.exec) {x y : Int32} (hd : decode c.code pc = .ok (.iadd, 1)) (_ : True) (k : Goes p e below E (T.setTop (mkF m (pc + 1) Ls (.int (x + y) :: sk)))) : Goes p e below E (T.setTop (mkF m pc Ls (.int y :: .int x :: sk))) :=
  Goes.st (fun _ q => XS.iadd X.here hx rfl hd rfl q) k
theorem gisub (X : Stand p l e R s m args below meth c T locs cells slots) (hx : p.tables.exec = Jvm.exec) {x y : Int32} (hd : decode c.code pc = .ok (.isub, 1)) (_ : True) (k : Goes p e below E (T.setTop (mkF m (pc + 1) Ls (.int (x - y) :: sk)))) : Goes p e below E (T.setTop (mkF m pc Ls (.int y :: .int x :: sk))) :=
  Goes.st (fun _ q => XS.isub X.here hx rfl hd rfl q) k
theorem giand (X : Stand p l e R s m args below meth c T locs cells slots) (hx : p.tables.exec = Jvm.exec) {x y : Int32} (hd : decode c.code pc = .ok (.iand, 1)) (_ : True) (k : Goes p e below E (T.setTop (mkF m (pc + 1) Ls (.int (x &&& y) :: sk)))) : Goes p e below E (T.setTop (mkF m pc Ls (.int y :: .int x :: sk))) :=
  Goes.st (fun _ q => XS.iand X.here hx rfl hd rfl q) k
theorem gimul (X : Stand p l e R s m args below meth c T locs cells slots) (hx : p.tables.exec = Jvm.exec) {x y : Int32} (hd : decode c.code pc = .ok (.imul, 1)) (_ : True) (k : Goes p e below E (T.setTop (mkF m (pc + 1) Ls (.int (x * y) :: sk)))) : Goes p e below E (T.setTop (mkF m pc Ls (.int y :: .int x :: sk))) :=
  Goes.st (fun _ q => XS.imul X.here hx rfl hd rfl q) k
theorem gdup (X : Stand p l e R s m args below meth c T locs cells slots) (hx : p.tables.exec = Jvm.exec) {x : Value} (hd : decode c.code pc = .ok (.dup, 1)) (_ : True) (hc : x.category = 1) (k : Goes p e below E (T.setTop (mkF m (pc + 1) Ls (x :: x :: sk)))) : Goes p e below E (T.setTop (mkF m pc Ls (x :: sk))) :=
  Goes.st (fun _ q => XS.dup X.here hx rfl hd rfl hc q) k
theorem gistoreN (X : Stand p l e R s m args below meth c T locs cells slots) (hx : p.tables.exec = Jvm.exec) {i : Fin 4} {x : Int32} {l' : Array Slot} (hd : decode c.code pc = .ok (.istore_n i, 1)) (_ : True) (hl : storeLocals Ls i.val (.int x) = some l') (k : Goes p e below E (T.setTop (mkF m (pc + 1) l' sk))) : Goes p e below E (T.setTop (mkF m pc Ls (.int x :: sk))) :=
  Goes.st (fun _ q => XS.istoreN X.here hx rfl hd rfl hl q) k
theorem gistore (X : Stand p l e R s m args below meth c T locs cells slots) (hx : p.tables.exec = Jvm.exec) {i : Nat} {x : Int32} {l' : Array Slot} (hd : decode c.code pc = .ok (.istore i, 2)) (_ : True) (hl : storeLocals Ls i (.int x) = some l') (k : Goes p e below E (T.setTop (mkF m (pc + 2) l' sk))) : Goes p e below E (T.setTop (mkF m pc Ls (.int x :: sk))) :=
  Goes.st (fun _ q => XS.istore X.here hx rfl hd rfl hl q) k
theorem gdstoreN (X : Stand p l e R s m args below meth c T locs cells slots) (hx : p.tables.exec = Jvm.exec) {i : Fin 4} {x : UInt64} {l' : Array Slot} (hd : decode c.code pc = .ok (.dstore_n i, 1)) (_ : True) (hl : storeLocals Ls i.val (.double x) = some l') (k : Goes p e below E (T.setTop (mkF m (pc + 1) l' sk))) : Goes p e below E (T.setTop (mkF m pc Ls (.double x :: sk))) :=
  Goes.st (fun _ q => XS.dstoreN X.here hx rfl hd rfl hl q) k
theorem gdstore (X : Stand p l e R s m args below meth c T locs cells slots) (hx : p.tables.exec = Jvm.exec) {i : Nat} {x : UInt64} {l' : Array Slot} (hd : decode c.code pc = .ok (.dstore i, 2)) (_ : True) (hl : storeLocals Ls i (.double x) = some l') (k : Goes p e below E (T.setTop (mkF m (pc + 2) l' sk))) : Goes p e below E (T.setTop (mkF m pc Ls (.double x :: sk))) :=
  Goes.st (fun _ q => XS.dstore X.here hx rfl hd rfl hl q) k
theorem glstore (X : Stand p l e R s m args below meth c T locs cells slots) (hx : p.tables.exec = Jvm.exec) {i : Nat} {x : Int64} {l' : Array Slot} (hd : decode c.code pc = .ok (.lstore i, 2)) (_ : True) (hl : storeLocals Ls i (.long x) = some l') (k : Goes p e below E (T.setTop (mkF m (pc + 2) l' sk))) : Goes p e below E (T.setTop (mkF m pc Ls (.long x :: sk))) :=
  Goes.st (fun _ q => XT.lstore X.here hx rfl hd rfl hl q) k
theorem gastoreN (X : Stand p l e R s m args below meth c T locs cells slots) (hx : p.tables.exec = Jvm.exec) {i : Fin 4} {x : Value} {l' : Array Slot} (hd : decode c.code pc = .ok (.astore_n i, 1)) (_ : True) (hv : x.isRef = true) (hl : storeLocals Ls i.val x = some l') (k : Goes p e below E (T.setTop (mkF m (pc + 1) l' sk))) : Goes p e below E (T.setTop (mkF m pc Ls (x :: sk))) :=
  Goes.st (fun _ q => XS.astoreN X.here hx rfl hd rfl hv hl q) k
theorem gastore (X : Stand p l e R s m args below meth c T locs cells slots) (hx : p.tables.exec = Jvm.exec) {i : Nat} {x : Value} {l' : Array Slot} (hd : decode c.code pc = .ok (.astore i, 2)) (_ : True) (hv : x.isRef = true) (hl : storeLocals Ls i x = some l') (k : Goes p e below E (T.setTop (mkF m (pc + 2) l' sk))) : Goes p e below E (T.setTop (mkF m pc Ls (x :: sk))) :=
  Goes.st (fun _ q => XS.astore X.here hx rfl hd rfl hv hl q) k
theorem ggoto (X : Stand p l e R s m args below meth c T locs cells slots) (hx : p.tables.exec = Jvm.exec) {o : Int} {pc' : Nat} (hd : decode c.code pc = .ok (.goto o, 3)) (ho : 0 ≤ (pc : Int) + o) (hp : ((pc : Int) + o).toNat = pc') (k : Goes p e below E (T.setTop (mkF m pc' Ls sk))) : Goes p e below E (T.setTop (mkF m pc Ls sk)) :=
  Goes.st (fun _ q => XS.goto X.here hx rfl rfl hd ho hp q) k
theorem gifYes (X : Stand p l e R s m args below meth c T locs cells slots) (hx : p.tables.exec = Jvm.exec) {cd : ClassFile.Cond} {o : Int} {x : Int32} {pc' : Nat} (hd : decode c.code pc = .ok (.ifCond cd o, 3)) (hc : ifCond.holds cd x = true) (ho : 0 ≤ (pc : Int) + o) (hp : ((pc : Int) + o).toNat = pc') (k : Goes p e below E (T.setTop (mkF m pc' Ls sk))) : Goes p e below E (T.setTop (mkF m pc Ls (.int x :: sk))) :=
  Goes.st (fun _ q => XS.ifYes X.here hx rfl rfl hd rfl hc ho hp q) k
theorem gifNo (X : Stand p l e R s m args below meth c T locs cells slots) (hx : p.tables.exec = Jvm.exec) {cd : ClassFile.Cond} {o : Int} {x : Int32} (hd : decode c.code pc = .ok (.ifCond cd o, 3)) (hc : ifCond.holds cd x = false) (k : Goes p e below E (T.setTop (mkF m (pc + 3) Ls sk))) : Goes p e below E (T.setTop (mkF m pc Ls (.int x :: sk))) :=
  Goes.st (fun _ q => XS.ifNo X.here hx rfl hd rfl hc q) k
theorem gicmpYes (X : Stand p l e R s m args below meth c T locs cells slots) (hx : p.tables.exec = Jvm.exec) {cd : ClassFile.Cond} {o : Int} {x y : Int32} {pc' : Nat} (hd : decode c.code pc = .ok (.if_icmp cd o, 3)) (hc : if_icmp.holds cd x y = true) (ho : 0 ≤ (pc : Int) + o) (hp : ((pc : Int) + o).toNat = pc') (k : Goes p e below E (T.setTop (mkF m pc' Ls sk))) : Goes p e below E (T.setTop (mkF m pc Ls (.int y :: .int x :: sk))) :=
  Goes.st (fun _ q => XS.icmpYes X.here hx rfl rfl hd rfl hc ho hp q) k
theorem gicmpNo (X : Stand p l e R s m args below meth c T locs cells slots) (hx : p.tables.exec = Jvm.exec) {cd : ClassFile.Cond} {o : Int} {x y : Int32} (hd : decode c.code pc = .ok (.if_icmp cd o, 3)) (hc : if_icmp.holds cd x y = false) (k : Goes p e below E (T.setTop (mkF m (pc + 3) Ls sk))) : Goes p e below E (T.setTop (mkF m pc Ls (.int y :: .int x :: sk))) :=
  Goes.st (fun _ q => XS.icmpNo X.here hx rfl hd rfl hc q) k
end OwnSteps
section OwnHeld
open Bundle
variable {p : Program} {l : Launch} {e : Env} {R : Room} {s : State} {args : Array Value} {below : List Frame} {Z : State} {a0 : Array Value} {EL : List (String × Nat)} {h : Heap} {vm0 : Vm}
/-- a callee that asks that the constants of EL are held as their texts say, and may intern -/
theorem backOfSI {y : MethodName} {bytes : ByteArray} {maxL : Nat} {ret : Option FieldType} {rm : Room} {len W : Nat} {as' : Array Value} {Q : Option Value → Heap → List Loc → Prop}
    (hM : MetFree l y (head1 [Cond.code y bytes maxL ret] rm) (fun a U => a = as' ∧ Z.Warmed39 U.vm ∧ U.heap = h ∧ CHv Z EL U.vm h) (fun _ _ _ _ _ => True) (fun _ U o U' => ∃ v L, o = .returned v ∧ Q v U'.heap L ∧ ReturnedEndW U o U' L rm.cells rm.slots))
    (hZ : Z.Warmed39 vm0) (wc : (Cond.code y bytes maxL ret).before a0 Z = true) (wz : (Cond.initialized y.cls).before a0 Z = true) (hf : rm.frames + 1 ≤ R.frames) (hl : W + (maxL + 11) + rm.locals ≤ R.locals) (hEL : EW Z a0 EL) (H : CHv Z EL vm0 h) :
    BackS l R p e below (s.setVm vm0) args y len W (fun A a => a = as' ∧ A.U.heap = h ∧ A.cells + rm.cells ≤ R.cells ∧ A.slots + rm.slots ≤ R.slots)
      (fun A _ v B => ∃ L, Q v B.U.heap L ∧ B.locs = A.locs ++ L ∧ B.cells = A.cells + rm.cells ∧ B.slots = A.slots + rm.slots) := by
  have warm : ∀ (m : MethodId) (meth : Method) (c : Code) (A : Pt), Stand p l e R (s.setVm vm0) m args below meth c A.U A.locs A.cells A.slots → Z.Warmed39 A.U.vm := fun _ _ _ _ Y => wtrans (s := s.setVm vm0) hZ Y.warmed
  refine BackS.of_freeW (bytes := bytes) (maxL := maxL) (ret := ret) (E := fun _ _ o t L k n => (k = rm.cells ∧ n = rm.slots) ∧ ∃ v, o = .returned v ∧ Q v t.heap L) hM hf hl ?_ ?_ (fun _ _ _ _ _ _ _ _ _ => trivial) ?_ ?_
  · intro m meth c A a Y hp
    have hU := warm m meth c A Y
    refine ⟨?_, mv hU wc, mv hU wz, hp.2.2⟩
    show (Cond.and _ .tt).before a A.U = true
    rw [Cond.before_and, mv hU wc]; rfl
  · intro m meth c A a g mk Y hp
    exact ⟨hp.1, warm m meth c A Y, hp.2.1, (CHv.at Y hZ hEL H).1⟩
  · rintro _ _ _ _ ⟨v, L, h1, h2, h3⟩
    exact ⟨L, _, _, h3, ⟨rfl, rfl⟩, v, h1, h2⟩
  · rintro m meth c A a g mk v t L k n Y hp _ _ ⟨⟨rfl, rfl⟩, v', e3, e4⟩
    cases e3
    exact ⟨L, e4, rfl, rfl, rfl⟩
end OwnHeld
end Jvm.RoadKit
namespace Jvm.Pilot.@@N@@
open Jvm Jvm.ClassFile Sem Op Lib Jvm.Free Jvm.Stand Jvm.LawKit Jvm.RoadKit Bundle Jvm.Free.Fl Jvm.Pilot.@@N@@.Jvm.D
abbrev mN0 : MethodName := (⟨"java/lang/StringUTF16", "newBytesLength", "(I)I"⟩ : MethodName)
abbrev mN1 : MethodName := (⟨"java/lang/StringUTF16", "newBytesFor", "(I)[B"⟩ : MethodName)
abbrev mN2 : MethodName := (⟨"java/lang/StringUTF16", "putChar", "([BII)V"⟩ : MethodName)
abbrev mN3 : MethodName := (⟨"java/lang/StringUTF16", "getChar", "([BI)C"⟩ : MethodName)
abbrev mN4 : MethodName := (⟨"java/lang/StringUTF16", "toBytes", "([CII)[B"⟩ : MethodName)
abbrev mN5 : MethodName := (⟨"java/lang/StringUTF16", "compress", "([CI[BII)I"⟩ : MethodName)
abbrev mN6 : MethodName := (⟨"java/lang/StringUTF16", "compress", "([CII)[B"⟩ : MethodName)
abbrev mN7 : MethodName := (⟨"java/lang/StringUTF16", "coderFromArrayLen", "([BI)B"⟩ : MethodName)
abbrev mN8 : MethodName := (⟨"java/lang/String", "<init>", "([CIILjava/lang/Void;)V"⟩ : MethodName)
abbrev mN9 : MethodName := (⟨"java/lang/String", "<init>", "([C)V"⟩ : MethodName)
abbrev mN10 : MethodName := (⟨"lucerna/ontology/RoleInversePinLaw", "drawn", "(IIII)Ljava/lang/String;"⟩ : MethodName)
abbrev mN11 : MethodName := (⟨"java/lang/Record", "<init>", "()V"⟩ : MethodName)
abbrev mN12 : MethodName := (⟨"lucerna/ontology/Role", "<init>", "(Ljava/lang/String;Z)V"⟩ : MethodName)
abbrev mN13 : MethodName := (⟨"lucerna/ontology/Role", "inverse", "()Llucerna/ontology/Role;"⟩ : MethodName)
abbrev mN14 : MethodName := (⟨"lucerna/ontology/Role", "property", "()Ljava/lang/String;"⟩ : MethodName)
abbrev mN15 : MethodName := (⟨"lucerna/ontology/Role", "inverted", "()Z"⟩ : MethodName)
abbrev mN16 : MethodName := (⟨"java/lang/String", "equals", "(Ljava/lang/Object;)Z"⟩ : MethodName)
def ELs : List (String × Nat) := [("java/lang/String", 7)]
theorem hELs {Z : State} {a0 : Array Value} (hw : ∀ d ∈ tables_1, d.before a0 Z = true) : EW Z a0 ELs := EW.cons (hwk hw 72 rfl) (by decide) EW.nil
def gC (lo hi : Int32) : Int32 := (((lo &&& 255) <<< ((0 : Int32) &&& 31)) ||| ((hi &&& 255) <<< ((8 : Int32) &&& 31))).toUInt32.toUInt16.toUInt32.toInt32
theorem own_rng (x : Int32) : 0 ≤ (nar .char x).toInt ∧ (nar .char x).toInt < 65536 := (c_i2c x).2
theorem own_gc {c : Int32} (h : 0 ≤ c.toInt ∧ c.toInt < 65536) : gC (nar .byte (c >>> ((0 : Int32) &&& 31)).toInt8.toInt32) (nar .byte (c >>> ((8 : Int32) &&& 31)).toInt8.toInt32) = c := by
  have a1 := c_ishr c 0 0 (by decide)
  have a2 := c_ishr c 8 8 (by decide)
  have b1 := c_i2b (c >>> ((0 : Int32) &&& 31))
  have b2 := c_i2b (c >>> ((8 : Int32) &&& 31))
  have d1 := c_i2b (c >>> ((0 : Int32) &&& 31)).toInt8.toInt32
  have d2 := c_i2b (c >>> ((8 : Int32) &&& 31)).toInt8.toInt32
  have m1 := c_mask (nar .byte (c >>> ((0 : Int32) &&& 31)).toInt8.toInt32) 255 8 (by decide) (by decide)
  have m2 := c_mask (nar .byte (c >>> ((8 : Int32) &&& 31)).toInt8.toInt32) 255 8 (by decide) (by decide)
  have e1 : nar .byte (c >>> ((0 : Int32) &&& 31)).toInt8.toInt32 = (c >>> ((0 : Int32) &&& 31)).toInt8.toInt32.toInt8.toInt32 := rfl
  have e2 : nar .byte (c >>> ((8 : Int32) &&& 31)).toInt8.toInt32 = (c >>> ((8 : Int32) &&& 31)).toInt8.toInt32.toInt8.toInt32 := rfl
  have s1 := c_ishl (nar .byte (c >>> ((0 : Int32) &&& 31)).toInt8.toInt32 &&& 255) 0 0 (by decide)
  have s2 := c_ishl (nar .byte (c >>> ((8 : Int32) &&& 31)).toInt8.toInt32 &&& 255) 8 8 (by decide)
  rw [show ((2 ^ 0 : Nat) : Int) = 1 by decide] at a1 s1
  rw [show ((2 ^ 8 : Nat) : Int) = 256 by decide] at a2 s2 m1 m2
  rw [← e1] at d1; rw [← e2] at d2
  unfold gC
  generalize nar .byte (c >>> ((0 : Int32) &&& 31)).toInt8.toInt32 = u1 at *
  generalize nar .byte (c >>> ((8 : Int32) &&& 31)).toInt8.toInt32 = u2 at *
  generalize (c >>> ((0 : Int32) &&& 31)).toInt8.toInt32 = w1 at *
  generalize (c >>> ((8 : Int32) &&& 31)).toInt8.toInt32 = w2 at *
  generalize c >>> ((0 : Int32) &&& 31) = v1 at *
  generalize c >>> ((8 : Int32) &&& 31) = v2 at *
  generalize (u1 &&& 255) <<< ((0 : Int32) &&& 31) = x1 at *
  generalize (u2 &&& 255) <<< ((8 : Int32) &&& 31) = x2 at *
  have r1 := rng32 x1; have r2 := rng32 x2
  have q1 : x1.toInt = v1.toInt % 256 := by omega
  have q2 : x2.toInt = 256 * (v2.toInt % 256) := by omega
  have o := c_or' x1 x2 8 (by decide) 256 (by decide) (by omega) (by omega) (by omega)
  have o3 := c_i2c (x1 ||| x2)
  have r3 := rng32 (x1 ||| x2)
  apply Int32.toInt_inj.mp
  omega
theorem dj52_3_0 : decode jdk_52_method_3_code 0 = .ok (.iload_n 0, 1) := by decide +kernel
theorem dj52_3_1 : decode jdk_52_method_3_code 1 = .ok (.ifCond .ge 11, 3) := by decide +kernel
theorem dj52_3_4 : decode jdk_52_method_3_code 4 = .ok (.new 17, 3) := by decide +kernel
theorem dj52_3_7 : decode jdk_52_method_3_code 7 = .ok (.dup, 1) := by decide +kernel
theorem dj52_3_8 : decode jdk_52_method_3_code 8 = .ok (.invokespecial 19, 3) := by decide +kernel
theorem dj52_3_11 : decode jdk_52_method_3_code 11 = .ok (.athrow, 1) := by decide +kernel
theorem dj52_3_12 : decode jdk_52_method_3_code 12 = .ok (.iload_n 0, 1) := by decide +kernel
theorem dj52_3_13 : decode jdk_52_method_3_code 13 = .ok (.ldc 20, 2) := by decide +kernel
theorem dj52_3_15 : decode jdk_52_method_3_code 15 = .ok (.if_icmp .lt 40, 3) := by decide +kernel
theorem dj52_3_18 : decode jdk_52_method_3_code 18 = .ok (.new 21, 3) := by decide +kernel
theorem dj52_3_21 : decode jdk_52_method_3_code 21 = .ok (.dup, 1) := by decide +kernel
theorem dj52_3_22 : decode jdk_52_method_3_code 22 = .ok (.new 23, 3) := by decide +kernel
theorem dj52_3_25 : decode jdk_52_method_3_code 25 = .ok (.dup, 1) := by decide +kernel
theorem dj52_3_26 : decode jdk_52_method_3_code 26 = .ok (.invokespecial 25, 3) := by decide +kernel
theorem dj52_3_29 : decode jdk_52_method_3_code 29 = .ok (.ldc 26, 2) := by decide +kernel
theorem dj52_3_31 : decode jdk_52_method_3_code 31 = .ok (.invokevirtual 28, 3) := by decide +kernel
theorem dj52_3_34 : decode jdk_52_method_3_code 34 = .ok (.iload_n 0, 1) := by decide +kernel
theorem dj52_3_35 : decode jdk_52_method_3_code 35 = .ok (.invokevirtual 32, 3) := by decide +kernel
theorem dj52_3_38 : decode jdk_52_method_3_code 38 = .ok (.ldc 35, 2) := by decide +kernel
theorem dj52_3_40 : decode jdk_52_method_3_code 40 = .ok (.invokevirtual 28, 3) := by decide +kernel
theorem dj52_3_43 : decode jdk_52_method_3_code 43 = .ok (.ldc 20, 2) := by decide +kernel
theorem dj52_3_45 : decode jdk_52_method_3_code 45 = .ok (.invokevirtual 32, 3) := by decide +kernel
theorem dj52_3_48 : decode jdk_52_method_3_code 48 = .ok (.invokevirtual 37, 3) := by decide +kernel
theorem dj52_3_51 : decode jdk_52_method_3_code 51 = .ok (.invokespecial 41, 3) := by decide +kernel
theorem dj52_3_54 : decode jdk_52_method_3_code 54 = .ok (.athrow, 1) := by decide +kernel
theorem dj52_3_55 : decode jdk_52_method_3_code 55 = .ok (.iload_n 0, 1) := by decide +kernel
theorem dj52_3_56 : decode jdk_52_method_3_code 56 = .ok (.iconst 1, 1) := by decide +kernel
theorem dj52_3_57 : decode jdk_52_method_3_code 57 = .ok (.ishl, 1) := by decide +kernel
theorem dj52_3_58 : decode jdk_52_method_3_code 58 = .ok (.ireturn, 1) := by decide +kernel
theorem pn_java_lang_StringUTF16 : plainName "java/lang/StringUTF16" = true := by first | (simp [plainName, overriddenIn]; done) | decide +kernel
theorem ef_Nl1 (m : MethodId) (x0 : Int32) : entryFrame m #[(.int x0)] 1 = mkF m 0 #[iv x0] [] := by first | (simp [entryFrame, mkF, argsToLocals, Value.category]; done) | rfl
def QNl1 (Z : State) (zz : Unit) (h0 : Heap) (n0 : Nat) (v : Option Value) (h : Heap) (L : List Loc) : Prop := v = some (.int (2 : Int32)) ∧ Fr n0 L ∧ h = h0
set_option maxRecDepth 65536 in
set_option maxHeartbeats 40000000 in
theorem rmNl1 (l : Launch) (Z : State) (a0 : Array Value) (hw : ∀ d ∈ tables_1, d.before a0 Z = true) (ws : List Jvm.Cond) (zz : Unit) (h0 : Heap) (n0 : Nat) (Z0 : n0 ≤ h0.size)  :
    MetFree l mN0 (head1 (Jvm.Cond.code mN0 jdk_52_method_3_code 1 (some .int) :: ws) ({ frames := 0, cells := 0, slots := 0, locals := 0 } : Room)) (fun aa U => aa = #[(.int (1 : Int32))] ∧ Z.Warmed39 U.vm ∧ U.heap = h0) (fun _ _ _ _ _ => True) (fun _ u1_ o_ u2_ => ∃ v_ l_, o_ = .returned v_ ∧ QNl1 Z zz h0 n0 v_ u2_.heap l_ ∧ FrameEnd u1_ o_ u2_ l_ ({ frames := 0, cells := 0, slots := 0, locals := 0 } : Room).cells ({ frames := 0, cells := 0, slots := 0, locals := 0 } : Room).slots) := by
  refine MetFree.of_bodySF (plainFor_of_name pn_java_lang_StringUTF16) hisR ?_
  intro p e s m args below meth c s₁ Bd hml0 hP hK
  obtain ⟨rfl, hZ, hh⟩ := hP
  have hx := Bd.exec
  have hby := Bd.bytes
  have hlk := BodyLoose.notSynchronized Bd
  have hret := Bd.returns
  have hml : c.maxLocals = 1 := hml0
  have hown : s.vm.findClass "java/lang/StringUTF16" = some m.cls := findClass_of_methodNamed Bd.named
  have hnm := (name_of_methodNamed Bd.named Bd.method).1
  have X0 : Stand p l e ({ frames := 0, cells := 0, slots := 0, locals := 0 } : Room) s m #[(.int (1 : Int32))] below meth c s₁ [] 0 0 := Stand.of_body Bd
  have e0 : s₁.heap = h0 := by rw [← hh, Bd.state]; rfl
  have N0 := Fr.nil n0
  refine Goes.st (E := (EN s (QNl1 Z zz h0 n0) ({ frames := 0, cells := 0, slots := 0, locals := 0 } : Room).cells ({ frames := 0, cells := 0, slots := 0, locals := 0 } : Room).slots)) (fun tg kg => castTop (ef_Nl1 m (1 : Int32)) kg) ?_
  show Gs p e below _ s₁ m 0 #[iv (1 : Int32)] []
  refine giloadN X0 hx (hb hby dj52_3_0) rfl ?_
  show Gs p e below _ s₁ m 1 #[iv (1 : Int32)] [(.int (1 : Int32))]
  refine gifYes X0 hx (pc' := 12) (hb hby dj52_3_1) (by decide) (by decide) (by decide) ?_
  show Gs p e below _ s₁ m 12 #[iv (1 : Int32)] []
  refine giloadN X0 hx (hb hby dj52_3_12) rfl ?_
  show Gs p e below _ s₁ m 13 #[iv (1 : Int32)] [(.int (1 : Int32))]
  refine Goes.st (fun tg kg => X0.ldcInt hx hown (mvT hZ (hwk hw 84 rfl)) (g := (mkF m 13 #[iv (1 : Int32)] [(.int (1 : Int32))])) rfl (hb hby dj52_3_13) tg kg) ?_
  show Gs p e below _ s₁ m 15 #[iv (1 : Int32)] [(.int (1073741823 : Int32)), (.int (1 : Int32))]
  refine gicmpYes X0 hx (pc' := 55) (hb hby dj52_3_15) (by decide) (by decide) (by decide) ?_
  show Gs p e below _ s₁ m 55 #[iv (1 : Int32)] []
  refine giloadN X0 hx (hb hby dj52_3_55) rfl ?_
  refine giconst X0 hx (hb hby dj52_3_56) ?_
  show Gs p e below _ s₁ m 57 #[iv (1 : Int32)] [(.int (1 : Int32)), (.int (1 : Int32))]
  refine Goes.st (fun tg kg => XT.ishl X0.here hx rfl (hb hby dj52_3_57) rfl kg) ?_
  show Gs p e below _ s₁ m 58 #[iv (1 : Int32)] [(.int ((1 : Int32) <<< ((1 : Int32) &&& 31)))]
  rw [show ((1 : Int32) <<< ((1 : Int32) &&& 31)) = (2 : Int32) from by decide]
  show Gs p e below _ s₁ m 58 #[iv (1 : Int32)] [(.int (2 : Int32))]
  refine Goes.retI X0 hx hret (hb hby dj52_3_58) (lvN X0 hlk (vsome hret) ?_ (by decide) (by decide))
  rw [e0]
  exact ⟨rfl, N0, rfl⟩
theorem dj52_2_0 : decode jdk_52_method_2_code 0 = .ok (.iload_n 0, 1) := by decide +kernel
theorem dj52_2_1 : decode jdk_52_method_2_code 1 = .ok (.invokestatic 11, 3) := by decide +kernel
theorem dj52_2_4 : decode jdk_52_method_2_code 4 = .ok (.newarray .byte, 2) := by decide +kernel
theorem dj52_2_6 : decode jdk_52_method_2_code 6 = .ok (.areturn, 1) := by decide +kernel
theorem pd__I_I_7ab : parseMethodDescriptor "(I)I" = some ⟨[.int], some .int⟩ := by decide +kernel
theorem ef_Nf1 (m : MethodId) (x0 : Int32) : entryFrame m #[(.int x0)] 1 = mkF m 0 #[iv x0] [] := by first | (simp [entryFrame, mkF, argsToLocals, Value.category]; done) | rfl
def QNf1 (Z : State) (zz : Unit) (h0 : Heap) (n0 : Nat) (v : Option Value) (h : Heap) (L : List Loc) : Prop := ∃ (b : Addr) (kB : ClassId), v = some (.ref b) ∧ Fr n0 L ∧ Keep h0 h [] ∧ h0.size ≤ b ∧ n0 ≤ b ∧ Arv Z h b kB .byte (2 : Int32) [(.int (0 : Int32)), (.int (0 : Int32))] (.int (0 : Int32))
set_option maxRecDepth 65536 in
set_option maxHeartbeats 40000000 in
theorem rmNf1 (l : Launch) (Z : State) (a0 : Array Value) (hw : ∀ d ∈ tables_1, d.before a0 Z = true) (ws : List Jvm.Cond) (zz : Unit) (h0 : Heap) (n0 : Nat) (Z0 : n0 ≤ h0.size)  :
    MetFree l mN1 (head1 (Jvm.Cond.code mN1 jdk_52_method_2_code 1 (some (.array .byte)) :: ws) ({ frames := 1, cells := 1, slots := 2, locals := 12 } : Room)) (fun aa U => aa = #[(.int (1 : Int32))] ∧ Z.Warmed39 U.vm ∧ U.heap = h0) (fun _ _ _ _ _ => True) (fun _ u1_ o_ u2_ => ∃ v_ l_, o_ = .returned v_ ∧ QNf1 Z zz h0 n0 v_ u2_.heap l_ ∧ FrameEnd u1_ o_ u2_ l_ ({ frames := 1, cells := 1, slots := 2, locals := 12 } : Room).cells ({ frames := 1, cells := 1, slots := 2, locals := 12 } : Room).slots) := by
  refine MetFree.of_bodySF (plainFor_of_name pn_java_lang_StringUTF16) hisR ?_
  intro p e s m args below meth c s₁ Bd hml0 hP hK
  obtain ⟨rfl, hZ, hh⟩ := hP
  have hx := Bd.exec
  have hby := Bd.bytes
  have hlk := BodyLoose.notSynchronized Bd
  have hret := Bd.returns
  have hml : c.maxLocals = 1 := hml0
  have hown : s.vm.findClass "java/lang/StringUTF16" = some m.cls := findClass_of_methodNamed Bd.named
  have hnm := (name_of_methodNamed Bd.named Bd.method).1
  have X0 : Stand p l e ({ frames := 1, cells := 1, slots := 2, locals := 12 } : Room) s m #[(.int (1 : Int32))] below meth c s₁ [] 0 0 := Stand.of_body Bd
  have e0 : s₁.heap = h0 := by rw [← hh, Bd.state]; rfl
  have N0 := Fr.nil n0
  refine Goes.st (E := (EN s (QNf1 Z zz h0 n0) ({ frames := 1, cells := 1, slots := 2, locals := 12 } : Room).cells ({ frames := 1, cells := 1, slots := 2, locals := 12 } : Room).slots)) (fun tg kg => castTop (ef_Nf1 m (1 : Int32)) kg) ?_
  have K0 : Keep h0 h0 [] := Keep.refl _ _
  show Gs p e below _ s₁ m 0 #[iv (1 : Int32)] []
  refine giloadN X0 hx (hb hby dj52_2_0) rfl ?_
  obtain ⟨_, _, ⟨T1, L1, k1, n1⟩, -, X1, ⟨Lc1, hQ1, l1, y1, z1⟩, st1⟩ := Jvm.LawKit.callS X0 hx (y := mN0) hown (mvT hZ (hwk hw 81 rfl)) (mvT hZ (hwk hw 82 rfl)) (mvT hZ (hwk hw 21 rfl)) (mvT hZ (hwk hw 83 rfl)) (by decide) (backOf (W := 0) (rmNl1 l Z a0 hw [] () h0 n0 Z0 ) hZ (hwk hw 83 rfl) (hwk hw 21 rfl) (by decide) (by decide)) (g := (mkF m 1 #[iv (1 : Int32)] [(.int (1 : Int32))])) rfl (by rw [hml]; rfl) (argsL := [(.int (1 : Int32))]) (rest := []) (lenOf pd__I_I_7ab rfl) rfl (by show 2 * 0 + _ ≤ _; exact Nat.le_of_eq rfl) (hb hby dj52_2_1) (fun _ _ => ⟨rfl, e0, (by decide : 0 + 0 ≤ 1), (by decide : 0 + 0 ≤ 2)⟩)
  dsimp only [Pt.U, Pt.locs, Pt.cells, Pt.slots] at X1 l1 y1 z1 st1 hQ1
  subst l1 y1 z1
  obtain ⟨rfl, N1q, eh1⟩ := hQ1
  have N1 := Fr.app N0 N1q
  refine Goes.st st1 ?_
  show Gs p e below _ T1 m 4 #[iv (1 : Int32)] [(.int (2 : Int32))]
  obtain ⟨T2, h2, cA2, X2, e2, E2, A2, st2⟩ := newP X1 hx hZ (hwk hw 23 rfl) eh1 (g := (mkF m 4 #[iv (1 : Int32)] [(.int (2 : Int32))])) rfl (hb hby dj52_2_4) rfl (by decide) (cap := 2) (by decide) (by decide) (by decide) (by decide)
  obtain ⟨b2, g2⟩ : ∃ z, z = h0.size := ⟨_, rfl⟩
  rw [← g2] at A2 st2
  have lo_b2 : n0 ≤ b2 := by have := Z0; omega
  have sz_b2 : h0.size ≤ b2 := by have := K0.1; omega
  have KK3 := K0.ext E2
  have V2 : Arv Z h2 b2 cA2 .byte (2 : Int32) [(.int (0 : Int32)), (.int (0 : Int32))] (.int (0 : Int32)) := (Arv.new A2 (by decide)).pad (pad_rep [] _ 2)
  refine Goes.st st2 ?_
  have Z2 : n0 ≤ h2.size := Nat.le_trans Z0 E2.1
  show Gs p e below _ T2 m 6 #[iv (1 : Int32)] [(.ref b2)]
  refine Goes.retA X2 hx hret rfl rfl rfl (hb hby dj52_2_6) (lvN X2 hlk (vsome hret) ?_ (by decide) (by decide))
  rw [e2]
  exact ⟨b2, cA2, rfl, N1, KK3, sz_b2, lo_b2, V2⟩
theorem dj52_4_0 : decode jdk_52_method_4_code 0 = .ok (.getstatic 44, 3) := by decide +kernel
theorem dj52_4_3 : decode jdk_52_method_4_code 3 = .ok (.ifCond .ne 25, 3) := by decide +kernel
theorem dj52_4_6 : decode jdk_52_method_4_code 6 = .ok (.iload_n 1, 1) := by decide +kernel
theorem dj52_4_7 : decode jdk_52_method_4_code 7 = .ok (.ifCond .lt 11, 3) := by decide +kernel
theorem dj52_4_10 : decode jdk_52_method_4_code 10 = .ok (.iload_n 1, 1) := by decide +kernel
theorem dj52_4_11 : decode jdk_52_method_4_code 11 = .ok (.aload_n 0, 1) := by decide +kernel
theorem dj52_4_12 : decode jdk_52_method_4_code 12 = .ok (.invokestatic 48, 3) := by decide +kernel
theorem dj52_4_15 : decode jdk_52_method_4_code 15 = .ok (.if_icmp .lt 13, 3) := by decide +kernel
theorem dj52_4_18 : decode jdk_52_method_4_code 18 = .ok (.new 52, 3) := by decide +kernel
theorem dj52_4_21 : decode jdk_52_method_4_code 21 = .ok (.dup, 1) := by decide +kernel
theorem dj52_4_22 : decode jdk_52_method_4_code 22 = .ok (.ldc 54, 2) := by decide +kernel
theorem dj52_4_24 : decode jdk_52_method_4_code 24 = .ok (.invokespecial 56, 3) := by decide +kernel
theorem dj52_4_27 : decode jdk_52_method_4_code 27 = .ok (.athrow, 1) := by decide +kernel
theorem dj52_4_28 : decode jdk_52_method_4_code 28 = .ok (.iload_n 1, 1) := by decide +kernel
theorem dj52_4_29 : decode jdk_52_method_4_code 29 = .ok (.iconst 1, 1) := by decide +kernel
theorem dj52_4_30 : decode jdk_52_method_4_code 30 = .ok (.ishl, 1) := by decide +kernel
theorem dj52_4_31 : decode jdk_52_method_4_code 31 = .ok (.istore_n 1, 1) := by decide +kernel
theorem dj52_4_32 : decode jdk_52_method_4_code 32 = .ok (.aload_n 0, 1) := by decide +kernel
theorem dj52_4_33 : decode jdk_52_method_4_code 33 = .ok (.iload_n 1, 1) := by decide +kernel
theorem dj52_4_34 : decode jdk_52_method_4_code 34 = .ok (.iinc 1 1, 3) := by decide +kernel
theorem dj52_4_37 : decode jdk_52_method_4_code 37 = .ok (.iload_n 2, 1) := by decide +kernel
theorem dj52_4_38 : decode jdk_52_method_4_code 38 = .ok (.getstatic 59, 3) := by decide +kernel
theorem dj52_4_41 : decode jdk_52_method_4_code 41 = .ok (.ishr, 1) := by decide +kernel
theorem dj52_4_42 : decode jdk_52_method_4_code 42 = .ok (.i2b, 1) := by decide +kernel
theorem dj52_4_43 : decode jdk_52_method_4_code 43 = .ok (.bastore, 1) := by decide +kernel
theorem dj52_4_44 : decode jdk_52_method_4_code 44 = .ok (.aload_n 0, 1) := by decide +kernel
theorem dj52_4_45 : decode jdk_52_method_4_code 45 = .ok (.iload_n 1, 1) := by decide +kernel
theorem dj52_4_46 : decode jdk_52_method_4_code 46 = .ok (.iload_n 2, 1) := by decide +kernel
theorem dj52_4_47 : decode jdk_52_method_4_code 47 = .ok (.getstatic 63, 3) := by decide +kernel
theorem dj52_4_50 : decode jdk_52_method_4_code 50 = .ok (.ishr, 1) := by decide +kernel
theorem dj52_4_51 : decode jdk_52_method_4_code 51 = .ok (.i2b, 1) := by decide +kernel
theorem dj52_4_52 : decode jdk_52_method_4_code 52 = .ok (.bastore, 1) := by decide +kernel
theorem dj52_4_53 : decode jdk_52_method_4_code 53 = .ok (.return_, 1) := by decide +kernel
theorem ef_Pc10 (m : MethodId) (x0 : Addr) (x1 : Int32) (x2 : Int32) : entryFrame m #[(.ref x0), (.int x1), (.int x2)] 3 = mkF m 0 #[rv x0, iv x1, iv x2] [] := by first | (simp [entryFrame, mkF, argsToLocals, Value.category]; done) | rfl
def QPc10 (Z : State) (aB : Addr) (kB : ClassId) (cc w0 w1 : Int32) (h0 : Heap) (n0 : Nat) (v : Option Value) (h : Heap) (L : List Loc) : Prop := v = none ∧ Fr n0 L ∧ Keep h0 h [aB] ∧ Arv Z h aB kB .byte (2 : Int32) [(.int (nar .byte (cc >>> ((0 : Int32) &&& 31)).toInt8.toInt32)), (.int (nar .byte (cc >>> ((8 : Int32) &&& 31)).toInt8.toInt32))] (.int (0 : Int32))
set_option maxRecDepth 65536 in
set_option maxHeartbeats 40000000 in
theorem rmPc10 (l : Launch) (Z : State) (a0 : Array Value) (hw : ∀ d ∈ tables_1, d.before a0 Z = true) (ws : List Jvm.Cond) (aB : Addr) (kB : ClassId) (cc w0 w1 : Int32) (h0 : Heap) (n0 : Nat) (Z0 : n0 ≤ h0.size) (Sd : Sta Z h0 "java/lang/StringUTF16" "$assertionsDisabled" "Z" (.int (1 : Int32))) (Sh : Sta Z h0 "java/lang/StringUTF16" "HI_BYTE_SHIFT" "I" (.int (0 : Int32))) (Sl : Sta Z h0 "java/lang/StringUTF16" "LO_BYTE_SHIFT" "I" (.int (8 : Int32))) (lB : n0 ≤ aB) (VB : Arv Z h0 aB kB .byte (2 : Int32) [(.int w0), (.int w1)] (.int (0 : Int32))) :
    MetFree l mN2 (head1 (Jvm.Cond.code mN2 jdk_52_method_4_code 3 none :: ws) ({ frames := 0, cells := 0, slots := 0, locals := 0 } : Room)) (fun aa U => aa = #[(.ref aB), (.int (0 : Int32)), (.int cc)] ∧ Z.Warmed39 U.vm ∧ U.heap = h0) (fun _ _ _ _ _ => True) (fun _ u1_ o_ u2_ => ∃ v_ l_, o_ = .returned v_ ∧ QPc10 Z aB kB cc w0 w1 h0 n0 v_ u2_.heap l_ ∧ FrameEnd u1_ o_ u2_ l_ ({ frames := 0, cells := 0, slots := 0, locals := 0 } : Room).cells ({ frames := 0, cells := 0, slots := 0, locals := 0 } : Room).slots) := by
  refine MetFree.of_bodySF (plainFor_of_name pn_java_lang_StringUTF16) hisR ?_
  intro p e s m args below meth c s₁ Bd hml0 hP hK
  obtain ⟨rfl, hZ, hh⟩ := hP
  have hx := Bd.exec
  have hby := Bd.bytes
  have hlk := BodyLoose.notSynchronized Bd
  have hret := Bd.returns
  have hml : c.maxLocals = 3 := hml0
  have hown : s.vm.findClass "java/lang/StringUTF16" = some m.cls := findClass_of_methodNamed Bd.named
  have hnm := (name_of_methodNamed Bd.named Bd.method).1
  have X0 : Stand p l e ({ frames := 0, cells := 0, slots := 0, locals := 0 } : Room) s m #[(.ref aB), (.int (0 : Int32)), (.int cc)] below meth c s₁ [] 0 0 := Stand.of_body Bd
  have e0 : s₁.heap = h0 := by rw [← hh, Bd.state]; rfl
  have N0 := Fr.nil n0
  refine Goes.st (E := (EN s (QPc10 Z aB kB cc w0 w1 h0 n0) ({ frames := 0, cells := 0, slots := 0, locals := 0 } : Room).cells ({ frames := 0, cells := 0, slots := 0, locals := 0 } : Room).slots)) (fun tg kg => castTop (ef_Pc10 m aB (0 : Int32) cc) kg) ?_
  have K0 : Keep h0 h0 [aB] := Keep.refl _ _
  show Gs p e below _ s₁ m 0 #[rv aB, iv (0 : Int32), iv cc] []
  obtain ⟨T1, X1, e1, st1⟩ := getS X0 hx hZ hown (host := "") (hwk hw 88 rfl) Via.refl e0 Sd (g := (mkF m 0 #[rv aB, iv (0 : Int32), iv cc] [])) rfl (hb hby dj52_4_0)
  refine Goes.st st1 ?_
  show Gs p e below _ T1 m 3 #[rv aB, iv (0 : Int32), iv cc] [(.int (1 : Int32))]
  refine gifYes X1 hx (pc' := 28) (hb hby dj52_4_3) (by decide) (by decide) (by decide) ?_
  show Gs p e below _ T1 m 28 #[rv aB, iv (0 : Int32), iv cc] []
  refine giloadN X1 hx (hb hby dj52_4_28) rfl ?_
  refine giconst X1 hx (hb hby dj52_4_29) ?_
  show Gs p e below _ T1 m 30 #[rv aB, iv (0 : Int32), iv cc] [(.int (1 : Int32)), (.int (0 : Int32))]
  refine Goes.st (fun tg kg => XT.ishl X1.here hx rfl (hb hby dj52_4_30) rfl kg) ?_
  show Gs p e below _ T1 m 31 #[rv aB, iv (0 : Int32), iv cc] [(.int ((0 : Int32) <<< ((1 : Int32) &&& 31)))]
  rw [show ((0 : Int32) <<< ((1 : Int32) &&& 31)) = (0 : Int32) from by decide]
  show Gs p e below _ T1 m 31 #[rv aB, iv (0 : Int32), iv cc] [(.int (0 : Int32))]
  refine gistoreN X1 hx (hb hby dj52_4_31) trivial (l' := #[rv aB, iv (0 : Int32), iv cc]) rfl ?_
  refine galoadN X1 hx (hb hby dj52_4_32) rfl rfl ?_
  refine giloadN X1 hx (hb hby dj52_4_33) rfl ?_
  refine Goes.st (fun tg kg => XS.iinc X1.here hx rfl (hb hby dj52_4_34) rfl (l' := #[rv aB, iv (1 : Int32), iv cc]) rfl kg) ?_
  refine giloadN X1 hx (hb hby dj52_4_37) rfl ?_
  show Gs p e below _ T1 m 38 #[rv aB, iv (1 : Int32), iv cc] [(.int cc), (.int (0 : Int32)), (.ref aB)]
  obtain ⟨T2, X2, e2, st2⟩ := getS X1 hx hZ hown (host := "") (hwk hw 89 rfl) Via.refl e1 Sh (g := (mkF m 38 #[rv aB, iv (1 : Int32), iv cc] [(.int cc), (.int (0 : Int32)), (.ref aB)])) rfl (hb hby dj52_4_38)
  refine Goes.st st2 ?_
  show Gs p e below _ T2 m 41 #[rv aB, iv (1 : Int32), iv cc] [(.int (0 : Int32)), (.int cc), (.int (0 : Int32)), (.ref aB)]
  refine Goes.st (fun tg kg => XT.ishr X2.here hx rfl (hb hby dj52_4_41) rfl kg) ?_
  show Gs p e below _ T2 m 42 #[rv aB, iv (1 : Int32), iv cc] [(.int (cc >>> ((0 : Int32) &&& 31))), (.int (0 : Int32)), (.ref aB)]
  refine Goes.st (fun tg kg => XT.i2b X2.here hx rfl (hb hby dj52_4_42) rfl kg) ?_
  show Gs p e below _ T2 m 43 #[rv aB, iv (1 : Int32), iv cc] [(.int ((cc >>> ((0 : Int32) &&& 31))).toInt8.toInt32), (.int (0 : Int32)), (.ref aB)]
  obtain ⟨cl3, Ar3, qk3, Sz3, qz3, Ha3, Gf3⟩ := id VB
  obtain ⟨T3, h3, X3, e3, W3, st3⟩ := stB X2 hx hZ e2 Ar3 (inb_of Sz3 ⟨by decide, by decide⟩) (g := (mkF m 43 #[rv aB, iv (1 : Int32), iv cc] [(.int ((cc >>> ((0 : Int32) &&& 31))).toInt8.toInt32), (.int (0 : Int32)), (.ref aB)])) rfl rfl (hb hby dj52_4_43)
  have N3 := Fr.snoc X3 N0 lB
  have V3 : Arv Z h3 aB kB .byte (2 : Int32) [(.int (nar .byte ((cc >>> ((0 : Int32) &&& 31))).toInt8.toInt32)), (.int w1)] (.int (0 : Int32)) := Arv.set Ar3 qk3 Sz3 qz3 Ha3 Gf3 (fits_nar_byte _) W3 0 (by decide) (by simp)
  refine Goes.st st3 ?_
  have KK4 := K0.wr W3 (Or.inl (List.mem_of_getElem? (i := 0) rfl))
  have Z3 : n0 ≤ h3.size := by have := W3.size; have := Z0; omega
  show Gs p e below _ T3 m 44 #[rv aB, iv (1 : Int32), iv cc] []
  refine galoadN X3 hx (hb hby dj52_4_44) rfl rfl ?_
  refine giloadN X3 hx (hb hby dj52_4_45) rfl ?_
  refine giloadN X3 hx (hb hby dj52_4_46) rfl ?_
  have f6 := (Sl.wr W3)
  obtain ⟨T5, X5, e5, st5⟩ := getS X3 hx hZ hown (host := "") (hwk hw 90 rfl) Via.refl e3 f6 (g := (mkF m 47 #[rv aB, iv (1 : Int32), iv cc] [(.int cc), (.int (1 : Int32)), (.ref aB)])) rfl (hb hby dj52_4_47)
  refine Goes.st st5 ?_
  show Gs p e below _ T5 m 50 #[rv aB, iv (1 : Int32), iv cc] [(.int (8 : Int32)), (.int cc), (.int (1 : Int32)), (.ref aB)]
  refine Goes.st (fun tg kg => XT.ishr X5.here hx rfl (hb hby dj52_4_50) rfl kg) ?_
  show Gs p e below _ T5 m 51 #[rv aB, iv (1 : Int32), iv cc] [(.int (cc >>> ((8 : Int32) &&& 31))), (.int (1 : Int32)), (.ref aB)]
  refine Goes.st (fun tg kg => XT.i2b X5.here hx rfl (hb hby dj52_4_51) rfl kg) ?_
  show Gs p e below _ T5 m 52 #[rv aB, iv (1 : Int32), iv cc] [(.int ((cc >>> ((8 : Int32) &&& 31))).toInt8.toInt32), (.int (1 : Int32)), (.ref aB)]
  obtain ⟨cl7, Ar7, qk7, Sz7, qz7, Ha7, Gf7⟩ := id V3
  obtain ⟨T7, h7, X7, e7, W7, st7⟩ := stB X5 hx hZ e5 Ar7 (inb_of Sz7 ⟨by decide, by decide⟩) (g := (mkF m 52 #[rv aB, iv (1 : Int32), iv cc] [(.int ((cc >>> ((8 : Int32) &&& 31))).toInt8.toInt32), (.int (1 : Int32)), (.ref aB)])) rfl rfl (hb hby dj52_4_52)
  have N7 := Fr.snoc X7 N3 lB
  have V7 : Arv Z h7 aB kB .byte (2 : Int32) [(.int (nar .byte ((cc >>> ((0 : Int32) &&& 31))).toInt8.toInt32)), (.int (nar .byte ((cc >>> ((8 : Int32) &&& 31))).toInt8.toInt32))] (.int (0 : Int32)) := Arv.set Ar7 qk7 Sz7 qz7 Ha7 Gf7 (fits_nar_byte _) W7 1 (by decide) (by simp)
  refine Goes.st st7 ?_
  have KK8 := KK4.wr W7 (Or.inl (List.mem_of_getElem? (i := 0) rfl))
  have Z7 : n0 ≤ h7.size := by have := W7.size; have := Z3; omega
  show Gs p e below _ T7 m 53 #[rv aB, iv (1 : Int32), iv cc] []
  refine Goes.retV X7 hx hret (hb hby dj52_4_53) (lvN X7 hlk (fun _ => rfl) ?_ (by decide) (by decide))
  rw [e7]
  exact ⟨rfl, N7, KK8, V7⟩
theorem own_idem (x : Int32) : nar .char x.toUInt32.toUInt16.toUInt32.toInt32 = x.toUInt32.toUInt16.toUInt32.toInt32 := by
  have a := c_i2c x
  have b := c_i2c x.toUInt32.toUInt16.toUInt32.toInt32
  apply Int32.toInt_inj.mp
  show (x.toUInt32.toUInt16.toUInt32.toInt32).toUInt32.toUInt16.toUInt32.toInt32.toInt = _
  omega
theorem dj52_5_0 : decode jdk_52_method_5_code 0 = .ok (.getstatic 44, 3) := by decide +kernel
theorem dj52_5_3 : decode jdk_52_method_5_code 3 = .ok (.ifCond .ne 25, 3) := by decide +kernel
theorem dj52_5_6 : decode jdk_52_method_5_code 6 = .ok (.iload_n 1, 1) := by decide +kernel
theorem dj52_5_7 : decode jdk_52_method_5_code 7 = .ok (.ifCond .lt 11, 3) := by decide +kernel
theorem dj52_5_10 : decode jdk_52_method_5_code 10 = .ok (.iload_n 1, 1) := by decide +kernel
theorem dj52_5_11 : decode jdk_52_method_5_code 11 = .ok (.aload_n 0, 1) := by decide +kernel
theorem dj52_5_12 : decode jdk_52_method_5_code 12 = .ok (.invokestatic 48, 3) := by decide +kernel
theorem dj52_5_15 : decode jdk_52_method_5_code 15 = .ok (.if_icmp .lt 13, 3) := by decide +kernel
theorem dj52_5_18 : decode jdk_52_method_5_code 18 = .ok (.new 52, 3) := by decide +kernel
theorem dj52_5_21 : decode jdk_52_method_5_code 21 = .ok (.dup, 1) := by decide +kernel
theorem dj52_5_22 : decode jdk_52_method_5_code 22 = .ok (.ldc 54, 2) := by decide +kernel
theorem dj52_5_24 : decode jdk_52_method_5_code 24 = .ok (.invokespecial 56, 3) := by decide +kernel
theorem dj52_5_27 : decode jdk_52_method_5_code 27 = .ok (.athrow, 1) := by decide +kernel
theorem dj52_5_28 : decode jdk_52_method_5_code 28 = .ok (.iload_n 1, 1) := by decide +kernel
theorem dj52_5_29 : decode jdk_52_method_5_code 29 = .ok (.iconst 1, 1) := by decide +kernel
theorem dj52_5_30 : decode jdk_52_method_5_code 30 = .ok (.ishl, 1) := by decide +kernel
theorem dj52_5_31 : decode jdk_52_method_5_code 31 = .ok (.istore_n 1, 1) := by decide +kernel
theorem dj52_5_32 : decode jdk_52_method_5_code 32 = .ok (.aload_n 0, 1) := by decide +kernel
theorem dj52_5_33 : decode jdk_52_method_5_code 33 = .ok (.iload_n 1, 1) := by decide +kernel
theorem dj52_5_34 : decode jdk_52_method_5_code 34 = .ok (.iinc 1 1, 3) := by decide +kernel
theorem dj52_5_37 : decode jdk_52_method_5_code 37 = .ok (.baload, 1) := by decide +kernel
theorem dj52_5_38 : decode jdk_52_method_5_code 38 = .ok (.sipush 255, 3) := by decide +kernel
theorem dj52_5_41 : decode jdk_52_method_5_code 41 = .ok (.iand, 1) := by decide +kernel
theorem dj52_5_42 : decode jdk_52_method_5_code 42 = .ok (.getstatic 59, 3) := by decide +kernel
theorem dj52_5_45 : decode jdk_52_method_5_code 45 = .ok (.ishl, 1) := by decide +kernel
theorem dj52_5_46 : decode jdk_52_method_5_code 46 = .ok (.aload_n 0, 1) := by decide +kernel
theorem dj52_5_47 : decode jdk_52_method_5_code 47 = .ok (.iload_n 1, 1) := by decide +kernel
theorem dj52_5_48 : decode jdk_52_method_5_code 48 = .ok (.baload, 1) := by decide +kernel
theorem dj52_5_49 : decode jdk_52_method_5_code 49 = .ok (.sipush 255, 3) := by decide +kernel
theorem dj52_5_52 : decode jdk_52_method_5_code 52 = .ok (.iand, 1) := by decide +kernel
theorem dj52_5_53 : decode jdk_52_method_5_code 53 = .ok (.getstatic 63, 3) := by decide +kernel
theorem dj52_5_56 : decode jdk_52_method_5_code 56 = .ok (.ishl, 1) := by decide +kernel
theorem dj52_5_57 : decode jdk_52_method_5_code 57 = .ok (.ior, 1) := by decide +kernel
theorem dj52_5_58 : decode jdk_52_method_5_code 58 = .ok (.i2c, 1) := by decide +kernel
theorem dj52_5_59 : decode jdk_52_method_5_code 59 = .ok (.ireturn, 1) := by decide +kernel
theorem ef_Gc10 (m : MethodId) (x0 : Addr) (x1 : Int32) : entryFrame m #[(.ref x0), (.int x1)] 2 = mkF m 0 #[rv x0, iv x1] [] := by first | (simp [entryFrame, mkF, argsToLocals, Value.category]; done) | rfl
def QGc10 (Z : State) (aB : Addr) (kB : ClassId) (w0 w1 : Int32) (h0 : Heap) (n0 : Nat) (v : Option Value) (h : Heap) (L : List Loc) : Prop := v = some (.int (gC w0 w1)) ∧ Fr n0 L ∧ h = h0
set_option maxRecDepth 65536 in
set_option maxHeartbeats 40000000 in
theorem rmGc10 (l : Launch) (Z : State) (a0 : Array Value) (hw : ∀ d ∈ tables_1, d.before a0 Z = true) (ws : List Jvm.Cond) (aB : Addr) (kB : ClassId) (w0 w1 : Int32) (h0 : Heap) (n0 : Nat) (Z0 : n0 ≤ h0.size) (Sd : Sta Z h0 "java/lang/StringUTF16" "$assertionsDisabled" "Z" (.int (1 : Int32))) (Sh : Sta Z h0 "java/lang/StringUTF16" "HI_BYTE_SHIFT" "I" (.int (0 : Int32))) (Sl : Sta Z h0 "java/lang/StringUTF16" "LO_BYTE_SHIFT" "I" (.int (8 : Int32))) (VB : Arv Z h0 aB kB .byte (2 : Int32) [(.int w0), (.int w1)] (.int (0 : Int32))) :
    MetFree l mN3 (head1 (Jvm.Cond.code mN3 jdk_52_method_5_code 2 (some .char) :: ws) ({ frames := 0, cells := 0, slots := 0, locals := 0 } : Room)) (fun aa U => aa = #[(.ref aB), (.int (0 : Int32))] ∧ Z.Warmed39 U.vm ∧ U.heap = h0) (fun _ _ _ _ _ => True) (fun _ u1_ o_ u2_ => ∃ v_ l_, o_ = .returned v_ ∧ QGc10 Z aB kB w0 w1 h0 n0 v_ u2_.heap l_ ∧ FrameEnd u1_ o_ u2_ l_ ({ frames := 0, cells := 0, slots := 0, locals := 0 } : Room).cells ({ frames := 0, cells := 0, slots := 0, locals := 0 } : Room).slots) := by
  refine MetFree.of_bodySF (plainFor_of_name pn_java_lang_StringUTF16) hisR ?_
  intro p e s m args below meth c s₁ Bd hml0 hP hK
  obtain ⟨rfl, hZ, hh⟩ := hP
  have hx := Bd.exec
  have hby := Bd.bytes
  have hlk := BodyLoose.notSynchronized Bd
  have hret := Bd.returns
  have hml : c.maxLocals = 2 := hml0
  have hown : s.vm.findClass "java/lang/StringUTF16" = some m.cls := findClass_of_methodNamed Bd.named
  have hnm := (name_of_methodNamed Bd.named Bd.method).1
  have X0 : Stand p l e ({ frames := 0, cells := 0, slots := 0, locals := 0 } : Room) s m #[(.ref aB), (.int (0 : Int32))] below meth c s₁ [] 0 0 := Stand.of_body Bd
  have e0 : s₁.heap = h0 := by rw [← hh, Bd.state]; rfl
  have N0 := Fr.nil n0
  refine Goes.st (E := (EN s (QGc10 Z aB kB w0 w1 h0 n0) ({ frames := 0, cells := 0, slots := 0, locals := 0 } : Room).cells ({ frames := 0, cells := 0, slots := 0, locals := 0 } : Room).slots)) (fun tg kg => castTop (ef_Gc10 m aB (0 : Int32)) kg) ?_
  show Gs p e below _ s₁ m 0 #[rv aB, iv (0 : Int32)] []
  obtain ⟨T1, X1, e1, st1⟩ := getS X0 hx hZ hown (host := "") (hwk hw 88 rfl) Via.refl e0 Sd (g := (mkF m 0 #[rv aB, iv (0 : Int32)] [])) rfl (hb hby dj52_5_0)
  refine Goes.st st1 ?_
  show Gs p e below _ T1 m 3 #[rv aB, iv (0 : Int32)] [(.int (1 : Int32))]
  refine gifYes X1 hx (pc' := 28) (hb hby dj52_5_3) (by decide) (by decide) (by decide) ?_
  show Gs p e below _ T1 m 28 #[rv aB, iv (0 : Int32)] []
  refine giloadN X1 hx (hb hby dj52_5_28) rfl ?_
  refine giconst X1 hx (hb hby dj52_5_29) ?_
  show Gs p e below _ T1 m 30 #[rv aB, iv (0 : Int32)] [(.int (1 : Int32)), (.int (0 : Int32))]
  refine Goes.st (fun tg kg => XT.ishl X1.here hx rfl (hb hby dj52_5_30) rfl kg) ?_
  show Gs p e below _ T1 m 31 #[rv aB, iv (0 : Int32)] [(.int ((0 : Int32) <<< ((1 : Int32) &&& 31)))]
  rw [show ((0 : Int32) <<< ((1 : Int32) &&& 31)) = (0 : Int32) from by decide]
  show Gs p e below _ T1 m 31 #[rv aB, iv (0 : Int32)] [(.int (0 : Int32))]
  refine gistoreN X1 hx (hb hby dj52_5_31) trivial (l' := #[rv aB, iv (0 : Int32)]) rfl ?_
  refine galoadN X1 hx (hb hby dj52_5_32) rfl rfl ?_
  refine giloadN X1 hx (hb hby dj52_5_33) rfl ?_
  refine Goes.st (fun tg kg => XS.iinc X1.here hx rfl (hb hby dj52_5_34) rfl (l' := #[rv aB, iv (1 : Int32)]) rfl kg) ?_
  show Gs p e below _ T1 m 37 #[rv aB, iv (1 : Int32)] [(.int (0 : Int32)), (.ref aB)]
  obtain ⟨cl2, Ar2, qk2, Sz2, qz2, Ha2, Gf2⟩ := id VB
  have in2 := inb_of (j := (0 : Int32)) Sz2 ⟨by decide, by decide⟩
  refine Goes.st (fun tg kg => X1.baloadBytes hx (j := (0 : Int32)) (v := (.int w0)) (by rw [e1]; exact Ar2.1) (State.isArrayOf_alike hZ.alike Ar2.2.1) Ar2.2.2 in2 (Ha2.at in2 rfl) (g := (mkF m 37 #[rv aB, iv (1 : Int32)] [(.int (0 : Int32)), (.ref aB)])) rfl rfl (hb hby dj52_5_37) tg kg) ?_
  show Gs p e below _ T1 m 38 #[rv aB, iv (1 : Int32)] [(.int w0)]
  refine Goes.st (fun tg kg => XS.sipush X1.here hx rfl (hb hby dj52_5_38) kg) ?_
  refine giand X1 hx (hb hby dj52_5_41) trivial ?_
  obtain ⟨T3, X3, e3, st3⟩ := getS X1 hx hZ hown (host := "") (hwk hw 89 rfl) Via.refl e1 Sh (g := (mkF m 42 #[rv aB, iv (1 : Int32)] [(.int (w0 &&& (255 : Int32)))])) rfl (hb hby dj52_5_42)
  refine Goes.st st3 ?_
  show Gs p e below _ T3 m 45 #[rv aB, iv (1 : Int32)] [(.int (0 : Int32)), (.int (w0 &&& (255 : Int32)))]
  refine Goes.st (fun tg kg => XT.ishl X3.here hx rfl (hb hby dj52_5_45) rfl kg) ?_
  show Gs p e below _ T3 m 46 #[rv aB, iv (1 : Int32)] [(.int ((w0 &&& (255 : Int32)) <<< ((0 : Int32) &&& 31)))]
  refine galoadN X3 hx (hb hby dj52_5_46) rfl rfl ?_
  refine giloadN X3 hx (hb hby dj52_5_47) rfl ?_
  show Gs p e below _ T3 m 48 #[rv aB, iv (1 : Int32)] [(.int (1 : Int32)), (.ref aB), (.int ((w0 &&& (255 : Int32)) <<< ((0 : Int32) &&& 31)))]
  obtain ⟨cl4, Ar4, qk4, Sz4, qz4, Ha4, Gf4⟩ := id VB
  have in4 := inb_of (j := (1 : Int32)) Sz4 ⟨by decide, by decide⟩
  refine Goes.st (fun tg kg => X3.baloadBytes hx (j := (1 : Int32)) (v := (.int w1)) (by rw [e3]; exact Ar4.1) (State.isArrayOf_alike hZ.alike Ar4.2.1) Ar4.2.2 in4 (Ha4.at in4 rfl) (g := (mkF m 48 #[rv aB, iv (1 : Int32)] [(.int (1 : Int32)), (.ref aB), (.int ((w0 &&& (255 : Int32)) <<< ((0 : Int32) &&& 31)))])) rfl rfl (hb hby dj52_5_48) tg kg) ?_
  show Gs p e below _ T3 m 49 #[rv aB, iv (1 : Int32)] [(.int w1), (.int ((w0 &&& (255 : Int32)) <<< ((0 : Int32) &&& 31)))]
  refine Goes.st (fun tg kg => XS.sipush X3.here hx rfl (hb hby dj52_5_49) kg) ?_
  refine giand X3 hx (hb hby dj52_5_52) trivial ?_
  obtain ⟨T5, X5, e5, st5⟩ := getS X3 hx hZ hown (host := "") (hwk hw 90 rfl) Via.refl e3 Sl (g := (mkF m 53 #[rv aB, iv (1 : Int32)] [(.int (w1 &&& (255 : Int32))), (.int ((w0 &&& (255 : Int32)) <<< ((0 : Int32) &&& 31)))])) rfl (hb hby dj52_5_53)
  refine Goes.st st5 ?_
  show Gs p e below _ T5 m 56 #[rv aB, iv (1 : Int32)] [(.int (8 : Int32)), (.int (w1 &&& (255 : Int32))), (.int ((w0 &&& (255 : Int32)) <<< ((0 : Int32) &&& 31)))]
  refine Goes.st (fun tg kg => XT.ishl X5.here hx rfl (hb hby dj52_5_56) rfl kg) ?_
  show Gs p e below _ T5 m 57 #[rv aB, iv (1 : Int32)] [(.int ((w1 &&& (255 : Int32)) <<< ((8 : Int32) &&& 31))), (.int ((w0 &&& (255 : Int32)) <<< ((0 : Int32) &&& 31)))]
  refine Goes.st (fun tg kg => XT.ior X5.here hx rfl (hb hby dj52_5_57) rfl kg) ?_
  show Gs p e below _ T5 m 58 #[rv aB, iv (1 : Int32)] [(.int (((w0 &&& (255 : Int32)) <<< ((0 : Int32) &&& 31)) ||| ((w1 &&& (255 : Int32)) <<< ((8 : Int32) &&& 31))))]
  refine Goes.st (fun tg kg => XT.i2c X5.here hx rfl (hb hby dj52_5_58) rfl kg) ?_
  show Gs p e below _ T5 m 59 #[rv aB, iv (1 : Int32)] [(.int ((((w0 &&& (255 : Int32)) <<< ((0 : Int32) &&& 31)) ||| ((w1 &&& (255 : Int32)) <<< ((8 : Int32) &&& 31)))).toUInt32.toUInt16.toUInt32.toInt32)]
  refine Goes.retN X5 hx hret (by simp) (hb hby dj52_5_59) (own_idem _) (lvN X5 hlk (vsome hret) ?_ (by decide) (by decide))
  rw [e5]
  exact ⟨rfl, N0, rfl⟩
theorem dj52_14_0 : decode jdk_52_method_14_code 0 = .ok (.iload_n 2, 1) := by decide +kernel
theorem dj52_14_1 : decode jdk_52_method_14_code 1 = .ok (.invokestatic 107, 3) := by decide +kernel
theorem dj52_14_4 : decode jdk_52_method_14_code 4 = .ok (.astore_n 3, 1) := by decide +kernel
theorem dj52_14_5 : decode jdk_52_method_14_code 5 = .ok (.iconst 0, 1) := by decide +kernel
theorem dj52_14_6 : decode jdk_52_method_14_code 6 = .ok (.istore 4, 2) := by decide +kernel
theorem dj52_14_8 : decode jdk_52_method_14_code 8 = .ok (.iload 4, 2) := by decide +kernel
theorem dj52_14_10 : decode jdk_52_method_14_code 10 = .ok (.iload_n 2, 1) := by decide +kernel
theorem dj52_14_11 : decode jdk_52_method_14_code 11 = .ok (.if_icmp .ge 21, 3) := by decide +kernel
theorem dj52_14_14 : decode jdk_52_method_14_code 14 = .ok (.aload_n 3, 1) := by decide +kernel
theorem dj52_14_15 : decode jdk_52_method_14_code 15 = .ok (.iload 4, 2) := by decide +kernel
theorem dj52_14_17 : decode jdk_52_method_14_code 17 = .ok (.aload_n 0, 1) := by decide +kernel
theorem dj52_14_18 : decode jdk_52_method_14_code 18 = .ok (.iload_n 1, 1) := by decide +kernel
theorem dj52_14_19 : decode jdk_52_method_14_code 19 = .ok (.caload, 1) := by decide +kernel
theorem dj52_14_20 : decode jdk_52_method_14_code 20 = .ok (.invokestatic 111, 3) := by decide +kernel
theorem dj52_14_23 : decode jdk_52_method_14_code 23 = .ok (.iinc 1 1, 3) := by decide +kernel
theorem dj52_14_26 : decode jdk_52_method_14_code 26 = .ok (.iinc 4 1, 3) := by decide +kernel
theorem dj52_14_29 : decode jdk_52_method_14_code 29 = .ok (.goto (-21), 3) := by decide +kernel
theorem dj52_14_32 : decode jdk_52_method_14_code 32 = .ok (.aload_n 3, 1) := by decide +kernel
theorem dj52_14_33 : decode jdk_52_method_14_code 33 = .ok (.areturn, 1) := by decide +kernel
theorem pd__I__B_b35 : parseMethodDescriptor "(I)[B" = some ⟨[.int], some (.array .byte)⟩ := by decide +kernel
theorem pd___BII_V_1289 : parseMethodDescriptor "([BII)V" = some ⟨[(.array .byte), .int, .int], none⟩ := by decide +kernel
theorem ef_By1 (m : MethodId) (x0 : Addr) (x1 : Int32) (x2 : Int32) : entryFrame m #[(.ref x0), (.int x1), (.int x2)] 5 = mkF m 0 #[rv x0, iv x1, iv x2, .unset, .unset] [] := by first | (simp [entryFrame, mkF, argsToLocals, Value.category]; done) | rfl
def QBy1 (Z : State) (aC : Addr) (kC : ClassId) (c0 : Int32) (h0 : Heap) (n0 : Nat) (v : Option Value) (h : Heap) (L : List Loc) : Prop := ∃ (b : Addr) (kB : ClassId), v = some (.ref b) ∧ Fr n0 L ∧ Keep h0 h [] ∧ h0.size ≤ b ∧ n0 ≤ b ∧ Arv Z h b kB .byte (2 : Int32) [(.int (nar .byte (c0 >>> ((0 : Int32) &&& 31)).toInt8.toInt32)), (.int (nar .byte (c0 >>> ((8 : Int32) &&& 31)).toInt8.toInt32))] (.int (0 : Int32))
set_option maxRecDepth 65536 in
set_option maxHeartbeats 40000000 in
theorem rmBy1 (l : Launch) (Z : State) (a0 : Array Value) (hw : ∀ d ∈ tables_1, d.before a0 Z = true) (ws : List Jvm.Cond) (aC : Addr) (kC : ClassId) (c0 : Int32) (h0 : Heap) (n0 : Nat) (Z0 : n0 ≤ h0.size) (Sd : Sta Z h0 "java/lang/StringUTF16" "$assertionsDisabled" "Z" (.int (1 : Int32))) (Sh : Sta Z h0 "java/lang/StringUTF16" "HI_BYTE_SHIFT" "I" (.int (0 : Int32))) (Sl : Sta Z h0 "java/lang/StringUTF16" "LO_BYTE_SHIFT" "I" (.int (8 : Int32))) (VC : Arv Z h0 aC kC .char (1 : Int32) [(.int c0)] (.int (0 : Int32))) :
    MetFree l mN4 (head1 (Jvm.Cond.code mN4 jdk_52_method_14_code 5 (some (.array .byte)) :: ws) ({ frames := 2, cells := 1, slots := 2, locals := 24 } : Room)) (fun aa U => aa = #[(.ref aC), (.int (0 : Int32)), (.int (1 : Int32))] ∧ Z.Warmed39 U.vm ∧ U.heap = h0) (fun _ _ _ _ _ => True) (fun _ u1_ o_ u2_ => ∃ v_ l_, o_ = .returned v_ ∧ QBy1 Z aC kC c0 h0 n0 v_ u2_.heap l_ ∧ FrameEnd u1_ o_ u2_ l_ ({ frames := 2, cells := 1, slots := 2, locals := 24 } : Room).cells ({ frames := 2, cells := 1, slots := 2, locals := 24 } : Room).slots) := by
  refine MetFree.of_bodySF (plainFor_of_name pn_java_lang_StringUTF16) hisR ?_
  intro p e s m args below meth c s₁ Bd hml0 hP hK
  obtain ⟨rfl, hZ, hh⟩ := hP
  have hx := Bd.exec
  have hby := Bd.bytes
  have hlk := BodyLoose.notSynchronized Bd
  have hret := Bd.returns
  have hml : c.maxLocals = 5 := hml0
  have hown : s.vm.findClass "java/lang/StringUTF16" = some m.cls := findClass_of_methodNamed Bd.named
  have hnm := (name_of_methodNamed Bd.named Bd.method).1
  have X0 : Stand p l e ({ frames := 2, cells := 1, slots := 2, locals := 24 } : Room) s m #[(.ref aC), (.int (0 : Int32)), (.int (1 : Int32))] below meth c s₁ [] 0 0 := Stand.of_body Bd
  have e0 : s₁.heap = h0 := by rw [← hh, Bd.state]; rfl
  have N0 := Fr.nil n0
  refine Goes.st (E := (EN s (QBy1 Z aC kC c0 h0 n0) ({ frames := 2, cells := 1, slots := 2, locals := 24 } : Room).cells ({ frames := 2, cells := 1, slots := 2, locals := 24 } : Room).slots)) (fun tg kg => castTop (ef_By1 m aC (0 : Int32) (1 : Int32)) kg) ?_
  have K0 : Keep h0 h0 [] := Keep.refl _ _
  show Gs p e below _ s₁ m 0 #[rv aC, iv (0 : Int32), iv (1 : Int32), .unset, .unset] []
  refine giloadN X0 hx (hb hby dj52_14_0) rfl ?_
  have lt1 : aC < h0.size := VC.lt
  obtain ⟨_, _, ⟨T2, L2, k2, n2⟩, -, X2, ⟨Lc2, hQ2, l2, y2, z2⟩, st2⟩ := Jvm.LawKit.callS X0 hx (y := mN1) hown (mvT hZ (hwk hw 78 rfl)) (mvT hZ (hwk hw 79 rfl)) (mvT hZ (hwk hw 21 rfl)) (mvT hZ (hwk hw 80 rfl)) (by decide) (backOf (W := 0) (rmNf1 l Z a0 hw [] () h0 n0 Z0 ) hZ (hwk hw 80 rfl) (hwk hw 21 rfl) (by decide) (by decide)) (g := (mkF m 1 #[rv aC, iv (0 : Int32), iv (1 : Int32), .unset, .unset] [(.int (1 : Int32))])) rfl (by rw [hml]; rfl) (argsL := [(.int (1 : Int32))]) (rest := []) (lenOf pd__I__B_b35 rfl) rfl (by show 2 * 0 + _ ≤ _; exact Nat.le_of_eq rfl) (hb hby dj52_14_1) (fun _ _ => ⟨rfl, e0, (by decide : 0 + 1 ≤ 1), (by decide : 0 + 2 ≤ 2)⟩)
  dsimp only [Pt.U, Pt.locs, Pt.cells, Pt.slots] at X2 l2 y2 z2 st2 hQ2
  subst l2 y2 z2
  obtain ⟨b2, kB2, rfl, N2q, K2, szq2, loq2, V2⟩ := hQ2
  have KK3 := K0.trans K2 all0
  have ne_aC_b2 : aC ≠ b2 := Nat.ne_of_lt (Nat.lt_of_lt_of_le lt1 szq2)
  have sz_b2 : h0.size ≤ b2 := by have := KK3.1; have := szq2; omega
  have Z2 : n0 ≤ T2.heap.size := Nat.le_trans Z0 K2.1
  have N2 := Fr.app N0 N2q
  refine Goes.st st2 ?_
  show Gs p e below _ T2 m 4 #[rv aC, iv (0 : Int32), iv (1 : Int32), .unset, .unset] [(.ref b2)]
  refine gastoreN X2 hx (hb hby dj52_14_4) trivial rfl (l' := #[rv aC, iv (0 : Int32), iv (1 : Int32), rv b2, .unset]) rfl ?_
  refine giconst X2 hx (hb hby dj52_14_5) ?_
  refine gistore X2 hx (hb hby dj52_14_6) trivial (l' := #[rv aC, iv (0 : Int32), iv (1 : Int32), rv b2, iv (0 : Int32)]) rfl ?_
  refine giload X2 hx (hb hby dj52_14_8) rfl ?_
  refine giloadN X2 hx (hb hby dj52_14_10) rfl ?_
  show Gs p e below _ T2 m 11 #[rv aC, iv (0 : Int32), iv (1 : Int32), rv b2, iv (0 : Int32)] [(.int (1 : Int32)), (.int (0 : Int32))]
  refine gicmpNo X2 hx (hb hby dj52_14_11) (by decide) ?_
  show Gs p e below _ T2 m 14 #[rv aC, iv (0 : Int32), iv (1 : Int32), rv b2, iv (0 : Int32)] []
  refine galoadN X2 hx (hb hby dj52_14_14) rfl rfl ?_
  refine giload X2 hx (hb hby dj52_14_15) rfl ?_
  refine galoadN X2 hx (hb hby dj52_14_17) rfl rfl ?_
  refine giloadN X2 hx (hb hby dj52_14_18) rfl ?_
  show Gs p e below _ T2 m 19 #[rv aC, iv (0 : Int32), iv (1 : Int32), rv b2, iv (0 : Int32)] [(.int (0 : Int32)), (.ref aC), (.int (0 : Int32)), (.ref b2)]
  have f4 := (VC.keep K2 nin0)
  obtain ⟨cl5, Ar5, qk5, Sz5, qz5, Ha5, Gf5⟩ := id f4
  have in5 := inb_of (j := (0 : Int32)) Sz5 ⟨by decide, by decide⟩
  refine Goes.st (fun tg kg => X2.caload hx (j := (0 : Int32)) (v := (.int c0)) Ar5.1 (State.isArrayOf_alike hZ.alike Ar5.2.1) Ar5.2.2 in5 (Ha5.at in5 rfl) (g := (mkF m 19 #[rv aC, iv (0 : Int32), iv (1 : Int32), rv b2, iv (0 : Int32)] [(.int (0 : Int32)), (.ref aC), (.int (0 : Int32)), (.ref b2)])) rfl rfl (hb hby dj52_14_19) tg kg) ?_
  show Gs p e below _ T2 m 20 #[rv aC, iv (0 : Int32), iv (1 : Int32), rv b2, iv (0 : Int32)] [(.int c0), (.int (0 : Int32)), (.ref b2)]
  have f6 := (Sd.kept K2 ns0)
  have f7 := (Sh.kept K2 ns0)
  have f8 := (Sl.kept K2 ns0)
  obtain ⟨_, _, ⟨T9, L9, k9, n9⟩, -, X9, ⟨Lc9, hQ9, l9, y9, z9⟩, st9⟩ := Jvm.LawKit.callS X2 hx (y := mN2) hown (mvT hZ (hwk hw 85 rfl)) (mvT hZ (hwk hw 86 rfl)) (mvT hZ (hwk hw 21 rfl)) (mvT hZ (hwk hw 87 rfl)) (by decide) (backOf (W := 0) (rmPc10 l Z a0 hw [] b2 kB2 c0 (0 : Int32) (0 : Int32) T2.heap n0 Z2 f6 f7 f8 loq2 V2) hZ (hwk hw 87 rfl) (hwk hw 21 rfl) (by decide) (by decide)) (g := (mkF m 20 #[rv aC, iv (0 : Int32), iv (1 : Int32), rv b2, iv (0 : Int32)] [(.int c0), (.int (0 : Int32)), (.ref b2)])) rfl (by rw [hml]; rfl) (argsL := [(.ref b2), (.int (0 : Int32)), (.int c0)]) (rest := []) (lenOf pd___BII_V_1289 rfl) rfl (by show 2 * 0 + _ ≤ _; exact Nat.le_of_eq rfl) (hb hby dj52_14_20) (fun _ _ => ⟨rfl, rfl, (by decide : 1 + 0 ≤ 1), (by decide : 2 + 0 ≤ 2)⟩)
  dsimp only [Pt.U, Pt.locs, Pt.cells, Pt.slots] at X9 l9 y9 z9 st9 hQ9
  subst l9 y9 z9
  obtain ⟨rfl, N9q, K9, V9⟩ := hQ9
  have KK10 := KK3.trans K9 (allS (Or.inr sz_b2) all0)
  have Z9 : n0 ≤ T9.heap.size := Nat.le_trans Z2 K9.1
  have N9 := Fr.app N2 N9q
  refine Goes.st st9 ?_
  show Gs p e below _ T9 m 23 #[rv aC, iv (0 : Int32), iv (1 : Int32), rv b2, iv (0 : Int32)] []
  refine Goes.st (fun tg kg => XS.iinc X9.here hx rfl (hb hby dj52_14_23) rfl (l' := #[rv aC, iv (1 : Int32), iv (1 : Int32), rv b2, iv (0 : Int32)]) rfl kg) ?_
  refine Goes.st (fun tg kg => XS.iinc X9.here hx rfl (hb hby dj52_14_26) rfl (l' := #[rv aC, iv (1 : Int32), iv (1 : Int32), rv b2, iv (1 : Int32)]) rfl kg) ?_
  show Gs p e below _ T9 m 29 #[rv aC, iv (1 : Int32), iv (1 : Int32), rv b2, iv (1 : Int32)] []
  refine ggoto X9 hx (pc' := 8) (hb hby dj52_14_29) (by decide) (by decide) ?_
  show Gs p e below _ T9 m 8 #[rv aC, iv (1 : Int32), iv (1 : Int32), rv b2, iv (1 : Int32)] []
  refine giload X9 hx (hb hby dj52_14_8) rfl ?_
  refine giloadN X9 hx (hb hby dj52_14_10) rfl ?_
  show Gs p e below _ T9 m 11 #[rv aC, iv (1 : Int32), iv (1 : Int32), rv b2, iv (1 : Int32)] [(.int (1 : Int32)), (.int (1 : Int32))]
  refine gicmpYes X9 hx (pc' := 32) (hb hby dj52_14_11) (by decide) (by decide) (by decide) ?_
  show Gs p e below _ T9 m 32 #[rv aC, iv (1 : Int32), iv (1 : Int32), rv b2, iv (1 : Int32)] []
  refine galoadN X9 hx (hb hby dj52_14_32) rfl rfl ?_
  show Gs p e below _ T9 m 33 #[rv aC, iv (1 : Int32), iv (1 : Int32), rv b2, iv (1 : Int32)] [(.ref b2)]
  refine Goes.retA X9 hx hret rfl rfl rfl (hb hby dj52_14_33) (lvN X9 hlk (vsome hret) ?_ (by decide) (by decide))
  exact ⟨b2, kB2, rfl, N9, KK10, sz_b2, loq2, V9⟩
theorem dj52_21_0 : decode jdk_52_method_21_code 0 = .ok (.iconst 0, 1) := by decide +kernel
theorem dj52_21_1 : decode jdk_52_method_21_code 1 = .ok (.istore 5, 2) := by decide +kernel
theorem dj52_21_3 : decode jdk_52_method_21_code 3 = .ok (.iload 5, 2) := by decide +kernel
theorem dj52_21_5 : decode jdk_52_method_21_code 5 = .ok (.iload 4, 2) := by decide +kernel
theorem dj52_21_7 : decode jdk_52_method_21_code 7 = .ok (.if_icmp .ge 37, 3) := by decide +kernel
theorem dj52_21_10 : decode jdk_52_method_21_code 10 = .ok (.aload_n 0, 1) := by decide +kernel
theorem dj52_21_11 : decode jdk_52_method_21_code 11 = .ok (.iload_n 1, 1) := by decide +kernel
theorem dj52_21_12 : decode jdk_52_method_21_code 12 = .ok (.caload, 1) := by decide +kernel
theorem dj52_21_13 : decode jdk_52_method_21_code 13 = .ok (.istore 6, 2) := by decide +kernel
theorem dj52_21_15 : decode jdk_52_method_21_code 15 = .ok (.iload 6, 2) := by decide +kernel
theorem dj52_21_17 : decode jdk_52_method_21_code 17 = .ok (.sipush 255, 3) := by decide +kernel
theorem dj52_21_20 : decode jdk_52_method_21_code 20 = .ok (.if_icmp .le 6, 3) := by decide +kernel
theorem dj52_21_23 : decode jdk_52_method_21_code 23 = .ok (.iload 5, 2) := by decide +kernel
theorem dj52_21_25 : decode jdk_52_method_21_code 25 = .ok (.ireturn, 1) := by decide +kernel
theorem dj52_21_26 : decode jdk_52_method_21_code 26 = .ok (.aload_n 2, 1) := by decide +kernel
theorem dj52_21_27 : decode jdk_52_method_21_code 27 = .ok (.iload_n 3, 1) := by decide +kernel
theorem dj52_21_28 : decode jdk_52_method_21_code 28 = .ok (.iload 6, 2) := by decide +kernel
theorem dj52_21_30 : decode jdk_52_method_21_code 30 = .ok (.i2b, 1) := by decide +kernel
theorem dj52_21_31 : decode jdk_52_method_21_code 31 = .ok (.bastore, 1) := by decide +kernel
theorem dj52_21_32 : decode jdk_52_method_21_code 32 = .ok (.iinc 1 1, 3) := by decide +kernel
theorem dj52_21_35 : decode jdk_52_method_21_code 35 = .ok (.iinc 3 1, 3) := by decide +kernel
theorem dj52_21_38 : decode jdk_52_method_21_code 38 = .ok (.iinc 5 1, 3) := by decide +kernel
theorem dj52_21_41 : decode jdk_52_method_21_code 41 = .ok (.goto (-38), 3) := by decide +kernel
theorem dj52_21_44 : decode jdk_52_method_21_code 44 = .ok (.iload 4, 2) := by decide +kernel
theorem dj52_21_46 : decode jdk_52_method_21_code 46 = .ok (.ireturn, 1) := by decide +kernel
theorem ef_Cm10 (m : MethodId) (x0 : Addr) (x1 : Int32) (x2 : Addr) (x3 : Int32) (x4 : Int32) : entryFrame m #[(.ref x0), (.int x1), (.ref x2), (.int x3), (.int x4)] 7 = mkF m 0 #[rv x0, iv x1, rv x2, iv x3, iv x4, .unset, .unset] [] := by first | (simp [entryFrame, mkF, argsToLocals, Value.category]; done) | rfl
def QCm10 (Z : State) (aC : Addr) (kC : ClassId) (c0 : Int32) (aB : Addr) (kB : ClassId) (h0 : Heap) (n0 : Nat) (v : Option Value) (h : Heap) (L : List Loc) : Prop := ∃ (vs : List Value), v = some (.int (0 : Int32)) ∧ Fr n0 L ∧ Keep h0 h [aB] ∧ Arv Z h aB kB .byte (1 : Int32) vs (.int (0 : Int32))
set_option maxRecDepth 65536 in
set_option maxHeartbeats 40000000 in
theorem rmCm10 (l : Launch) (Z : State) (a0 : Array Value) (hw : ∀ d ∈ tables_1, d.before a0 Z = true) (ws : List Jvm.Cond) (aC : Addr) (kC : ClassId) (c0 : Int32) (aB : Addr) (kB : ClassId) (h0 : Heap) (n0 : Nat) (Z0 : n0 ≤ h0.size) (VC : Arv Z h0 aC kC .char (1 : Int32) [(.int c0)] (.int (0 : Int32))) (VB : Arv Z h0 aB kB .byte (1 : Int32) [(.int (0 : Int32))] (.int (0 : Int32))) (lB : n0 ≤ aB) (nCB : aC ≠ aB) (hc0 : (255 : Int32) < c0) (hr0 : 0 ≤ c0.toInt ∧ c0.toInt < 65536) :
    MetFree l mN5 (head1 (Jvm.Cond.code mN5 jdk_52_method_21_code 7 (some .int) :: ws) ({ frames := 0, cells := 0, slots := 0, locals := 0 } : Room)) (fun aa U => aa = #[(.ref aC), (.int (0 : Int32)), (.ref aB), (.int (0 : Int32)), (.int (1 : Int32))] ∧ Z.Warmed39 U.vm ∧ U.heap = h0) (fun _ _ _ _ _ => True) (fun _ u1_ o_ u2_ => ∃ v_ l_, o_ = .returned v_ ∧ QCm10 Z aC kC c0 aB kB h0 n0 v_ u2_.heap l_ ∧ FrameEnd u1_ o_ u2_ l_ ({ frames := 0, cells := 0, slots := 0, locals := 0 } : Room).cells ({ frames := 0, cells := 0, slots := 0, locals := 0 } : Room).slots) := by
  refine MetFree.of_bodySF (plainFor_of_name pn_java_lang_StringUTF16) hisR ?_
  intro p e s m args below meth c s₁ Bd hml0 hP hK
  obtain ⟨rfl, hZ, hh⟩ := hP
  have hx := Bd.exec
  have hby := Bd.bytes
  have hlk := BodyLoose.notSynchronized Bd
  have hret := Bd.returns
  have hml : c.maxLocals = 7 := hml0
  have hown : s.vm.findClass "java/lang/StringUTF16" = some m.cls := findClass_of_methodNamed Bd.named
  have hnm := (name_of_methodNamed Bd.named Bd.method).1
  have X0 : Stand p l e ({ frames := 0, cells := 0, slots := 0, locals := 0 } : Room) s m #[(.ref aC), (.int (0 : Int32)), (.ref aB), (.int (0 : Int32)), (.int (1 : Int32))] below meth c s₁ [] 0 0 := Stand.of_body Bd
  have e0 : s₁.heap = h0 := by rw [← hh, Bd.state]; rfl
  have N0 := Fr.nil n0
  refine Goes.st (E := (EN s (QCm10 Z aC kC c0 aB kB h0 n0) ({ frames := 0, cells := 0, slots := 0, locals := 0 } : Room).cells ({ frames := 0, cells := 0, slots := 0, locals := 0 } : Room).slots)) (fun tg kg => castTop (ef_Cm10 m aC (0 : Int32) aB (0 : Int32) (1 : Int32)) kg) ?_
  have K0 : Keep h0 h0 [aB] := Keep.refl _ _
  show Gs p e below _ s₁ m 0 #[rv aC, iv (0 : Int32), rv aB, iv (0 : Int32), iv (1 : Int32), .unset, .unset] []
  refine giconst X0 hx (hb hby dj52_21_0) ?_
  refine gistore X0 hx (hb hby dj52_21_1) trivial (l' := #[rv aC, iv (0 : Int32), rv aB, iv (0 : Int32), iv (1 : Int32), iv (0 : Int32), .unset]) rfl ?_
  refine giload X0 hx (hb hby dj52_21_3) rfl ?_
  refine giload X0 hx (hb hby dj52_21_5) rfl ?_
  show Gs p e below _ s₁ m 7 #[rv aC, iv (0 : Int32), rv aB, iv (0 : Int32), iv (1 : Int32), iv (0 : Int32), .unset] [(.int (1 : Int32)), (.int (0 : Int32))]
  refine gicmpNo X0 hx (hb hby dj52_21_7) (by decide) ?_
  show Gs p e below _ s₁ m 10 #[rv aC, iv (0 : Int32), rv aB, iv (0 : Int32), iv (1 : Int32), iv (0 : Int32), .unset] []
  refine galoadN X0 hx (hb hby dj52_21_10) rfl rfl ?_
  refine giloadN X0 hx (hb hby dj52_21_11) rfl ?_
  show Gs p e below _ s₁ m 12 #[rv aC, iv (0 : Int32), rv aB, iv (0 : Int32), iv (1 : Int32), iv (0 : Int32), .unset] [(.int (0 : Int32)), (.ref aC)]
  obtain ⟨cl1, Ar1, qk1, Sz1, qz1, Ha1, Gf1⟩ := id VC
  have in1 := inb_of (j := (0 : Int32)) Sz1 ⟨by decide, by decide⟩
  refine Goes.st (fun tg kg => X0.caload hx (j := (0 : Int32)) (v := (.int c0)) (by rw [e0]; exact Ar1.1) (State.isArrayOf_alike hZ.alike Ar1.2.1) Ar1.2.2 in1 (Ha1.at in1 rfl) (g := (mkF m 12 #[rv aC, iv (0 : Int32), rv aB, iv (0 : Int32), iv (1 : Int32), iv (0 : Int32), .unset] [(.int (0 : Int32)), (.ref aC)])) rfl rfl (hb hby dj52_21_12) tg kg) ?_
  show Gs p e below _ s₁ m 13 #[rv aC, iv (0 : Int32), rv aB, iv (0 : Int32), iv (1 : Int32), iv (0 : Int32), .unset] [(.int c0)]
  refine gistore X0 hx (hb hby dj52_21_13) trivial (l' := #[rv aC, iv (0 : Int32), rv aB, iv (0 : Int32), iv (1 : Int32), iv (0 : Int32), iv c0]) rfl ?_
  refine giload X0 hx (hb hby dj52_21_15) rfl ?_
  refine Goes.st (fun tg kg => XS.sipush X0.here hx rfl (hb hby dj52_21_17) kg) ?_
  show Gs p e below _ s₁ m 20 #[rv aC, iv (0 : Int32), rv aB, iv (0 : Int32), iv (1 : Int32), iv (0 : Int32), iv c0] [(.int (255 : Int32)), (.int c0)]
  refine gicmpNo X0 hx (hb hby dj52_21_20) (tlt hc0).2.2.2 ?_
  show Gs p e below _ s₁ m 23 #[rv aC, iv (0 : Int32), rv aB, iv (0 : Int32), iv (1 : Int32), iv (0 : Int32), iv c0] []
  refine giload X0 hx (hb hby dj52_21_23) rfl ?_
  show Gs p e below _ s₁ m 25 #[rv aC, iv (0 : Int32), rv aB, iv (0 : Int32), iv (1 : Int32), iv (0 : Int32), iv c0] [(.int (0 : Int32))]
  refine Goes.retI X0 hx hret (hb hby dj52_21_25) (lvN X0 hlk (vsome hret) ?_ (by decide) (by decide))
  rw [e0]
  exact ⟨_, rfl, N0, K0, VB⟩
theorem dj52_16_0 : decode jdk_52_method_16_code 0 = .ok (.iload_n 2, 1) := by decide +kernel
theorem dj52_16_1 : decode jdk_52_method_16_code 1 = .ok (.newarray .byte, 2) := by decide +kernel
theorem dj52_16_3 : decode jdk_52_method_16_code 3 = .ok (.astore_n 3, 1) := by decide +kernel
theorem dj52_16_4 : decode jdk_52_method_16_code 4 = .ok (.aload_n 0, 1) := by decide +kernel
theorem dj52_16_5 : decode jdk_52_method_16_code 5 = .ok (.iload_n 1, 1) := by decide +kernel
theorem dj52_16_6 : decode jdk_52_method_16_code 6 = .ok (.aload_n 3, 1) := by decide +kernel
theorem dj52_16_7 : decode jdk_52_method_16_code 7 = .ok (.iconst 0, 1) := by decide +kernel
theorem dj52_16_8 : decode jdk_52_method_16_code 8 = .ok (.iload_n 2, 1) := by decide +kernel
theorem dj52_16_9 : decode jdk_52_method_16_code 9 = .ok (.invokestatic 115, 3) := by decide +kernel
theorem dj52_16_12 : decode jdk_52_method_16_code 12 = .ok (.istore 4, 2) := by decide +kernel
theorem dj52_16_14 : decode jdk_52_method_16_code 14 = .ok (.iload 4, 2) := by decide +kernel
theorem dj52_16_16 : decode jdk_52_method_16_code 16 = .ok (.iload_n 2, 1) := by decide +kernel
theorem dj52_16_17 : decode jdk_52_method_16_code 17 = .ok (.if_icmp .eq 40, 3) := by decide +kernel
theorem dj52_16_20 : decode jdk_52_method_16_code 20 = .ok (.aload_n 0, 1) := by decide +kernel
theorem dj52_16_21 : decode jdk_52_method_16_code 21 = .ok (.iload_n 1, 1) := by decide +kernel
theorem dj52_16_22 : decode jdk_52_method_16_code 22 = .ok (.iload_n 2, 1) := by decide +kernel
theorem dj52_16_23 : decode jdk_52_method_16_code 23 = .ok (.invokestatic 119, 3) := by decide +kernel
theorem dj52_16_26 : decode jdk_52_method_16_code 26 = .ok (.astore 5, 2) := by decide +kernel
theorem dj52_16_28 : decode jdk_52_method_16_code 28 = .ok (.aload 5, 2) := by decide +kernel
theorem dj52_16_30 : decode jdk_52_method_16_code 30 = .ok (.iload 4, 2) := by decide +kernel
theorem dj52_16_32 : decode jdk_52_method_16_code 32 = .ok (.invokestatic 71, 3) := by decide +kernel
theorem dj52_16_35 : decode jdk_52_method_16_code 35 = .ok (.sipush 255, 3) := by decide +kernel
theorem dj52_16_38 : decode jdk_52_method_16_code 38 = .ok (.if_icmp .gt 16, 3) := by decide +kernel
theorem dj52_16_41 : decode jdk_52_method_16_code 41 = .ok (.aload 5, 2) := by decide +kernel
theorem dj52_16_43 : decode jdk_52_method_16_code 43 = .ok (.iconst 0, 1) := by decide +kernel
theorem dj52_16_44 : decode jdk_52_method_16_code 44 = .ok (.aload_n 3, 1) := by decide +kernel
theorem dj52_16_45 : decode jdk_52_method_16_code 45 = .ok (.iconst 0, 1) := by decide +kernel
theorem dj52_16_46 : decode jdk_52_method_16_code 46 = .ok (.iload_n 2, 1) := by decide +kernel
theorem dj52_16_47 : decode jdk_52_method_16_code 47 = .ok (.invokestatic 123, 3) := by decide +kernel
theorem dj52_16_50 : decode jdk_52_method_16_code 50 = .ok (.iload_n 2, 1) := by decide +kernel
theorem dj52_16_51 : decode jdk_52_method_16_code 51 = .ok (.if_icmp .eq 6, 3) := by decide +kernel
theorem dj52_16_54 : decode jdk_52_method_16_code 54 = .ok (.aload 5, 2) := by decide +kernel
theorem dj52_16_56 : decode jdk_52_method_16_code 56 = .ok (.areturn, 1) := by decide +kernel
theorem dj52_16_57 : decode jdk_52_method_16_code 57 = .ok (.aload_n 3, 1) := by decide +kernel
theorem dj52_16_58 : decode jdk_52_method_16_code 58 = .ok (.areturn, 1) := by decide +kernel
theorem pd___CI_BII_I_1ed0 : parseMethodDescriptor "([CI[BII)I" = some ⟨[(.array .char), .int, (.array .byte), .int, .int], some .int⟩ := by decide +kernel
theorem pd___CII__B_166f : parseMethodDescriptor "([CII)[B" = some ⟨[(.array .char), .int, .int], some (.array .byte)⟩ := by decide +kernel
theorem pd___BI_C_e03 : parseMethodDescriptor "([BI)C" = some ⟨[(.array .byte), .int], some .char⟩ := by decide +kernel
theorem ef_Cx10 (m : MethodId) (x0 : Addr) (x1 : Int32) (x2 : Int32) : entryFrame m #[(.ref x0), (.int x1), (.int x2)] 6 = mkF m 0 #[rv x0, iv x1, iv x2, .unset, .unset, .unset] [] := by first | (simp [entryFrame, mkF, argsToLocals, Value.category]; done) | rfl
def QCx10 (Z : State) (aC : Addr) (kC : ClassId) (c0 : Int32) (h0 : Heap) (n0 : Nat) (v : Option Value) (h : Heap) (L : List Loc) : Prop := ∃ (b : Addr) (kB : ClassId) (vs : List Value), v = some (.ref b) ∧ Fr n0 L ∧ Keep h0 h [] ∧ h0.size ≤ b ∧ n0 ≤ b ∧ Arv Z h b kB .byte (2 : Int32) vs (.int (0 : Int32))
set_option maxRecDepth 65536 in
set_option maxHeartbeats 40000000 in
theorem rmCx10 (l : Launch) (Z : State) (a0 : Array Value) (hw : ∀ d ∈ tables_1, d.before a0 Z = true) (ws : List Jvm.Cond) (aC : Addr) (kC : ClassId) (c0 : Int32) (h0 : Heap) (n0 : Nat) (Z0 : n0 ≤ h0.size) (Sd : Sta Z h0 "java/lang/StringUTF16" "$assertionsDisabled" "Z" (.int (1 : Int32))) (Sh : Sta Z h0 "java/lang/StringUTF16" "HI_BYTE_SHIFT" "I" (.int (0 : Int32))) (Sl : Sta Z h0 "java/lang/StringUTF16" "LO_BYTE_SHIFT" "I" (.int (8 : Int32))) (VC : Arv Z h0 aC kC .char (1 : Int32) [(.int c0)] (.int (0 : Int32))) (hc0 : (255 : Int32) < c0) (hr0 : 0 ≤ c0.toInt ∧ c0.toInt < 65536) :
    MetFree l mN6 (head1 (Jvm.Cond.code mN6 jdk_52_method_16_code 6 (some (.array .byte)) :: ws) ({ frames := 3, cells := 2, slots := 3, locals := 40 } : Room)) (fun aa U => aa = #[(.ref aC), (.int (0 : Int32)), (.int (1 : Int32))] ∧ Z.Warmed39 U.vm ∧ U.heap = h0) (fun _ _ _ _ _ => True) (fun _ u1_ o_ u2_ => ∃ v_ l_, o_ = .returned v_ ∧ QCx10 Z aC kC c0 h0 n0 v_ u2_.heap l_ ∧ FrameEnd u1_ o_ u2_ l_ ({ frames := 3, cells := 2, slots := 3, locals := 40 } : Room).cells ({ frames := 3, cells := 2, slots := 3, locals := 40 } : Room).slots) := by
  refine MetFree.of_bodySF (plainFor_of_name pn_java_lang_StringUTF16) hisR ?_
  intro p e s m args below meth c s₁ Bd hml0 hP hK
  obtain ⟨rfl, hZ, hh⟩ := hP
  have hx := Bd.exec
  have hby := Bd.bytes
  have hlk := BodyLoose.notSynchronized Bd
  have hret := Bd.returns
  have hml : c.maxLocals = 6 := hml0
  have hown : s.vm.findClass "java/lang/StringUTF16" = some m.cls := findClass_of_methodNamed Bd.named
  have hnm := (name_of_methodNamed Bd.named Bd.method).1
  have X0 : Stand p l e ({ frames := 3, cells := 2, slots := 3, locals := 40 } : Room) s m #[(.ref aC), (.int (0 : Int32)), (.int (1 : Int32))] below meth c s₁ [] 0 0 := Stand.of_body Bd
  have e0 : s₁.heap = h0 := by rw [← hh, Bd.state]; rfl
  have N0 := Fr.nil n0
  refine Goes.st (E := (EN s (QCx10 Z aC kC c0 h0 n0) ({ frames := 3, cells := 2, slots := 3, locals := 40 } : Room).cells ({ frames := 3, cells := 2, slots := 3, locals := 40 } : Room).slots)) (fun tg kg => castTop (ef_Cx10 m aC (0 : Int32) (1 : Int32)) kg) ?_
  have K0 : Keep h0 h0 [] := Keep.refl _ _
  show Gs p e below _ s₁ m 0 #[rv aC, iv (0 : Int32), iv (1 : Int32), .unset, .unset, .unset] []
  refine giloadN X0 hx (hb hby dj52_16_0) rfl ?_
  obtain ⟨T1, h1, cA1, X1, e1, E1, A1, st1⟩ := newP X0 hx hZ (hwk hw 23 rfl) e0 (g := (mkF m 1 #[rv aC, iv (0 : Int32), iv (1 : Int32), .unset, .unset, .unset] [(.int (1 : Int32))])) rfl (hb hby dj52_16_1) rfl (by decide) (cap := 1) (by decide) (by decide) (by decide) (by decide)
  obtain ⟨b1, g1⟩ : ∃ z, z = h0.size := ⟨_, rfl⟩
  rw [← g1] at A1 st1
  have ne_aC_b1 : aC ≠ b1 := Nat.ne_of_lt (Nat.lt_of_lt_of_le VC.lt (Nat.le_of_eq g1.symm))
  have lo_b1 : n0 ≤ b1 := by have := Z0; omega
  have sz_b1 : h0.size ≤ b1 := by have := K0.1; omega
  have KK2 := K0.ext E1
  have V1 : Arv Z h1 b1 cA1 .byte (1 : Int32) [(.int (0 : Int32))] (.int (0 : Int32)) := (Arv.new A1 (by decide)).pad (pad_rep [] _ 1)
  refine Goes.st st1 ?_
  have Z1 : n0 ≤ h1.size := Nat.le_trans Z0 E1.1
  show Gs p e below _ T1 m 3 #[rv aC, iv (0 : Int32), iv (1 : Int32), .unset, .unset, .unset] [(.ref b1)]
  refine gastoreN X1 hx (hb hby dj52_16_3) trivial rfl (l' := #[rv aC, iv (0 : Int32), iv (1 : Int32), rv b1, .unset, .unset]) rfl ?_
  refine galoadN X1 hx (hb hby dj52_16_4) rfl rfl ?_
  refine giloadN X1 hx (hb hby dj52_16_5) rfl ?_
  refine galoadN X1 hx (hb hby dj52_16_6) rfl rfl ?_
  refine giconst X1 hx (hb hby dj52_16_7) ?_
  show Gs p e below _ T1 m 8 #[rv aC, iv (0 : Int32), iv (1 : Int32), rv b1, .unset, .unset] [(.int (0 : Int32)), (.ref b1), (.int (0 : Int32)), (.ref aC)]
  refine giloadN X1 hx (hb hby dj52_16_8) rfl ?_
  have f3 := (VC.ext E1)
  obtain ⟨_, _, ⟨T4, L4, k4, n4⟩, -, X4, ⟨Lc4, hQ4, l4, y4, z4⟩, st4⟩ := Jvm.LawKit.callS X1 hx (y := mN5) hown (mvT hZ (hwk hw 24 rfl)) (mvT hZ (hwk hw 25 rfl)) (mvT hZ (hwk hw 21 rfl)) (mvT hZ (hwk hw 26 rfl)) (by decide) (backOf (W := 0) (rmCm10 l Z a0 hw [] aC kC c0 b1 cA1 h1 n0 Z1 f3 V1 lo_b1 ne_aC_b1 hc0 hr0) hZ (hwk hw 26 rfl) (hwk hw 21 rfl) (by decide) (by decide)) (g := (mkF m 9 #[rv aC, iv (0 : Int32), iv (1 : Int32), rv b1, .unset, .unset] [(.int (1 : Int32)), (.int (0 : Int32)), (.ref b1), (.int (0 : Int32)), (.ref aC)])) rfl (by rw [hml]; rfl) (argsL := [(.ref aC), (.int (0 : Int32)), (.ref b1), (.int (0 : Int32)), (.int (1 : Int32))]) (rest := []) (lenOf pd___CI_BII_I_1ed0 rfl) rfl (by show 2 * 0 + _ ≤ _; exact Nat.le_of_eq rfl) (hb hby dj52_16_9) (fun _ _ => ⟨rfl, e1, (by decide : 1 + 0 ≤ 2), (by decide : 1 + 0 ≤ 3)⟩)
  dsimp only [Pt.U, Pt.locs, Pt.cells, Pt.slots] at X4 l4 y4 z4 st4 hQ4
  subst l4 y4 z4
  obtain ⟨vs4, rfl, N4q, K4, V4⟩ := hQ4
  have KK5 := KK2.trans K4 (allS (Or.inr sz_b1) all0)
  have Z4 : n0 ≤ T4.heap.size := Nat.le_trans Z1 K4.1
  have N4 := Fr.app N0 N4q
  refine Goes.st st4 ?_
  show Gs p e below _ T4 m 12 #[rv aC, iv (0 : Int32), iv (1 : Int32), rv b1, .unset, .unset] [(.int (0 : Int32))]
  refine gistore X4 hx (hb hby dj52_16_12) trivial (l' := #[rv aC, iv (0 : Int32), iv (1 : Int32), rv b1, iv (0 : Int32), .unset]) rfl ?_
  refine giload X4 hx (hb hby dj52_16_14) rfl ?_
  refine giloadN X4 hx (hb hby dj52_16_16) rfl ?_
  show Gs p e below _ T4 m 17 #[rv aC, iv (0 : Int32), iv (1 : Int32), rv b1, iv (0 : Int32), .unset] [(.int (1 : Int32)), (.int (0 : Int32))]
  refine gicmpNo X4 hx (hb hby dj52_16_17) (by decide) ?_
  show Gs p e below _ T4 m 20 #[rv aC, iv (0 : Int32), iv (1 : Int32), rv b1, iv (0 : Int32), .unset] []
  refine galoadN X4 hx (hb hby dj52_16_20) rfl rfl ?_
  refine giloadN X4 hx (hb hby dj52_16_21) rfl ?_
  refine giloadN X4 hx (hb hby dj52_16_22) rfl ?_
  have f6 := (f3.keep K4 (ninS ne_aC_b1 nin0))
  have f7 := ((Sd.ext E1).kept K4 (nsS (Arv.nostat V1) ns0))
  have f8 := ((Sh.ext E1).kept K4 (nsS (Arv.nostat V1) ns0))
  have f9 := ((Sl.ext E1).kept K4 (nsS (Arv.nostat V1) ns0))
  have lt10 : aC < T4.heap.size := f6.lt
  have lt11 : b1 < T4.heap.size := V4.lt
  obtain ⟨_, _, ⟨T12, L12, k12, n12⟩, -, X12, ⟨Lc12, hQ12, l12, y12, z12⟩, st12⟩ := Jvm.LawKit.callS X4 hx (y := mN4) hown (mvT hZ (hwk hw 75 rfl)) (mvT hZ (hwk hw 76 rfl)) (mvT hZ (hwk hw 21 rfl)) (mvT hZ (hwk hw 77 rfl)) (by decide) (backOf (W := 0) (rmBy1 l Z a0 hw [] aC kC c0 T4.heap n0 Z4 f7 f8 f9 f6) hZ (hwk hw 77 rfl) (hwk hw 21 rfl) (by decide) (by decide)) (g := (mkF m 23 #[rv aC, iv (0 : Int32), iv (1 : Int32), rv b1, iv (0 : Int32), .unset] [(.int (1 : Int32)), (.int (0 : Int32)), (.ref aC)])) rfl (by rw [hml]; rfl) (argsL := [(.ref aC), (.int (0 : Int32)), (.int (1 : Int32))]) (rest := []) (lenOf pd___CII__B_166f rfl) rfl (by show 2 * 0 + _ ≤ _; exact Nat.le_of_eq rfl) (hb hby dj52_16_23) (fun _ _ => ⟨rfl, rfl, (by decide : 1 + 1 ≤ 2), (by decide : 1 + 2 ≤ 3)⟩)
  dsimp only [Pt.U, Pt.locs, Pt.cells, Pt.slots] at X12 l12 y12 z12 st12 hQ12
  subst l12 y12 z12
  obtain ⟨b12, kB12, rfl, N12q, K12, szq12, loq12, V12⟩ := hQ12
  have KK13 := KK5.trans K12 all0
  have ne_aC_b12 : aC ≠ b12 := Nat.ne_of_lt (Nat.lt_of_lt_of_le lt10 szq12)
  have ne_b1_b12 : b1 ≠ b12 := Nat.ne_of_lt (Nat.lt_of_lt_of_le lt11 szq12)
  have sz_b12 : h0.size ≤ b12 := by have := KK13.1; have := szq12; omega
  have Z12 : n0 ≤ T12.heap.size := Nat.le_trans Z4 K12.1
  have N12 := Fr.app N4 N12q
  refine Goes.st st12 ?_
  show Gs p e below _ T12 m 26 #[rv aC, iv (0 : Int32), iv (1 : Int32), rv b1, iv (0 : Int32), .unset] [(.ref b12)]
  refine gastore X12 hx (hb hby dj52_16_26) trivial rfl (l' := #[rv aC, iv (0 : Int32), iv (1 : Int32), rv b1, iv (0 : Int32), rv b12]) rfl ?_
  refine gaload X12 hx (hb hby dj52_16_28) rfl rfl ?_
  refine giload X12 hx (hb hby dj52_16_30) rfl ?_
  have f14 := (f7.kept K12 ns0)
  have f15 := (f8.kept K12 ns0)
  have f16 := (f9.kept K12 ns0)
  obtain ⟨_, _, ⟨T17, L17, k17, n17⟩, -, X17, ⟨Lc17, hQ17, l17, y17, z17⟩, st17⟩ := Jvm.LawKit.callS X12 hx (y := mN3) hown (mvT hZ (hwk hw 91 rfl)) (mvT hZ (hwk hw 92 rfl)) (mvT hZ (hwk hw 21 rfl)) (mvT hZ (hwk hw 93 rfl)) (by decide) (backOf (W := 0) (rmGc10 l Z a0 hw [] b12 kB12 (nar .byte (c0 >>> ((0 : Int32) &&& 31)).toInt8.toInt32) (nar .byte (c0 >>> ((8 : Int32) &&& 31)).toInt8.toInt32) T12.heap n0 Z12 f14 f15 f16 V12) hZ (hwk hw 93 rfl) (hwk hw 21 rfl) (by decide) (by decide)) (g := (mkF m 32 #[rv aC, iv (0 : Int32), iv (1 : Int32), rv b1, iv (0 : Int32), rv b12] [(.int (0 : Int32)), (.ref b12)])) rfl (by rw [hml]; rfl) (argsL := [(.ref b12), (.int (0 : Int32))]) (rest := []) (lenOf pd___BI_C_e03 rfl) rfl (by show 2 * 0 + _ ≤ _; exact Nat.le_of_eq rfl) (hb hby dj52_16_32) (fun _ _ => ⟨rfl, rfl, (by decide : 2 + 0 ≤ 2), (by decide : 3 + 0 ≤ 3)⟩)
  dsimp only [Pt.U, Pt.locs, Pt.cells, Pt.slots] at X17 l17 y17 z17 st17 hQ17
  subst l17 y17 z17
  obtain ⟨rfl, N17q, eh17⟩ := hQ17
  rw [own_gc hr0] at st17
  have N17 := Fr.app N12 N17q
  refine Goes.st st17 ?_
  show Gs p e below _ T17 m 35 #[rv aC, iv (0 : Int32), iv (1 : Int32), rv b1, iv (0 : Int32), rv b12] [(.int c0)]
  refine Goes.st (fun tg kg => XS.sipush X17.here hx rfl (hb hby dj52_16_35) kg) ?_
  show Gs p e below _ T17 m 38 #[rv aC, iv (0 : Int32), iv (1 : Int32), rv b1, iv (0 : Int32), rv b12] [(.int (255 : Int32)), (.int c0)]
  refine gicmpYes X17 hx (pc' := 54) (hb hby dj52_16_38) (tlt hc0).2.2.1 (by decide) (by decide) ?_
  show Gs p e below _ T17 m 54 #[rv aC, iv (0 : Int32), iv (1 : Int32), rv b1, iv (0 : Int32), rv b12] []
  refine gaload X17 hx (hb hby dj52_16_54) rfl rfl ?_
  show Gs p e below _ T17 m 56 #[rv aC, iv (0 : Int32), iv (1 : Int32), rv b1, iv (0 : Int32), rv b12] [(.ref b12)]
  refine Goes.retA X17 hx hret rfl rfl rfl (hb hby dj52_16_56) (lvN X17 hlk (vsome hret) ?_ (by decide) (by decide))
  rw [eh17]
  exact ⟨b12, kB12, _, rfl, N17, KK13, sz_b12, loq12, V12⟩
theorem dj52_15_0 : decode jdk_52_method_15_code 0 = .ok (.iload_n 1, 1) := by decide +kernel
theorem dj52_15_1 : decode jdk_52_method_15_code 1 = .ok (.aload_n 0, 1) := by decide +kernel
theorem dj52_15_2 : decode jdk_52_method_15_code 2 = .ok (.arraylength, 1) := by decide +kernel
theorem dj52_15_3 : decode jdk_52_method_15_code 3 = .ok (.isub, 1) := by decide +kernel
theorem dj52_15_4 : decode jdk_52_method_15_code 4 = .ok (.bipush 31, 2) := by decide +kernel
theorem dj52_15_6 : decode jdk_52_method_15_code 6 = .ok (.iushr, 1) := by decide +kernel
theorem dj52_15_7 : decode jdk_52_method_15_code 7 = .ok (.i2b, 1) := by decide +kernel
theorem dj52_15_8 : decode jdk_52_method_15_code 8 = .ok (.ireturn, 1) := by decide +kernel
theorem ef_Cl12 (m : MethodId) (x0 : Addr) (x1 : Int32) : entryFrame m #[(.ref x0), (.int x1)] 2 = mkF m 0 #[rv x0, iv x1] [] := by first | (simp [entryFrame, mkF, argsToLocals, Value.category]; done) | rfl
def QCl12 (Z : State) (aB : Addr) (kB : ClassId) (vs : List Value) (h0 : Heap) (n0 : Nat) (v : Option Value) (h : Heap) (L : List Loc) : Prop := v = some (.int (1 : Int32)) ∧ Fr n0 L ∧ h = h0
set_option maxRecDepth 65536 in
set_option maxHeartbeats 40000000 in
theorem rmCl12 (l : Launch) (Z : State) (a0 : Array Value) (hw : ∀ d ∈ tables_1, d.before a0 Z = true) (ws : List Jvm.Cond) (aB : Addr) (kB : ClassId) (vs : List Value) (h0 : Heap) (n0 : Nat) (Z0 : n0 ≤ h0.size) (VB : Arv Z h0 aB kB .byte (2 : Int32) vs (.int (0 : Int32))) :
    MetFree l mN7 (head1 (Jvm.Cond.code mN7 jdk_52_method_15_code 2 (some .byte) :: ws) ({ frames := 0, cells := 0, slots := 0, locals := 0 } : Room)) (fun aa U => aa = #[(.ref aB), (.int (1 : Int32))] ∧ Z.Warmed39 U.vm ∧ U.heap = h0) (fun _ _ _ _ _ => True) (fun _ u1_ o_ u2_ => ∃ v_ l_, o_ = .returned v_ ∧ QCl12 Z aB kB vs h0 n0 v_ u2_.heap l_ ∧ FrameEnd u1_ o_ u2_ l_ ({ frames := 0, cells := 0, slots := 0, locals := 0 } : Room).cells ({ frames := 0, cells := 0, slots := 0, locals := 0 } : Room).slots) := by
  refine MetFree.of_bodySF (plainFor_of_name pn_java_lang_StringUTF16) hisR ?_
  intro p e s m args below meth c s₁ Bd hml0 hP hK
  obtain ⟨rfl, hZ, hh⟩ := hP
  have hx := Bd.exec
  have hby := Bd.bytes
  have hlk := BodyLoose.notSynchronized Bd
  have hret := Bd.returns
  have hml : c.maxLocals = 2 := hml0
  have hown : s.vm.findClass "java/lang/StringUTF16" = some m.cls := findClass_of_methodNamed Bd.named
  have hnm := (name_of_methodNamed Bd.named Bd.method).1
  have X0 : Stand p l e ({ frames := 0, cells := 0, slots := 0, locals := 0 } : Room) s m #[(.ref aB), (.int (1 : Int32))] below meth c s₁ [] 0 0 := Stand.of_body Bd
  have e0 : s₁.heap = h0 := by rw [← hh, Bd.state]; rfl
  have N0 := Fr.nil n0
  refine Goes.st (E := (EN s (QCl12 Z aB kB vs h0 n0) ({ frames := 0, cells := 0, slots := 0, locals := 0 } : Room).cells ({ frames := 0, cells := 0, slots := 0, locals := 0 } : Room).slots)) (fun tg kg => castTop (ef_Cl12 m aB (1 : Int32)) kg) ?_
  show Gs p e below _ s₁ m 0 #[rv aB, iv (1 : Int32)] []
  refine giloadN X0 hx (hb hby dj52_15_0) rfl ?_
  refine galoadN X0 hx (hb hby dj52_15_1) rfl rfl ?_
  show Gs p e below _ s₁ m 2 #[rv aB, iv (1 : Int32)] [(.ref aB), (.int (1 : Int32))]
  obtain ⟨cl1, Ar1, qk1, Sz1, qz1, Ha1, Gf1⟩ := id VB
  refine Goes.st (fun tg kg => X0.arraylength hx (cell := cl1) (by rw [e0]; exact Ar1.1) (State.isArrayOf_alike hZ.alike Ar1.2.1) (g := (mkF m 2 #[rv aB, iv (1 : Int32)] [(.ref aB), (.int (1 : Int32))])) rfl (rest := [(.int (1 : Int32))]) rfl (hb hby dj52_15_2) tg kg) ?_
  rw [len_of Sz1 qz1]
  show Gs p e below _ s₁ m 3 #[rv aB, iv (1 : Int32)] [(.int (2 : Int32)), (.int (1 : Int32))]
  refine gisub X0 hx (hb hby dj52_15_3) trivial ?_
  show Gs p e below _ s₁ m 4 #[rv aB, iv (1 : Int32)] [(.int ((1 : Int32) - (2 : Int32)))]
  rw [show ((1 : Int32) - (2 : Int32)) = (-1 : Int32) from by decide]
  show Gs p e below _ s₁ m 4 #[rv aB, iv (1 : Int32)] [(.int (-1 : Int32))]
  refine Goes.st (fun tg kg => XS.bipush X0.here hx rfl (hb hby dj52_15_4) kg) ?_
  show Gs p e below _ s₁ m 6 #[rv aB, iv (1 : Int32)] [(.int (31 : Int32)), (.int (-1 : Int32))]
  refine Goes.st (fun tg kg => XT.iushr X0.here hx rfl (hb hby dj52_15_6) rfl kg) ?_
  show Gs p e below _ s₁ m 7 #[rv aB, iv (1 : Int32)] [(.int (XT.ushr (-1 : Int32) (31 : Int32)))]
  rw [show (XT.ushr (-1 : Int32) (31 : Int32)) = (1 : Int32) from by decide]
  show Gs p e below _ s₁ m 7 #[rv aB, iv (1 : Int32)] [(.int (1 : Int32))]
  refine Goes.st (fun tg kg => XT.i2b X0.here hx rfl (hb hby dj52_15_7) rfl kg) ?_
  show Gs p e below _ s₁ m 8 #[rv aB, iv (1 : Int32)] [(.int ((1 : Int32)).toInt8.toInt32)]
  rw [show ((1 : Int32)).toInt8.toInt32 = (1 : Int32) from by decide]
  show Gs p e below _ s₁ m 8 #[rv aB, iv (1 : Int32)] [(.int (1 : Int32))]
  refine Goes.retN X0 hx hret (by simp) (hb hby dj52_15_8) (by decide) (lvN X0 hlk (vsome hret) ?_ (by decide) (by decide))
  rw [e0]
  exact ⟨rfl, N0, rfl⟩
theorem dj42_149_0 : decode jdk_42_method_149_code 0 = .ok (.aload_n 0, 1) := by decide +kernel
theorem dj42_149_1 : decode jdk_42_method_149_code 1 = .ok (.invokespecial 1, 3) := by decide +kernel
theorem dj42_149_4 : decode jdk_42_method_149_code 4 = .ok (.iload_n 3, 1) := by decide +kernel
theorem dj42_149_5 : decode jdk_42_method_149_code 5 = .ok (.ifCond .ne 22, 3) := by decide +kernel
theorem dj42_149_8 : decode jdk_42_method_149_code 8 = .ok (.aload_n 0, 1) := by decide +kernel
theorem dj42_149_9 : decode jdk_42_method_149_code 9 = .ok (.ldc 7, 2) := by decide +kernel
theorem dj42_149_11 : decode jdk_42_method_149_code 11 = .ok (.getfield 9, 3) := by decide +kernel
theorem dj42_149_14 : decode jdk_42_method_149_code 14 = .ok (.putfield 9, 3) := by decide +kernel
theorem dj42_149_17 : decode jdk_42_method_149_code 17 = .ok (.aload_n 0, 1) := by decide +kernel
theorem dj42_149_18 : decode jdk_42_method_149_code 18 = .ok (.ldc 7, 2) := by decide +kernel
theorem dj42_149_20 : decode jdk_42_method_149_code 20 = .ok (.getfield 15, 3) := by decide +kernel
theorem dj42_149_23 : decode jdk_42_method_149_code 23 = .ok (.putfield 15, 3) := by decide +kernel
theorem dj42_149_26 : decode jdk_42_method_149_code 26 = .ok (.return_, 1) := by decide +kernel
theorem dj42_149_27 : decode jdk_42_method_149_code 27 = .ok (.getstatic 38, 3) := by decide +kernel
theorem dj42_149_30 : decode jdk_42_method_149_code 30 = .ok (.ifCond .eq 28, 3) := by decide +kernel
theorem dj42_149_33 : decode jdk_42_method_149_code 33 = .ok (.aload_n 1, 1) := by decide +kernel
theorem dj42_149_34 : decode jdk_42_method_149_code 34 = .ok (.iload_n 2, 1) := by decide +kernel
theorem dj42_149_35 : decode jdk_42_method_149_code 35 = .ok (.iload_n 3, 1) := by decide +kernel
theorem dj42_149_36 : decode jdk_42_method_149_code 36 = .ok (.invokestatic 177, 3) := by decide +kernel
theorem dj42_149_39 : decode jdk_42_method_149_code 39 = .ok (.astore 5, 2) := by decide +kernel
theorem dj42_149_41 : decode jdk_42_method_149_code 41 = .ok (.aload_n 0, 1) := by decide +kernel
theorem dj42_149_42 : decode jdk_42_method_149_code 42 = .ok (.aload 5, 2) := by decide +kernel
theorem dj42_149_44 : decode jdk_42_method_149_code 44 = .ok (.iload_n 3, 1) := by decide +kernel
theorem dj42_149_45 : decode jdk_42_method_149_code 45 = .ok (.invokestatic 47, 3) := by decide +kernel
theorem dj42_149_48 : decode jdk_42_method_149_code 48 = .ok (.putfield 15, 3) := by decide +kernel
theorem dj42_149_51 : decode jdk_42_method_149_code 51 = .ok (.aload_n 0, 1) := by decide +kernel
theorem dj42_149_52 : decode jdk_42_method_149_code 52 = .ok (.aload 5, 2) := by decide +kernel
theorem dj42_149_54 : decode jdk_42_method_149_code 54 = .ok (.putfield 9, 3) := by decide +kernel
theorem dj42_149_57 : decode jdk_42_method_149_code 57 = .ok (.return_, 1) := by decide +kernel
theorem dj42_149_58 : decode jdk_42_method_149_code 58 = .ok (.aload_n 0, 1) := by decide +kernel
theorem dj42_149_59 : decode jdk_42_method_149_code 59 = .ok (.iconst 1, 1) := by decide +kernel
theorem dj42_149_60 : decode jdk_42_method_149_code 60 = .ok (.putfield 15, 3) := by decide +kernel
theorem dj42_149_63 : decode jdk_42_method_149_code 63 = .ok (.aload_n 0, 1) := by decide +kernel
theorem dj42_149_64 : decode jdk_42_method_149_code 64 = .ok (.aload_n 1, 1) := by decide +kernel
theorem dj42_149_65 : decode jdk_42_method_149_code 65 = .ok (.iload_n 2, 1) := by decide +kernel
theorem dj42_149_66 : decode jdk_42_method_149_code 66 = .ok (.iload_n 3, 1) := by decide +kernel
theorem dj42_149_67 : decode jdk_42_method_149_code 67 = .ok (.invokestatic 180, 3) := by decide +kernel
theorem dj42_149_70 : decode jdk_42_method_149_code 70 = .ok (.putfield 9, 3) := by decide +kernel
theorem dj42_149_73 : decode jdk_42_method_149_code 73 = .ok (.return_, 1) := by decide +kernel
theorem pn_java_lang_String : plainName "java/lang/String" = true := by first | (simp [plainName, overriddenIn]; done) | decide +kernel
theorem pd___BI_B_df7 : parseMethodDescriptor "([BI)B" = some ⟨[(.array .byte), .int], some .byte⟩ := by decide +kernel
theorem ef_Iv10 (m : MethodId) (x0 : Addr) (x1 : Addr) (x2 : Int32) (x3 : Int32) : entryFrame m #[(.ref x0), (.ref x1), (.int x2), (.int x3), .null] 6 = mkF m 0 #[rv x0, rv x1, iv x2, iv x3, .val .null, .unset] [] := by first | (simp [entryFrame, mkF, argsToLocals, Value.category]; done) | rfl
def QIv10 (Z : State) (a : Addr) (cs : Int32) (aC : Addr) (kC : ClassId) (c0 : Int32) (h0 : Heap) (n0 : Nat) (v : Option Value) (h : Heap) (L : List Loc) : Prop := v = none ∧ Fr n0 L ∧ Keep h0 h [a]
set_option maxRecDepth 65536 in
set_option maxHeartbeats 40000000 in
theorem rmIv10 (l : Launch) (Z : State) (a0 : Array Value) (hw : ∀ d ∈ tables_1, d.before a0 Z = true) (ws : List Jvm.Cond) (a : Addr) (cs : Int32) (aC : Addr) (kC : ClassId) (c0 : Int32) (h0 : Heap) (n0 : Nat) (Z0 : n0 ≤ h0.size) (Scs : Sta Z h0 "java/lang/String" "COMPACT_STRINGS" "Z" (.int cs)) (hcs : ¬ cs = (0 : Int32)) (Sd : Sta Z h0 "java/lang/StringUTF16" "$assertionsDisabled" "Z" (.int (1 : Int32))) (Sh : Sta Z h0 "java/lang/StringUTF16" "HI_BYTE_SHIFT" "I" (.int (0 : Int32))) (Sl : Sta Z h0 "java/lang/StringUTF16" "LO_BYTE_SHIFT" "I" (.int (8 : Int32))) (Ea : Exa Z h0 a "java/lang/String") (ga : n0 ≤ a) (Fv : Fld Z h0 a "java/lang/String" "value" "[B" .null) (Fc : Fld Z h0 a "java/lang/String" "coder" "B" (.int (0 : Int32))) (VC : Arv Z h0 aC kC .char (1 : Int32) [(.int c0)] (.int (0 : Int32))) (naC : a ≠ aC) (hc0 : (255 : Int32) < c0) (hr0 : 0 ≤ c0.toInt ∧ c0.toInt < 65536) :
    MetFree l mN8 (head1 (Jvm.Cond.code mN8 jdk_42_method_149_code 6 none :: ws) ({ frames := 4, cells := 2, slots := 3, locals := 57 } : Room)) (fun aa U => aa = #[(.ref a), (.ref aC), (.int (0 : Int32)), (.int (1 : Int32)), .null] ∧ Z.Warmed39 U.vm ∧ U.heap = h0) (fun _ _ _ _ _ => True) (fun _ u1_ o_ u2_ => ∃ v_ l_, o_ = .returned v_ ∧ QIv10 Z a cs aC kC c0 h0 n0 v_ u2_.heap l_ ∧ FrameEnd u1_ o_ u2_ l_ ({ frames := 4, cells := 2, slots := 3, locals := 57 } : Room).cells ({ frames := 4, cells := 2, slots := 3, locals := 57 } : Room).slots) := by
  refine MetFree.of_bodySF (plainFor_of_name pn_java_lang_String) hisR ?_
  intro p e s m args below meth c s₁ Bd hml0 hP hK
  obtain ⟨rfl, hZ, hh⟩ := hP
  have hx := Bd.exec
  have hby := Bd.bytes
  have hlk := BodyLoose.notSynchronized Bd
  have hret := Bd.returns
  have hml : c.maxLocals = 6 := hml0
  have hown : s.vm.findClass "java/lang/String" = some m.cls := findClass_of_methodNamed Bd.named
  have hnm := (name_of_methodNamed Bd.named Bd.method).1
  have X0 : Stand p l e ({ frames := 4, cells := 2, slots := 3, locals := 57 } : Room) s m #[(.ref a), (.ref aC), (.int (0 : Int32)), (.int (1 : Int32)), .null] below meth c s₁ [] 0 0 := Stand.of_body Bd
  have e0 : s₁.heap = h0 := by rw [← hh, Bd.state]; rfl
  have N0 := Fr.nil n0
  refine Goes.st (E := (EN s (QIv10 Z a cs aC kC c0 h0 n0) ({ frames := 4, cells := 2, slots := 3, locals := 57 } : Room).cells ({ frames := 4, cells := 2, slots := 3, locals := 57 } : Room).slots)) (fun tg kg => castTop (ef_Iv10 m a aC (0 : Int32) (1 : Int32)) kg) ?_
  have K0 : Keep h0 h0 [a] := Keep.refl _ _
  show Gs p e below _ s₁ m 0 #[rv a, rv aC, iv (0 : Int32), iv (1 : Int32), .val .null, .unset] []
  refine galoadN X0 hx (hb hby dj42_149_0) rfl rfl ?_
  obtain ⟨T1, X1, e1, st1⟩ := initO X0 hx hZ hown (hwk hw 15 rfl) (hwk hw 16 rfl) (hwk hw 17 rfl) e0 (g := (mkF m 1 #[rv a, rv aC, iv (0 : Int32), iv (1 : Int32), .val .null, .unset] [(.ref a)])) rfl (by rw [hml]; rfl) rfl (hb hby dj42_149_1) (by decide) (W := 0) (by show 2 * 0 + _ ≤ _; exact Nat.le_of_eq rfl) (by decide)
  refine Goes.st st1 ?_
  show Gs p e below _ T1 m 4 #[rv a, rv aC, iv (0 : Int32), iv (1 : Int32), .val .null, .unset] []
  refine giloadN X1 hx (hb hby dj42_149_4) rfl ?_
  show Gs p e below _ T1 m 5 #[rv a, rv aC, iv (0 : Int32), iv (1 : Int32), .val .null, .unset] [(.int (1 : Int32))]
  refine gifYes X1 hx (pc' := 27) (hb hby dj42_149_5) (by decide) (by decide) (by decide) ?_
  show Gs p e below _ T1 m 27 #[rv a, rv aC, iv (0 : Int32), iv (1 : Int32), .val .null, .unset] []
  obtain ⟨T2, X2, e2, st2⟩ := getS X1 hx hZ hown (host := "") (hwk hw 18 rfl) Via.refl e1 Scs (g := (mkF m 27 #[rv a, rv aC, iv (0 : Int32), iv (1 : Int32), .val .null, .unset] [])) rfl (hb hby dj42_149_27)
  refine Goes.st st2 ?_
  show Gs p e below _ T2 m 30 #[rv a, rv aC, iv (0 : Int32), iv (1 : Int32), .val .null, .unset] [(.int cs)]
  refine gifNo X2 hx (hb hby dj42_149_30) ((if0 _ _).trans (feq hcs).1) ?_
  show Gs p e below _ T2 m 33 #[rv a, rv aC, iv (0 : Int32), iv (1 : Int32), .val .null, .unset] []
  refine galoadN X2 hx (hb hby dj42_149_33) rfl rfl ?_
  refine giloadN X2 hx (hb hby dj42_149_34) rfl ?_
  refine giloadN X2 hx (hb hby dj42_149_35) rfl ?_
  have lt3 : a < h0.size := Ea.lt
  have lt4 : aC < h0.size := VC.lt
  obtain ⟨_, _, ⟨T5, L5, k5, n5⟩, -, X5, ⟨Lc5, hQ5, l5, y5, z5⟩, st5⟩ := Jvm.LawKit.callS X2 hx (y := mN6) hown (mvT hZ (hwk hw 19 rfl)) (mvT hZ (hwk hw 20 rfl)) (mvT hZ (hwk hw 21 rfl)) (mvT hZ (hwk hw 22 rfl)) (by decide) (backOf (W := 0) (rmCx10 l Z a0 hw [] aC kC c0 h0 n0 Z0 Sd Sh Sl VC hc0 hr0) hZ (hwk hw 22 rfl) (hwk hw 21 rfl) (by decide) (by decide)) (g := (mkF m 36 #[rv a, rv aC, iv (0 : Int32), iv (1 : Int32), .val .null, .unset] [(.int (1 : Int32)), (.int (0 : Int32)), (.ref aC)])) rfl (by rw [hml]; rfl) (argsL := [(.ref aC), (.int (0 : Int32)), (.int (1 : Int32))]) (rest := []) (lenOf pd___CII__B_166f rfl) rfl (by show 2 * 0 + _ ≤ _; exact Nat.le_of_eq rfl) (hb hby dj42_149_36) (fun _ _ => ⟨rfl, e2, (by decide : 0 + 2 ≤ 2), (by decide : 0 + 3 ≤ 3)⟩)
  dsimp only [Pt.U, Pt.locs, Pt.cells, Pt.slots] at X5 l5 y5 z5 st5 hQ5
  subst l5 y5 z5
  obtain ⟨b5, kB5, vs5, rfl, N5q, K5, szq5, loq5, V5⟩ := hQ5
  have KK6 := K0.trans K5 all0
  have ne_a_b5 : a ≠ b5 := Nat.ne_of_lt (Nat.lt_of_lt_of_le lt3 szq5)
  have ne_aC_b5 : aC ≠ b5 := Nat.ne_of_lt (Nat.lt_of_lt_of_le lt4 szq5)
  have sz_b5 : h0.size ≤ b5 := by have := KK6.1; have := szq5; omega
  have Z5 : n0 ≤ T5.heap.size := Nat.le_trans Z0 K5.1
  have N5 := Fr.app N0 N5q
  refine Goes.st st5 ?_
  show Gs p e below _ T5 m 39 #[rv a, rv aC, iv (0 : Int32), iv (1 : Int32), .val .null, .unset] [(.ref b5)]
  refine gastore X5 hx (hb hby dj42_149_39) trivial rfl (l' := #[rv a, rv aC, iv (0 : Int32), iv (1 : Int32), .val .null, rv b5]) rfl ?_
  refine galoadN X5 hx (hb hby dj42_149_41) rfl rfl ?_
  refine gaload X5 hx (hb hby dj42_149_42) rfl rfl ?_
  refine giloadN X5 hx (hb hby dj42_149_44) rfl ?_
  obtain ⟨_, _, ⟨T7, L7, k7, n7⟩, -, X7, ⟨Lc7, hQ7, l7, y7, z7⟩, st7⟩ := Jvm.LawKit.callS X5 hx (y := mN7) hown (mvT hZ (hwk hw 27 rfl)) (mvT hZ (hwk hw 28 rfl)) (mvT hZ (hwk hw 21 rfl)) (mvT hZ (hwk hw 29 rfl)) (by decide) (backOf (W := 1) (rmCl12 l Z a0 hw [] b5 kB5 vs5 T5.heap n0 Z5 V5) hZ (hwk hw 29 rfl) (hwk hw 21 rfl) (by decide) (by decide)) (g := (mkF m 45 #[rv a, rv aC, iv (0 : Int32), iv (1 : Int32), .val .null, rv b5] [(.int (1 : Int32)), (.ref b5), (.ref a)])) rfl (by rw [hml]; rfl) (argsL := [(.ref b5), (.int (1 : Int32))]) (rest := [(.ref a)]) (lenOf pd___BI_B_df7 rfl) rfl (by show 2 * 0 + _ ≤ _; exact Nat.le_of_eq rfl) (hb hby dj42_149_45) (fun _ _ => ⟨rfl, rfl, (by decide : 2 + 0 ≤ 2), (by decide : 3 + 0 ≤ 3)⟩)
  dsimp only [Pt.U, Pt.locs, Pt.cells, Pt.slots] at X7 l7 y7 z7 st7 hQ7
  subst l7 y7 z7
  obtain ⟨rfl, N7q, eh7⟩ := hQ7
  have N7 := Fr.app N5 N7q
  refine Goes.st st7 ?_
  show Gs p e below _ T7 m 48 #[rv a, rv aC, iv (0 : Int32), iv (1 : Int32), .val .null, rv b5] [(.int (1 : Int32)), (.ref a)]
  have f9 := (Fc.keep K5 nin0)
  have f10 := (Ea.keep K5)
  obtain ⟨T8, h8, X8, e8, W8, st8⟩ := putFN X7 hx hZ hown (hwk hw 30 rfl) Via.refl eh7 f9 f10 (Or.inr ⟨(hwk hw 31 rfl), rfl, hnm⟩) (hwk hw 5 rfl) (ty := .byte) (v' := (.int (1 : Int32))) (by decide) rfl (by decide) (g := (mkF m 48 #[rv a, rv aC, iv (0 : Int32), iv (1 : Int32), .val .null, rv b5] [(.int (1 : Int32)), (.ref a)])) rfl rfl (hb hby dj42_149_48)
  have N8 := Fr.snoc X8 N7 ga
  have G8 := f9.same W8
  refine Goes.st st8 ?_
  have KK11 := KK6.wr W8 (Or.inl (List.mem_of_getElem? (i := 0) rfl))
  have Z8 : n0 ≤ h8.size := by have := W8.size; have := Z5; omega
  show Gs p e below _ T8 m 51 #[rv a, rv aC, iv (0 : Int32), iv (1 : Int32), .val .null, rv b5] []
  refine galoadN X8 hx (hb hby dj42_149_51) rfl rfl ?_
  refine gaload X8 hx (hb hby dj42_149_52) rfl rfl ?_
  have f13 := ((Fv.keep K5 nin0).other W8 (Or.inr (slot_ne (Or.inr (hwk hw 33 rfl)) (Or.inr (hwk hw 31 rfl)) (by decide) (t := (.array .byte)) (t' := .byte) (by decide) (by decide))))
  have f14 := (f10.wr W8)
  obtain ⟨T12, h12, X12, e12, W12, st12⟩ := putF X8 hx hZ hown (host := "") (Or.inl (hwk hw 32 rfl)) Via.refl e8 f13 f14 (Or.inr ⟨(hwk hw 33 rfl), rfl, hnm⟩) (hwk hw 5 rfl) (ty := (.array .byte)) (by decide) rfl rfl (g := (mkF m 54 #[rv a, rv aC, iv (0 : Int32), iv (1 : Int32), .val .null, rv b5] [(.ref b5), (.ref a)])) rfl rfl (hb hby dj42_149_54)
  have N12 := Fr.snoc X12 N8 ga
  have G12 := f13.same W12
  refine Goes.st st12 ?_
  have KK15 := KK11.wr W12 (Or.inl (List.mem_of_getElem? (i := 0) rfl))
  have Z12 : n0 ≤ h12.size := by have := W12.size; have := Z8; omega
  show Gs p e below _ T12 m 57 #[rv a, rv aC, iv (0 : Int32), iv (1 : Int32), .val .null, rv b5] []
  refine Goes.retV X12 hx hret (hb hby dj42_149_57) (lvN X12 hlk (fun _ => rfl) ?_ (by decide) (by decide))
  rw [e12]
  exact ⟨rfl, N12, KK15⟩
theorem dj42_3_0 : decode jdk_42_method_3_code 0 = .ok (.aload_n 0, 1) := by decide +kernel
theorem dj42_3_1 : decode jdk_42_method_3_code 1 = .ok (.aload_n 1, 1) := by decide +kernel
theorem dj42_3_2 : decode jdk_42_method_3_code 2 = .ok (.iconst 0, 1) := by decide +kernel
theorem dj42_3_3 : decode jdk_42_method_3_code 3 = .ok (.aload_n 1, 1) := by decide +kernel
theorem dj42_3_4 : decode jdk_42_method_3_code 4 = .ok (.arraylength, 1) := by decide +kernel
theorem dj42_3_5 : decode jdk_42_method_3_code 5 = .ok (.aconst_null, 1) := by decide +kernel
theorem dj42_3_6 : decode jdk_42_method_3_code 6 = .ok (.invokespecial 27, 3) := by decide +kernel
theorem dj42_3_9 : decode jdk_42_method_3_code 9 = .ok (.return_, 1) := by decide +kernel
theorem pd___CIILjava_lang_Void__V_897f : parseMethodDescriptor "([CIILjava/lang/Void;)V" = some ⟨[(.array .char), .int, .int, (.object "java/lang/Void")], none⟩ := by decide +kernel
theorem ef_Ic10 (m : MethodId) (x0 : Addr) (x1 : Addr) : entryFrame m #[(.ref x0), (.ref x1)] 2 = mkF m 0 #[rv x0, rv x1] [] := by first | (simp [entryFrame, mkF, argsToLocals, Value.category]; done) | rfl
def QIc10 (Z : State) (a : Addr) (cs : Int32) (aC : Addr) (kC : ClassId) (c0 : Int32) (h0 : Heap) (n0 : Nat) (v : Option Value) (h : Heap) (L : List Loc) : Prop := v = none ∧ Fr n0 L ∧ Keep h0 h [a]
set_option maxRecDepth 65536 in
set_option maxHeartbeats 40000000 in
theorem rmIc10 (l : Launch) (Z : State) (a0 : Array Value) (hw : ∀ d ∈ tables_1, d.before a0 Z = true) (ws : List Jvm.Cond) (a : Addr) (cs : Int32) (aC : Addr) (kC : ClassId) (c0 : Int32) (h0 : Heap) (n0 : Nat) (Z0 : n0 ≤ h0.size) (Scs : Sta Z h0 "java/lang/String" "COMPACT_STRINGS" "Z" (.int cs)) (hcs : ¬ cs = (0 : Int32)) (Sd : Sta Z h0 "java/lang/StringUTF16" "$assertionsDisabled" "Z" (.int (1 : Int32))) (Sh : Sta Z h0 "java/lang/StringUTF16" "HI_BYTE_SHIFT" "I" (.int (0 : Int32))) (Sl : Sta Z h0 "java/lang/StringUTF16" "LO_BYTE_SHIFT" "I" (.int (8 : Int32))) (Ea : Exa Z h0 a "java/lang/String") (ga : n0 ≤ a) (Fv : Fld Z h0 a "java/lang/String" "value" "[B" .null) (Fc : Fld Z h0 a "java/lang/String" "coder" "B" (.int (0 : Int32))) (VC : Arv Z h0 aC kC .char (1 : Int32) [(.int c0)] (.int (0 : Int32))) (naC : a ≠ aC) (hc0 : (255 : Int32) < c0) (hr0 : 0 ≤ c0.toInt ∧ c0.toInt < 65536) :
    MetFree l mN9 (head1 (Jvm.Cond.code mN9 jdk_42_method_3_code 2 none :: ws) ({ frames := 5, cells := 2, slots := 3, locals := 74 } : Room)) (fun aa U => aa = #[(.ref a), (.ref aC)] ∧ Z.Warmed39 U.vm ∧ U.heap = h0) (fun _ _ _ _ _ => True) (fun _ u1_ o_ u2_ => ∃ v_ l_, o_ = .returned v_ ∧ QIc10 Z a cs aC kC c0 h0 n0 v_ u2_.heap l_ ∧ FrameEnd u1_ o_ u2_ l_ ({ frames := 5, cells := 2, slots := 3, locals := 74 } : Room).cells ({ frames := 5, cells := 2, slots := 3, locals := 74 } : Room).slots) := by
  refine MetFree.of_bodySF (plainFor_of_name pn_java_lang_String) hisR ?_
  intro p e s m args below meth c s₁ Bd hml0 hP hK
  obtain ⟨rfl, hZ, hh⟩ := hP
  have hx := Bd.exec
  have hby := Bd.bytes
  have hlk := BodyLoose.notSynchronized Bd
  have hret := Bd.returns
  have hml : c.maxLocals = 2 := hml0
  have hown : s.vm.findClass "java/lang/String" = some m.cls := findClass_of_methodNamed Bd.named
  have hnm := (name_of_methodNamed Bd.named Bd.method).1
  have X0 : Stand p l e ({ frames := 5, cells := 2, slots := 3, locals := 74 } : Room) s m #[(.ref a), (.ref aC)] below meth c s₁ [] 0 0 := Stand.of_body Bd
  have e0 : s₁.heap = h0 := by rw [← hh, Bd.state]; rfl
  have N0 := Fr.nil n0
  refine Goes.st (E := (EN s (QIc10 Z a cs aC kC c0 h0 n0) ({ frames := 5, cells := 2, slots := 3, locals := 74 } : Room).cells ({ frames := 5, cells := 2, slots := 3, locals := 74 } : Room).slots)) (fun tg kg => castTop (ef_Ic10 m a aC) kg) ?_
  have K0 : Keep h0 h0 [a] := Keep.refl _ _
  show Gs p e below _ s₁ m 0 #[rv a, rv aC] []
  refine galoadN X0 hx (hb hby dj42_3_0) rfl rfl ?_
  refine galoadN X0 hx (hb hby dj42_3_1) rfl rfl ?_
  refine giconst X0 hx (hb hby dj42_3_2) ?_
  refine galoadN X0 hx (hb hby dj42_3_3) rfl rfl ?_
  show Gs p e below _ s₁ m 4 #[rv a, rv aC] [(.ref aC), (.int (0 : Int32)), (.ref aC), (.ref a)]
  obtain ⟨cl1, Ar1, qk1, Sz1, qz1, Ha1, Gf1⟩ := id VC
  refine Goes.st (fun tg kg => X0.arraylength hx (cell := cl1) (by rw [e0]; exact Ar1.1) (State.isArrayOf_alike hZ.alike Ar1.2.1) (g := (mkF m 4 #[rv a, rv aC] [(.ref aC), (.int (0 : Int32)), (.ref aC), (.ref a)])) rfl (rest := [(.int (0 : Int32)), (.ref aC), (.ref a)]) rfl (hb hby dj42_3_4) tg kg) ?_
  rw [len_of Sz1 qz1]
  show Gs p e below _ s₁ m 5 #[rv a, rv aC] [(.int (1 : Int32)), (.int (0 : Int32)), (.ref aC), (.ref a)]
  refine Goes.st (fun tg kg => XS.aconstNull X0.here hx rfl (hb hby dj42_3_5) kg) ?_
  obtain ⟨_, _, ⟨T2, L2, k2, n2⟩, -, X2, ⟨Lc2, hQ2, l2, y2, z2⟩, st2⟩ := X0.specialBack hx (y := mN8) rfl hown (mvT hZ (hwk hw 11 rfl)) (mvT hZ (hwk hw 12 rfl)) (mvT hZ (hwk hw 14 rfl)) (by decide) (backOf (W := 0) (rmIv10 l Z a0 hw [] a cs aC kC c0 h0 n0 Z0 Scs hcs Sd Sh Sl Ea ga Fv Fc VC naC hc0 hr0) hZ (hwk hw 14 rfl) (hwk hw 6 rfl) (by decide) (by decide)) (g := (mkF m 6 #[rv a, rv aC] [.null, (.int (1 : Int32)), (.int (0 : Int32)), (.ref aC), (.ref a)])) rfl (by rw [hml]; rfl) (Steps.refl _) (a := a) (argsL := [(.ref aC), (.int (0 : Int32)), (.int (1 : Int32)), .null]) (rest := []) (lenOf pd___CIILjava_lang_Void__V_897f rfl) rfl (by show 2 * 0 + _ ≤ _; exact Nat.le_of_eq rfl) (hb hby dj42_3_6) (fun _ _ => ⟨rfl, e0, (by decide : 0 + 2 ≤ 2), (by decide : 0 + 3 ≤ 3)⟩)
  dsimp only [Pt.U, Pt.locs, Pt.cells, Pt.slots] at X2 l2 y2 z2 st2 hQ2
  subst l2 y2 z2
  obtain ⟨rfl, N2q, K2⟩ := hQ2
  have KK3 := K0.trans K2 (allS (Or.inl (List.mem_of_getElem? (i := 0) rfl)) all0)
  have Z2 : n0 ≤ T2.heap.size := Nat.le_trans Z0 K2.1
  have N2 := Fr.app N0 N2q
  refine Goes.sts st2 ?_
  show Gs p e below _ T2 m 9 #[rv a, rv aC] []
  refine Goes.retV X2 hx hret (hb hby dj42_3_9) (lvN X2 hlk (fun _ => rfl) ?_ (by decide) (by decide))
  exact ⟨rfl, N2, KK3⟩
theorem ef_Cm11 (m : MethodId) (x0 : Addr) (x1 : Int32) (x2 : Addr) (x3 : Int32) (x4 : Int32) : entryFrame m #[(.ref x0), (.int x1), (.ref x2), (.int x3), (.int x4)] 7 = mkF m 0 #[rv x0, iv x1, rv x2, iv x3, iv x4, .unset, .unset] [] := by first | (simp [entryFrame, mkF, argsToLocals, Value.category]; done) | rfl
def QCm11 (Z : State) (aC : Addr) (kC : ClassId) (c0 : Int32) (aB : Addr) (kB : ClassId) (h0 : Heap) (n0 : Nat) (v : Option Value) (h : Heap) (L : List Loc) : Prop := ∃ (vs : List Value), v = some (.int (1 : Int32)) ∧ Fr n0 L ∧ Keep h0 h [aB] ∧ Arv Z h aB kB .byte (1 : Int32) vs (.int (0 : Int32))
set_option maxRecDepth 65536 in
set_option maxHeartbeats 40000000 in
theorem rmCm11 (l : Launch) (Z : State) (a0 : Array Value) (hw : ∀ d ∈ tables_1, d.before a0 Z = true) (ws : List Jvm.Cond) (aC : Addr) (kC : ClassId) (c0 : Int32) (aB : Addr) (kB : ClassId) (h0 : Heap) (n0 : Nat) (Z0 : n0 ≤ h0.size) (VC : Arv Z h0 aC kC .char (1 : Int32) [(.int c0)] (.int (0 : Int32))) (VB : Arv Z h0 aB kB .byte (1 : Int32) [(.int (0 : Int32))] (.int (0 : Int32))) (lB : n0 ≤ aB) (nCB : aC ≠ aB) (hc0 : ¬ (255 : Int32) < c0) :
    MetFree l mN5 (head1 (Jvm.Cond.code mN5 jdk_52_method_21_code 7 (some .int) :: ws) ({ frames := 0, cells := 0, slots := 0, locals := 0 } : Room)) (fun aa U => aa = #[(.ref aC), (.int (0 : Int32)), (.ref aB), (.int (0 : Int32)), (.int (1 : Int32))] ∧ Z.Warmed39 U.vm ∧ U.heap = h0) (fun _ _ _ _ _ => True) (fun _ u1_ o_ u2_ => ∃ v_ l_, o_ = .returned v_ ∧ QCm11 Z aC kC c0 aB kB h0 n0 v_ u2_.heap l_ ∧ FrameEnd u1_ o_ u2_ l_ ({ frames := 0, cells := 0, slots := 0, locals := 0 } : Room).cells ({ frames := 0, cells := 0, slots := 0, locals := 0 } : Room).slots) := by
  refine MetFree.of_bodySF (plainFor_of_name pn_java_lang_StringUTF16) hisR ?_
  intro p e s m args below meth c s₁ Bd hml0 hP hK
  obtain ⟨rfl, hZ, hh⟩ := hP
  have hx := Bd.exec
  have hby := Bd.bytes
  have hlk := BodyLoose.notSynchronized Bd
  have hret := Bd.returns
  have hml : c.maxLocals = 7 := hml0
  have hown : s.vm.findClass "java/lang/StringUTF16" = some m.cls := findClass_of_methodNamed Bd.named
  have hnm := (name_of_methodNamed Bd.named Bd.method).1
  have X0 : Stand p l e ({ frames := 0, cells := 0, slots := 0, locals := 0 } : Room) s m #[(.ref aC), (.int (0 : Int32)), (.ref aB), (.int (0 : Int32)), (.int (1 : Int32))] below meth c s₁ [] 0 0 := Stand.of_body Bd
  have e0 : s₁.heap = h0 := by rw [← hh, Bd.state]; rfl
  have N0 := Fr.nil n0
  refine Goes.st (E := (EN s (QCm11 Z aC kC c0 aB kB h0 n0) ({ frames := 0, cells := 0, slots := 0, locals := 0 } : Room).cells ({ frames := 0, cells := 0, slots := 0, locals := 0 } : Room).slots)) (fun tg kg => castTop (ef_Cm11 m aC (0 : Int32) aB (0 : Int32) (1 : Int32)) kg) ?_
  have K0 : Keep h0 h0 [aB] := Keep.refl _ _
  show Gs p e below _ s₁ m 0 #[rv aC, iv (0 : Int32), rv aB, iv (0 : Int32), iv (1 : Int32), .unset, .unset] []
  refine giconst X0 hx (hb hby dj52_21_0) ?_
  refine gistore X0 hx (hb hby dj52_21_1) trivial (l' := #[rv aC, iv (0 : Int32), rv aB, iv (0 : Int32), iv (1 : Int32), iv (0 : Int32), .unset]) rfl ?_
  refine giload X0 hx (hb hby dj52_21_3) rfl ?_
  refine giload X0 hx (hb hby dj52_21_5) rfl ?_
  show Gs p e below _ s₁ m 7 #[rv aC, iv (0 : Int32), rv aB, iv (0 : Int32), iv (1 : Int32), iv (0 : Int32), .unset] [(.int (1 : Int32)), (.int (0 : Int32))]
  refine gicmpNo X0 hx (hb hby dj52_21_7) (by decide) ?_
  show Gs p e below _ s₁ m 10 #[rv aC, iv (0 : Int32), rv aB, iv (0 : Int32), iv (1 : Int32), iv (0 : Int32), .unset] []
  refine galoadN X0 hx (hb hby dj52_21_10) rfl rfl ?_
  refine giloadN X0 hx (hb hby dj52_21_11) rfl ?_
  show Gs p e below _ s₁ m 12 #[rv aC, iv (0 : Int32), rv aB, iv (0 : Int32), iv (1 : Int32), iv (0 : Int32), .unset] [(.int (0 : Int32)), (.ref aC)]
  obtain ⟨cl1, Ar1, qk1, Sz1, qz1, Ha1, Gf1⟩ := id VC
  have in1 := inb_of (j := (0 : Int32)) Sz1 ⟨by decide, by decide⟩
  refine Goes.st (fun tg kg => X0.caload hx (j := (0 : Int32)) (v := (.int c0)) (by rw [e0]; exact Ar1.1) (State.isArrayOf_alike hZ.alike Ar1.2.1) Ar1.2.2 in1 (Ha1.at in1 rfl) (g := (mkF m 12 #[rv aC, iv (0 : Int32), rv aB, iv (0 : Int32), iv (1 : Int32), iv (0 : Int32), .unset] [(.int (0 : Int32)), (.ref aC)])) rfl rfl (hb hby dj52_21_12) tg kg) ?_
  show Gs p e below _ s₁ m 13 #[rv aC, iv (0 : Int32), rv aB, iv (0 : Int32), iv (1 : Int32), iv (0 : Int32), .unset] [(.int c0)]
  refine gistore X0 hx (hb hby dj52_21_13) trivial (l' := #[rv aC, iv (0 : Int32), rv aB, iv (0 : Int32), iv (1 : Int32), iv (0 : Int32), iv c0]) rfl ?_
  refine giload X0 hx (hb hby dj52_21_15) rfl ?_
  refine Goes.st (fun tg kg => XS.sipush X0.here hx rfl (hb hby dj52_21_17) kg) ?_
  show Gs p e below _ s₁ m 20 #[rv aC, iv (0 : Int32), rv aB, iv (0 : Int32), iv (1 : Int32), iv (0 : Int32), iv c0] [(.int (255 : Int32)), (.int c0)]
  refine gicmpYes X0 hx (pc' := 26) (hb hby dj52_21_20) (flt hc0).2.2.2 (by decide) (by decide) ?_
  show Gs p e below _ s₁ m 26 #[rv aC, iv (0 : Int32), rv aB, iv (0 : Int32), iv (1 : Int32), iv (0 : Int32), iv c0] []
  refine galoadN X0 hx (hb hby dj52_21_26) rfl rfl ?_
  refine giloadN X0 hx (hb hby dj52_21_27) rfl ?_
  refine giload X0 hx (hb hby dj52_21_28) rfl ?_
  show Gs p e below _ s₁ m 30 #[rv aC, iv (0 : Int32), rv aB, iv (0 : Int32), iv (1 : Int32), iv (0 : Int32), iv c0] [(.int c0), (.int (0 : Int32)), (.ref aB)]
  refine Goes.st (fun tg kg => XT.i2b X0.here hx rfl (hb hby dj52_21_30) rfl kg) ?_
  show Gs p e below _ s₁ m 31 #[rv aC, iv (0 : Int32), rv aB, iv (0 : Int32), iv (1 : Int32), iv (0 : Int32), iv c0] [(.int (c0).toInt8.toInt32), (.int (0 : Int32)), (.ref aB)]
  obtain ⟨cl2, Ar2, qk2, Sz2, qz2, Ha2, Gf2⟩ := id VB
  obtain ⟨T2, h2, X2, e2, W2, st2⟩ := stB X0 hx hZ e0 Ar2 (inb_of Sz2 ⟨by decide, by decide⟩) (g := (mkF m 31 #[rv aC, iv (0 : Int32), rv aB, iv (0 : Int32), iv (1 : Int32), iv (0 : Int32), iv c0] [(.int (c0).toInt8.toInt32), (.int (0 : Int32)), (.ref aB)])) rfl rfl (hb hby dj52_21_31)
  have N2 := Fr.snoc X2 N0 lB
  have V2 : Arv Z h2 aB kB .byte (1 : Int32) [(.int (nar .byte (c0).toInt8.toInt32))] (.int (0 : Int32)) := Arv.set Ar2 qk2 Sz2 qz2 Ha2 Gf2 (fits_nar_byte _) W2 0 (by decide) (by simp)
  refine Goes.st st2 ?_
  have KK3 := K0.wr W2 (Or.inl (List.mem_of_getElem? (i := 0) rfl))
  have Z2 : n0 ≤ h2.size := by have := W2.size; have := Z0; omega
  show Gs p e below _ T2 m 32 #[rv aC, iv (0 : Int32), rv aB, iv (0 : Int32), iv (1 : Int32), iv (0 : Int32), iv c0] []
  refine Goes.st (fun tg kg => XS.iinc X2.here hx rfl (hb hby dj52_21_32) rfl (l' := #[rv aC, iv (1 : Int32), rv aB, iv (0 : Int32), iv (1 : Int32), iv (0 : Int32), iv c0]) rfl kg) ?_
  refine Goes.st (fun tg kg => XS.iinc X2.here hx rfl (hb hby dj52_21_35) rfl (l' := #[rv aC, iv (1 : Int32), rv aB, iv (1 : Int32), iv (1 : Int32), iv (0 : Int32), iv c0]) rfl kg) ?_
  refine Goes.st (fun tg kg => XS.iinc X2.here hx rfl (hb hby dj52_21_38) rfl (l' := #[rv aC, iv (1 : Int32), rv aB, iv (1 : Int32), iv (1 : Int32), iv (1 : Int32), iv c0]) rfl kg) ?_
  show Gs p e below _ T2 m 41 #[rv aC, iv (1 : Int32), rv aB, iv (1 : Int32), iv (1 : Int32), iv (1 : Int32), iv c0] []
  refine ggoto X2 hx (pc' := 3) (hb hby dj52_21_41) (by decide) (by decide) ?_
  show Gs p e below _ T2 m 3 #[rv aC, iv (1 : Int32), rv aB, iv (1 : Int32), iv (1 : Int32), iv (1 : Int32), iv c0] []
  refine giload X2 hx (hb hby dj52_21_3) rfl ?_
  refine giload X2 hx (hb hby dj52_21_5) rfl ?_
  show Gs p e below _ T2 m 7 #[rv aC, iv (1 : Int32), rv aB, iv (1 : Int32), iv (1 : Int32), iv (1 : Int32), iv c0] [(.int (1 : Int32)), (.int (1 : Int32))]
  refine gicmpYes X2 hx (pc' := 44) (hb hby dj52_21_7) (by decide) (by decide) (by decide) ?_
  show Gs p e below _ T2 m 44 #[rv aC, iv (1 : Int32), rv aB, iv (1 : Int32), iv (1 : Int32), iv (1 : Int32), iv c0] []
  refine giload X2 hx (hb hby dj52_21_44) rfl ?_
  show Gs p e below _ T2 m 46 #[rv aC, iv (1 : Int32), rv aB, iv (1 : Int32), iv (1 : Int32), iv (1 : Int32), iv c0] [(.int (1 : Int32))]
  refine Goes.retI X2 hx hret (hb hby dj52_21_46) (lvN X2 hlk (vsome hret) ?_ (by decide) (by decide))
  rw [e2]
  exact ⟨_, rfl, N2, KK3, V2⟩
theorem ef_Cx11 (m : MethodId) (x0 : Addr) (x1 : Int32) (x2 : Int32) : entryFrame m #[(.ref x0), (.int x1), (.int x2)] 6 = mkF m 0 #[rv x0, iv x1, iv x2, .unset, .unset, .unset] [] := by first | (simp [entryFrame, mkF, argsToLocals, Value.category]; done) | rfl
def QCx11 (Z : State) (aC : Addr) (kC : ClassId) (c0 : Int32) (h0 : Heap) (n0 : Nat) (v : Option Value) (h : Heap) (L : List Loc) : Prop := ∃ (b : Addr) (kB : ClassId) (vs : List Value), v = some (.ref b) ∧ Fr n0 L ∧ Keep h0 h [] ∧ h0.size ≤ b ∧ n0 ≤ b ∧ Arv Z h b kB .byte (1 : Int32) vs (.int (0 : Int32))
set_option maxRecDepth 65536 in
set_option maxHeartbeats 40000000 in
theorem rmCx11 (l : Launch) (Z : State) (a0 : Array Value) (hw : ∀ d ∈ tables_1, d.before a0 Z = true) (ws : List Jvm.Cond) (aC : Addr) (kC : ClassId) (c0 : Int32) (h0 : Heap) (n0 : Nat) (Z0 : n0 ≤ h0.size) (Sd : Sta Z h0 "java/lang/StringUTF16" "$assertionsDisabled" "Z" (.int (1 : Int32))) (Sh : Sta Z h0 "java/lang/StringUTF16" "HI_BYTE_SHIFT" "I" (.int (0 : Int32))) (Sl : Sta Z h0 "java/lang/StringUTF16" "LO_BYTE_SHIFT" "I" (.int (8 : Int32))) (VC : Arv Z h0 aC kC .char (1 : Int32) [(.int c0)] (.int (0 : Int32))) (hc0 : ¬ (255 : Int32) < c0) :
    MetFree l mN6 (head1 (Jvm.Cond.code mN6 jdk_52_method_16_code 6 (some (.array .byte)) :: ws) ({ frames := 1, cells := 1, slots := 1, locals := 18 } : Room)) (fun aa U => aa = #[(.ref aC), (.int (0 : Int32)), (.int (1 : Int32))] ∧ Z.Warmed39 U.vm ∧ U.heap = h0) (fun _ _ _ _ _ => True) (fun _ u1_ o_ u2_ => ∃ v_ l_, o_ = .returned v_ ∧ QCx11 Z aC kC c0 h0 n0 v_ u2_.heap l_ ∧ FrameEnd u1_ o_ u2_ l_ ({ frames := 1, cells := 1, slots := 1, locals := 18 } : Room).cells ({ frames := 1, cells := 1, slots := 1, locals := 18 } : Room).slots) := by
  refine MetFree.of_bodySF (plainFor_of_name pn_java_lang_StringUTF16) hisR ?_
  intro p e s m args below meth c s₁ Bd hml0 hP hK
  obtain ⟨rfl, hZ, hh⟩ := hP
  have hx := Bd.exec
  have hby := Bd.bytes
  have hlk := BodyLoose.notSynchronized Bd
  have hret := Bd.returns
  have hml : c.maxLocals = 6 := hml0
  have hown : s.vm.findClass "java/lang/StringUTF16" = some m.cls := findClass_of_methodNamed Bd.named
  have hnm := (name_of_methodNamed Bd.named Bd.method).1
  have X0 : Stand p l e ({ frames := 1, cells := 1, slots := 1, locals := 18 } : Room) s m #[(.ref aC), (.int (0 : Int32)), (.int (1 : Int32))] below meth c s₁ [] 0 0 := Stand.of_body Bd
  have e0 : s₁.heap = h0 := by rw [← hh, Bd.state]; rfl
  have N0 := Fr.nil n0
  refine Goes.st (E := (EN s (QCx11 Z aC kC c0 h0 n0) ({ frames := 1, cells := 1, slots := 1, locals := 18 } : Room).cells ({ frames := 1, cells := 1, slots := 1, locals := 18 } : Room).slots)) (fun tg kg => castTop (ef_Cx11 m aC (0 : Int32) (1 : Int32)) kg) ?_
  have K0 : Keep h0 h0 [] := Keep.refl _ _
  show Gs p e below _ s₁ m 0 #[rv aC, iv (0 : Int32), iv (1 : Int32), .unset, .unset, .unset] []
  refine giloadN X0 hx (hb hby dj52_16_0) rfl ?_
  obtain ⟨T1, h1, cA1, X1, e1, E1, A1, st1⟩ := newP X0 hx hZ (hwk hw 23 rfl) e0 (g := (mkF m 1 #[rv aC, iv (0 : Int32), iv (1 : Int32), .unset, .unset, .unset] [(.int (1 : Int32))])) rfl (hb hby dj52_16_1) rfl (by decide) (cap := 1) (by decide) (by decide) (by decide) (by decide)
  obtain ⟨b1, g1⟩ : ∃ z, z = h0.size := ⟨_, rfl⟩
  rw [← g1] at A1 st1
  have ne_aC_b1 : aC ≠ b1 := Nat.ne_of_lt (Nat.lt_of_lt_of_le VC.lt (Nat.le_of_eq g1.symm))
  have lo_b1 : n0 ≤ b1 := by have := Z0; omega
  have sz_b1 : h0.size ≤ b1 := by have := K0.1; omega
  have KK2 := K0.ext E1
  have V1 : Arv Z h1 b1 cA1 .byte (1 : Int32) [(.int (0 : Int32))] (.int (0 : Int32)) := (Arv.new A1 (by decide)).pad (pad_rep [] _ 1)
  refine Goes.st st1 ?_
  have Z1 : n0 ≤ h1.size := Nat.le_trans Z0 E1.1
  show Gs p e below _ T1 m 3 #[rv aC, iv (0 : Int32), iv (1 : Int32), .unset, .unset, .unset] [(.ref b1)]
  refine gastoreN X1 hx (hb hby dj52_16_3) trivial rfl (l' := #[rv aC, iv (0 : Int32), iv (1 : Int32), rv b1, .unset, .unset]) rfl ?_
  refine galoadN X1 hx (hb hby dj52_16_4) rfl rfl ?_
  refine giloadN X1 hx (hb hby dj52_16_5) rfl ?_
  refine galoadN X1 hx (hb hby dj52_16_6) rfl rfl ?_
  refine giconst X1 hx (hb hby dj52_16_7) ?_
  show Gs p e below _ T1 m 8 #[rv aC, iv (0 : Int32), iv (1 : Int32), rv b1, .unset, .unset] [(.int (0 : Int32)), (.ref b1), (.int (0 : Int32)), (.ref aC)]
  refine giloadN X1 hx (hb hby dj52_16_8) rfl ?_
  have f3 := (VC.ext E1)
  obtain ⟨_, _, ⟨T4, L4, k4, n4⟩, -, X4, ⟨Lc4, hQ4, l4, y4, z4⟩, st4⟩ := Jvm.LawKit.callS X1 hx (y := mN5) hown (mvT hZ (hwk hw 24 rfl)) (mvT hZ (hwk hw 25 rfl)) (mvT hZ (hwk hw 21 rfl)) (mvT hZ (hwk hw 26 rfl)) (by decide) (backOf (W := 0) (rmCm11 l Z a0 hw [] aC kC c0 b1 cA1 h1 n0 Z1 f3 V1 lo_b1 ne_aC_b1 hc0) hZ (hwk hw 26 rfl) (hwk hw 21 rfl) (by decide) (by decide)) (g := (mkF m 9 #[rv aC, iv (0 : Int32), iv (1 : Int32), rv b1, .unset, .unset] [(.int (1 : Int32)), (.int (0 : Int32)), (.ref b1), (.int (0 : Int32)), (.ref aC)])) rfl (by rw [hml]; rfl) (argsL := [(.ref aC), (.int (0 : Int32)), (.ref b1), (.int (0 : Int32)), (.int (1 : Int32))]) (rest := []) (lenOf pd___CI_BII_I_1ed0 rfl) rfl (by show 2 * 0 + _ ≤ _; exact Nat.le_of_eq rfl) (hb hby dj52_16_9) (fun _ _ => ⟨rfl, e1, (by decide : 1 + 0 ≤ 1), (by decide : 1 + 0 ≤ 1)⟩)
  dsimp only [Pt.U, Pt.locs, Pt.cells, Pt.slots] at X4 l4 y4 z4 st4 hQ4
  subst l4 y4 z4
  obtain ⟨vs4, rfl, N4q, K4, V4⟩ := hQ4
  have KK5 := KK2.trans K4 (allS (Or.inr sz_b1) all0)
  have Z4 : n0 ≤ T4.heap.size := Nat.le_trans Z1 K4.1
  have N4 := Fr.app N0 N4q
  refine Goes.st st4 ?_
  show Gs p e below _ T4 m 12 #[rv aC, iv (0 : Int32), iv (1 : Int32), rv b1, .unset, .unset] [(.int (1 : Int32))]
  refine gistore X4 hx (hb hby dj52_16_12) trivial (l' := #[rv aC, iv (0 : Int32), iv (1 : Int32), rv b1, iv (1 : Int32), .unset]) rfl ?_
  refine giload X4 hx (hb hby dj52_16_14) rfl ?_
  refine giloadN X4 hx (hb hby dj52_16_16) rfl ?_
  show Gs p e below _ T4 m 17 #[rv aC, iv (0 : Int32), iv (1 : Int32), rv b1, iv (1 : Int32), .unset] [(.int (1 : Int32)), (.int (1 : Int32))]
  refine gicmpYes X4 hx (pc' := 57) (hb hby dj52_16_17) (by decide) (by decide) (by decide) ?_
  show Gs p e below _ T4 m 57 #[rv aC, iv (0 : Int32), iv (1 : Int32), rv b1, iv (1 : Int32), .unset] []
  refine galoadN X4 hx (hb hby dj52_16_57) rfl rfl ?_
  show Gs p e below _ T4 m 58 #[rv aC, iv (0 : Int32), iv (1 : Int32), rv b1, iv (1 : Int32), .unset] [(.ref b1)]
  refine Goes.retA X4 hx hret rfl rfl rfl (hb hby dj52_16_58) (lvN X4 hlk (vsome hret) ?_ (by decide) (by decide))
  exact ⟨b1, cA1, _, rfl, N4, KK5, sz_b1, lo_b1, V4⟩
theorem ef_Cl11 (m : MethodId) (x0 : Addr) (x1 : Int32) : entryFrame m #[(.ref x0), (.int x1)] 2 = mkF m 0 #[rv x0, iv x1] [] := by first | (simp [entryFrame, mkF, argsToLocals, Value.category]; done) | rfl
def QCl11 (Z : State) (aB : Addr) (kB : ClassId) (vs : List Value) (h0 : Heap) (n0 : Nat) (v : Option Value) (h : Heap) (L : List Loc) : Prop := v = some (.int (0 : Int32)) ∧ Fr n0 L ∧ h = h0
set_option maxRecDepth 65536 in
set_option maxHeartbeats 40000000 in
theorem rmCl11 (l : Launch) (Z : State) (a0 : Array Value) (hw : ∀ d ∈ tables_1, d.before a0 Z = true) (ws : List Jvm.Cond) (aB : Addr) (kB : ClassId) (vs : List Value) (h0 : Heap) (n0 : Nat) (Z0 : n0 ≤ h0.size) (VB : Arv Z h0 aB kB .byte (1 : Int32) vs (.int (0 : Int32))) :
    MetFree l mN7 (head1 (Jvm.Cond.code mN7 jdk_52_method_15_code 2 (some .byte) :: ws) ({ frames := 0, cells := 0, slots := 0, locals := 0 } : Room)) (fun aa U => aa = #[(.ref aB), (.int (1 : Int32))] ∧ Z.Warmed39 U.vm ∧ U.heap = h0) (fun _ _ _ _ _ => True) (fun _ u1_ o_ u2_ => ∃ v_ l_, o_ = .returned v_ ∧ QCl11 Z aB kB vs h0 n0 v_ u2_.heap l_ ∧ FrameEnd u1_ o_ u2_ l_ ({ frames := 0, cells := 0, slots := 0, locals := 0 } : Room).cells ({ frames := 0, cells := 0, slots := 0, locals := 0 } : Room).slots) := by
  refine MetFree.of_bodySF (plainFor_of_name pn_java_lang_StringUTF16) hisR ?_
  intro p e s m args below meth c s₁ Bd hml0 hP hK
  obtain ⟨rfl, hZ, hh⟩ := hP
  have hx := Bd.exec
  have hby := Bd.bytes
  have hlk := BodyLoose.notSynchronized Bd
  have hret := Bd.returns
  have hml : c.maxLocals = 2 := hml0
  have hown : s.vm.findClass "java/lang/StringUTF16" = some m.cls := findClass_of_methodNamed Bd.named
  have hnm := (name_of_methodNamed Bd.named Bd.method).1
  have X0 : Stand p l e ({ frames := 0, cells := 0, slots := 0, locals := 0 } : Room) s m #[(.ref aB), (.int (1 : Int32))] below meth c s₁ [] 0 0 := Stand.of_body Bd
  have e0 : s₁.heap = h0 := by rw [← hh, Bd.state]; rfl
  have N0 := Fr.nil n0
  refine Goes.st (E := (EN s (QCl11 Z aB kB vs h0 n0) ({ frames := 0, cells := 0, slots := 0, locals := 0 } : Room).cells ({ frames := 0, cells := 0, slots := 0, locals := 0 } : Room).slots)) (fun tg kg => castTop (ef_Cl11 m aB (1 : Int32)) kg) ?_
  show Gs p e below _ s₁ m 0 #[rv aB, iv (1 : Int32)] []
  refine giloadN X0 hx (hb hby dj52_15_0) rfl ?_
  refine galoadN X0 hx (hb hby dj52_15_1) rfl rfl ?_
  show Gs p e below _ s₁ m 2 #[rv aB, iv (1 : Int32)] [(.ref aB), (.int (1 : Int32))]
  obtain ⟨cl1, Ar1, qk1, Sz1, qz1, Ha1, Gf1⟩ := id VB
  refine Goes.st (fun tg kg => X0.arraylength hx (cell := cl1) (by rw [e0]; exact Ar1.1) (State.isArrayOf_alike hZ.alike Ar1.2.1) (g := (mkF m 2 #[rv aB, iv (1 : Int32)] [(.ref aB), (.int (1 : Int32))])) rfl (rest := [(.int (1 : Int32))]) rfl (hb hby dj52_15_2) tg kg) ?_
  rw [len_of Sz1 qz1]
  show Gs p e below _ s₁ m 3 #[rv aB, iv (1 : Int32)] [(.int (1 : Int32)), (.int (1 : Int32))]
  refine gisub X0 hx (hb hby dj52_15_3) trivial ?_
  show Gs p e below _ s₁ m 4 #[rv aB, iv (1 : Int32)] [(.int ((1 : Int32) - (1 : Int32)))]
  rw [show ((1 : Int32) - (1 : Int32)) = (0 : Int32) from by decide]
  show Gs p e below _ s₁ m 4 #[rv aB, iv (1 : Int32)] [(.int (0 : Int32))]
  refine Goes.st (fun tg kg => XS.bipush X0.here hx rfl (hb hby dj52_15_4) kg) ?_
  show Gs p e below _ s₁ m 6 #[rv aB, iv (1 : Int32)] [(.int (31 : Int32)), (.int (0 : Int32))]
  refine Goes.st (fun tg kg => XT.iushr X0.here hx rfl (hb hby dj52_15_6) rfl kg) ?_
  show Gs p e below _ s₁ m 7 #[rv aB, iv (1 : Int32)] [(.int (XT.ushr (0 : Int32) (31 : Int32)))]
  rw [show (XT.ushr (0 : Int32) (31 : Int32)) = (0 : Int32) from by decide]
  show Gs p e below _ s₁ m 7 #[rv aB, iv (1 : Int32)] [(.int (0 : Int32))]
  refine Goes.st (fun tg kg => XT.i2b X0.here hx rfl (hb hby dj52_15_7) rfl kg) ?_
  show Gs p e below _ s₁ m 8 #[rv aB, iv (1 : Int32)] [(.int ((0 : Int32)).toInt8.toInt32)]
  rw [show ((0 : Int32)).toInt8.toInt32 = (0 : Int32) from by decide]
  show Gs p e below _ s₁ m 8 #[rv aB, iv (1 : Int32)] [(.int (0 : Int32))]
  refine Goes.retN X0 hx hret (by simp) (hb hby dj52_15_8) (by decide) (lvN X0 hlk (vsome hret) ?_ (by decide) (by decide))
  rw [e0]
  exact ⟨rfl, N0, rfl⟩
theorem ef_Iv11 (m : MethodId) (x0 : Addr) (x1 : Addr) (x2 : Int32) (x3 : Int32) : entryFrame m #[(.ref x0), (.ref x1), (.int x2), (.int x3), .null] 6 = mkF m 0 #[rv x0, rv x1, iv x2, iv x3, .val .null, .unset] [] := by first | (simp [entryFrame, mkF, argsToLocals, Value.category]; done) | rfl
def QIv11 (Z : State) (a : Addr) (cs : Int32) (aC : Addr) (kC : ClassId) (c0 : Int32) (h0 : Heap) (n0 : Nat) (v : Option Value) (h : Heap) (L : List Loc) : Prop := v = none ∧ Fr n0 L ∧ Keep h0 h [a]
set_option maxRecDepth 65536 in
set_option maxHeartbeats 40000000 in
theorem rmIv11 (l : Launch) (Z : State) (a0 : Array Value) (hw : ∀ d ∈ tables_1, d.before a0 Z = true) (ws : List Jvm.Cond) (a : Addr) (cs : Int32) (aC : Addr) (kC : ClassId) (c0 : Int32) (h0 : Heap) (n0 : Nat) (Z0 : n0 ≤ h0.size) (Scs : Sta Z h0 "java/lang/String" "COMPACT_STRINGS" "Z" (.int cs)) (hcs : ¬ cs = (0 : Int32)) (Sd : Sta Z h0 "java/lang/StringUTF16" "$assertionsDisabled" "Z" (.int (1 : Int32))) (Sh : Sta Z h0 "java/lang/StringUTF16" "HI_BYTE_SHIFT" "I" (.int (0 : Int32))) (Sl : Sta Z h0 "java/lang/StringUTF16" "LO_BYTE_SHIFT" "I" (.int (8 : Int32))) (Ea : Exa Z h0 a "java/lang/String") (ga : n0 ≤ a) (Fv : Fld Z h0 a "java/lang/String" "value" "[B" .null) (Fc : Fld Z h0 a "java/lang/String" "coder" "B" (.int (0 : Int32))) (VC : Arv Z h0 aC kC .char (1 : Int32) [(.int c0)] (.int (0 : Int32))) (naC : a ≠ aC) (hc0 : ¬ (255 : Int32) < c0) :
    MetFree l mN8 (head1 (Jvm.Cond.code mN8 jdk_42_method_149_code 6 none :: ws) ({ frames := 2, cells := 1, slots := 1, locals := 35 } : Room)) (fun aa U => aa = #[(.ref a), (.ref aC), (.int (0 : Int32)), (.int (1 : Int32)), .null] ∧ Z.Warmed39 U.vm ∧ U.heap = h0) (fun _ _ _ _ _ => True) (fun _ u1_ o_ u2_ => ∃ v_ l_, o_ = .returned v_ ∧ QIv11 Z a cs aC kC c0 h0 n0 v_ u2_.heap l_ ∧ FrameEnd u1_ o_ u2_ l_ ({ frames := 2, cells := 1, slots := 1, locals := 35 } : Room).cells ({ frames := 2, cells := 1, slots := 1, locals := 35 } : Room).slots) := by
  refine MetFree.of_bodySF (plainFor_of_name pn_java_lang_String) hisR ?_
  intro p e s m args below meth c s₁ Bd hml0 hP hK
  obtain ⟨rfl, hZ, hh⟩ := hP
  have hx := Bd.exec
  have hby := Bd.bytes
  have hlk := BodyLoose.notSynchronized Bd
  have hret := Bd.returns
  have hml : c.maxLocals = 6 := hml0
  have hown : s.vm.findClass "java/lang/String" = some m.cls := findClass_of_methodNamed Bd.named
  have hnm := (name_of_methodNamed Bd.named Bd.method).1
  have X0 : Stand p l e ({ frames := 2, cells := 1, slots := 1, locals := 35 } : Room) s m #[(.ref a), (.ref aC), (.int (0 : Int32)), (.int (1 : Int32)), .null] below meth c s₁ [] 0 0 := Stand.of_body Bd
  have e0 : s₁.heap = h0 := by rw [← hh, Bd.state]; rfl
  have N0 := Fr.nil n0
  refine Goes.st (E := (EN s (QIv11 Z a cs aC kC c0 h0 n0) ({ frames := 2, cells := 1, slots := 1, locals := 35 } : Room).cells ({ frames := 2, cells := 1, slots := 1, locals := 35 } : Room).slots)) (fun tg kg => castTop (ef_Iv11 m a aC (0 : Int32) (1 : Int32)) kg) ?_
  have K0 : Keep h0 h0 [a] := Keep.refl _ _
  show Gs p e below _ s₁ m 0 #[rv a, rv aC, iv (0 : Int32), iv (1 : Int32), .val .null, .unset] []
  refine galoadN X0 hx (hb hby dj42_149_0) rfl rfl ?_
  obtain ⟨T1, X1, e1, st1⟩ := initO X0 hx hZ hown (hwk hw 15 rfl) (hwk hw 16 rfl) (hwk hw 17 rfl) e0 (g := (mkF m 1 #[rv a, rv aC, iv (0 : Int32), iv (1 : Int32), .val .null, .unset] [(.ref a)])) rfl (by rw [hml]; rfl) rfl (hb hby dj42_149_1) (by decide) (W := 0) (by show 2 * 0 + _ ≤ _; exact Nat.le_of_eq rfl) (by decide)
  refine Goes.st st1 ?_
  show Gs p e below _ T1 m 4 #[rv a, rv aC, iv (0 : Int32), iv (1 : Int32), .val .null, .unset] []
  refine giloadN X1 hx (hb hby dj42_149_4) rfl ?_
  show Gs p e below _ T1 m 5 #[rv a, rv aC, iv (0 : Int32), iv (1 : Int32), .val .null, .unset] [(.int (1 : Int32))]
  refine gifYes X1 hx (pc' := 27) (hb hby dj42_149_5) (by decide) (by decide) (by decide) ?_
  show Gs p e below _ T1 m 27 #[rv a, rv aC, iv (0 : Int32), iv (1 : Int32), .val .null, .unset] []
  obtain ⟨T2, X2, e2, st2⟩ := getS X1 hx hZ hown (host := "") (hwk hw 18 rfl) Via.refl e1 Scs (g := (mkF m 27 #[rv a, rv aC, iv (0 : Int32), iv (1 : Int32), .val .null, .unset] [])) rfl (hb hby dj42_149_27)
  refine Goes.st st2 ?_
  show Gs p e below _ T2 m 30 #[rv a, rv aC, iv (0 : Int32), iv (1 : Int32), .val .null, .unset] [(.int cs)]
  refine gifNo X2 hx (hb hby dj42_149_30) ((if0 _ _).trans (feq hcs).1) ?_
  show Gs p e below _ T2 m 33 #[rv a, rv aC, iv (0 : Int32), iv (1 : Int32), .val .null, .unset] []
  refine galoadN X2 hx (hb hby dj42_149_33) rfl rfl ?_
  refine giloadN X2 hx (hb hby dj42_149_34) rfl ?_
  refine giloadN X2 hx (hb hby dj42_149_35) rfl ?_
  have lt3 : a < h0.size := Ea.lt
  have lt4 : aC < h0.size := VC.lt
  obtain ⟨_, _, ⟨T5, L5, k5, n5⟩, -, X5, ⟨Lc5, hQ5, l5, y5, z5⟩, st5⟩ := Jvm.LawKit.callS X2 hx (y := mN6) hown (mvT hZ (hwk hw 19 rfl)) (mvT hZ (hwk hw 20 rfl)) (mvT hZ (hwk hw 21 rfl)) (mvT hZ (hwk hw 22 rfl)) (by decide) (backOf (W := 0) (rmCx11 l Z a0 hw [] aC kC c0 h0 n0 Z0 Sd Sh Sl VC hc0) hZ (hwk hw 22 rfl) (hwk hw 21 rfl) (by decide) (by decide)) (g := (mkF m 36 #[rv a, rv aC, iv (0 : Int32), iv (1 : Int32), .val .null, .unset] [(.int (1 : Int32)), (.int (0 : Int32)), (.ref aC)])) rfl (by rw [hml]; rfl) (argsL := [(.ref aC), (.int (0 : Int32)), (.int (1 : Int32))]) (rest := []) (lenOf pd___CII__B_166f rfl) rfl (by show 2 * 0 + _ ≤ _; exact Nat.le_of_eq rfl) (hb hby dj42_149_36) (fun _ _ => ⟨rfl, e2, (by decide : 0 + 1 ≤ 1), (by decide : 0 + 1 ≤ 1)⟩)
  dsimp only [Pt.U, Pt.locs, Pt.cells, Pt.slots] at X5 l5 y5 z5 st5 hQ5
  subst l5 y5 z5
  obtain ⟨b5, kB5, vs5, rfl, N5q, K5, szq5, loq5, V5⟩ := hQ5
  have KK6 := K0.trans K5 all0
  have ne_a_b5 : a ≠ b5 := Nat.ne_of_lt (Nat.lt_of_lt_of_le lt3 szq5)
  have ne_aC_b5 : aC ≠ b5 := Nat.ne_of_lt (Nat.lt_of_lt_of_le lt4 szq5)
  have sz_b5 : h0.size ≤ b5 := by have := KK6.1; have := szq5; omega
  have Z5 : n0 ≤ T5.heap.size := Nat.le_trans Z0 K5.1
  have N5 := Fr.app N0 N5q
  refine Goes.st st5 ?_
  show Gs p e below _ T5 m 39 #[rv a, rv aC, iv (0 : Int32), iv (1 : Int32), .val .null, .unset] [(.ref b5)]
  refine gastore X5 hx (hb hby dj42_149_39) trivial rfl (l' := #[rv a, rv aC, iv (0 : Int32), iv (1 : Int32), .val .null, rv b5]) rfl ?_
  refine galoadN X5 hx (hb hby dj42_149_41) rfl rfl ?_
  refine gaload X5 hx (hb hby dj42_149_42) rfl rfl ?_
  refine giloadN X5 hx (hb hby dj42_149_44) rfl ?_
  obtain ⟨_, _, ⟨T7, L7, k7, n7⟩, -, X7, ⟨Lc7, hQ7, l7, y7, z7⟩, st7⟩ := Jvm.LawKit.callS X5 hx (y := mN7) hown (mvT hZ (hwk hw 27 rfl)) (mvT hZ (hwk hw 28 rfl)) (mvT hZ (hwk hw 21 rfl)) (mvT hZ (hwk hw 29 rfl)) (by decide) (backOf (W := 1) (rmCl11 l Z a0 hw [] b5 kB5 vs5 T5.heap n0 Z5 V5) hZ (hwk hw 29 rfl) (hwk hw 21 rfl) (by decide) (by decide)) (g := (mkF m 45 #[rv a, rv aC, iv (0 : Int32), iv (1 : Int32), .val .null, rv b5] [(.int (1 : Int32)), (.ref b5), (.ref a)])) rfl (by rw [hml]; rfl) (argsL := [(.ref b5), (.int (1 : Int32))]) (rest := [(.ref a)]) (lenOf pd___BI_B_df7 rfl) rfl (by show 2 * 0 + _ ≤ _; exact Nat.le_of_eq rfl) (hb hby dj42_149_45) (fun _ _ => ⟨rfl, rfl, (by decide : 1 + 0 ≤ 1), (by decide : 1 + 0 ≤ 1)⟩)
  dsimp only [Pt.U, Pt.locs, Pt.cells, Pt.slots] at X7 l7 y7 z7 st7 hQ7
  subst l7 y7 z7
  obtain ⟨rfl, N7q, eh7⟩ := hQ7
  have N7 := Fr.app N5 N7q
  refine Goes.st st7 ?_
  show Gs p e below _ T7 m 48 #[rv a, rv aC, iv (0 : Int32), iv (1 : Int32), .val .null, rv b5] [(.int (0 : Int32)), (.ref a)]
  have f9 := (Fc.keep K5 nin0)
  have f10 := (Ea.keep K5)
  obtain ⟨T8, h8, X8, e8, W8, st8⟩ := putFN X7 hx hZ hown (hwk hw 30 rfl) Via.refl eh7 f9 f10 (Or.inr ⟨(hwk hw 31 rfl), rfl, hnm⟩) (hwk hw 5 rfl) (ty := .byte) (v' := (.int (0 : Int32))) (by decide) rfl (by decide) (g := (mkF m 48 #[rv a, rv aC, iv (0 : Int32), iv (1 : Int32), .val .null, rv b5] [(.int (0 : Int32)), (.ref a)])) rfl rfl (hb hby dj42_149_48)
  have N8 := Fr.snoc X8 N7 ga
  have G8 := f9.same W8
  refine Goes.st st8 ?_
  have KK11 := KK6.wr W8 (Or.inl (List.mem_of_getElem? (i := 0) rfl))
  have Z8 : n0 ≤ h8.size := by have := W8.size; have := Z5; omega
  show Gs p e below _ T8 m 51 #[rv a, rv aC, iv (0 : Int32), iv (1 : Int32), .val .null, rv b5] []
  refine galoadN X8 hx (hb hby dj42_149_51) rfl rfl ?_
  refine gaload X8 hx (hb hby dj42_149_52) rfl rfl ?_
  have f13 := ((Fv.keep K5 nin0).other W8 (Or.inr (slot_ne (Or.inr (hwk hw 33 rfl)) (Or.inr (hwk hw 31 rfl)) (by decide) (t := (.array .byte)) (t' := .byte) (by decide) (by decide))))
  have f14 := (f10.wr W8)
  obtain ⟨T12, h12, X12, e12, W12, st12⟩ := putF X8 hx hZ hown (host := "") (Or.inl (hwk hw 32 rfl)) Via.refl e8 f13 f14 (Or.inr ⟨(hwk hw 33 rfl), rfl, hnm⟩) (hwk hw 5 rfl) (ty := (.array .byte)) (by decide) rfl rfl (g := (mkF m 54 #[rv a, rv aC, iv (0 : Int32), iv (1 : Int32), .val .null, rv b5] [(.ref b5), (.ref a)])) rfl rfl (hb hby dj42_149_54)
  have N12 := Fr.snoc X12 N8 ga
  have G12 := f13.same W12
  refine Goes.st st12 ?_
  have KK15 := KK11.wr W12 (Or.inl (List.mem_of_getElem? (i := 0) rfl))
  have Z12 : n0 ≤ h12.size := by have := W12.size; have := Z8; omega
  show Gs p e below _ T12 m 57 #[rv a, rv aC, iv (0 : Int32), iv (1 : Int32), .val .null, rv b5] []
  refine Goes.retV X12 hx hret (hb hby dj42_149_57) (lvN X12 hlk (fun _ => rfl) ?_ (by decide) (by decide))
  rw [e12]
  exact ⟨rfl, N12, KK15⟩
theorem ef_Ic11 (m : MethodId) (x0 : Addr) (x1 : Addr) : entryFrame m #[(.ref x0), (.ref x1)] 2 = mkF m 0 #[rv x0, rv x1] [] := by first | (simp [entryFrame, mkF, argsToLocals, Value.category]; done) | rfl
def QIc11 (Z : State) (a : Addr) (cs : Int32) (aC : Addr) (kC : ClassId) (c0 : Int32) (h0 : Heap) (n0 : Nat) (v : Option Value) (h : Heap) (L : List Loc) : Prop := v = none ∧ Fr n0 L ∧ Keep h0 h [a]
set_option maxRecDepth 65536 in
set_option maxHeartbeats 40000000 in
theorem rmIc11 (l : Launch) (Z : State) (a0 : Array Value) (hw : ∀ d ∈ tables_1, d.before a0 Z = true) (ws : List Jvm.Cond) (a : Addr) (cs : Int32) (aC : Addr) (kC : ClassId) (c0 : Int32) (h0 : Heap) (n0 : Nat) (Z0 : n0 ≤ h0.size) (Scs : Sta Z h0 "java/lang/String" "COMPACT_STRINGS" "Z" (.int cs)) (hcs : ¬ cs = (0 : Int32)) (Sd : Sta Z h0 "java/lang/StringUTF16" "$assertionsDisabled" "Z" (.int (1 : Int32))) (Sh : Sta Z h0 "java/lang/StringUTF16" "HI_BYTE_SHIFT" "I" (.int (0 : Int32))) (Sl : Sta Z h0 "java/lang/StringUTF16" "LO_BYTE_SHIFT" "I" (.int (8 : Int32))) (Ea : Exa Z h0 a "java/lang/String") (ga : n0 ≤ a) (Fv : Fld Z h0 a "java/lang/String" "value" "[B" .null) (Fc : Fld Z h0 a "java/lang/String" "coder" "B" (.int (0 : Int32))) (VC : Arv Z h0 aC kC .char (1 : Int32) [(.int c0)] (.int (0 : Int32))) (naC : a ≠ aC) (hc0 : ¬ (255 : Int32) < c0) :
    MetFree l mN9 (head1 (Jvm.Cond.code mN9 jdk_42_method_3_code 2 none :: ws) ({ frames := 3, cells := 1, slots := 1, locals := 52 } : Room)) (fun aa U => aa = #[(.ref a), (.ref aC)] ∧ Z.Warmed39 U.vm ∧ U.heap = h0) (fun _ _ _ _ _ => True) (fun _ u1_ o_ u2_ => ∃ v_ l_, o_ = .returned v_ ∧ QIc11 Z a cs aC kC c0 h0 n0 v_ u2_.heap l_ ∧ FrameEnd u1_ o_ u2_ l_ ({ frames := 3, cells := 1, slots := 1, locals := 52 } : Room).cells ({ frames := 3, cells := 1, slots := 1, locals := 52 } : Room).slots) := by
  refine MetFree.of_bodySF (plainFor_of_name pn_java_lang_String) hisR ?_
  intro p e s m args below meth c s₁ Bd hml0 hP hK
  obtain ⟨rfl, hZ, hh⟩ := hP
  have hx := Bd.exec
  have hby := Bd.bytes
  have hlk := BodyLoose.notSynchronized Bd
  have hret := Bd.returns
  have hml : c.maxLocals = 2 := hml0
  have hown : s.vm.findClass "java/lang/String" = some m.cls := findClass_of_methodNamed Bd.named
  have hnm := (name_of_methodNamed Bd.named Bd.method).1
  have X0 : Stand p l e ({ frames := 3, cells := 1, slots := 1, locals := 52 } : Room) s m #[(.ref a), (.ref aC)] below meth c s₁ [] 0 0 := Stand.of_body Bd
  have e0 : s₁.heap = h0 := by rw [← hh, Bd.state]; rfl
  have N0 := Fr.nil n0
  refine Goes.st (E := (EN s (QIc11 Z a cs aC kC c0 h0 n0) ({ frames := 3, cells := 1, slots := 1, locals := 52 } : Room).cells ({ frames := 3, cells := 1, slots := 1, locals := 52 } : Room).slots)) (fun tg kg => castTop (ef_Ic11 m a aC) kg) ?_
  have K0 : Keep h0 h0 [a] := Keep.refl _ _
  show Gs p e below _ s₁ m 0 #[rv a, rv aC] []
  refine galoadN X0 hx (hb hby dj42_3_0) rfl rfl ?_
  refine galoadN X0 hx (hb hby dj42_3_1) rfl rfl ?_
  refine giconst X0 hx (hb hby dj42_3_2) ?_
  refine galoadN X0 hx (hb hby dj42_3_3) rfl rfl ?_
  show Gs p e below _ s₁ m 4 #[rv a, rv aC] [(.ref aC), (.int (0 : Int32)), (.ref aC), (.ref a)]
  obtain ⟨cl1, Ar1, qk1, Sz1, qz1, Ha1, Gf1⟩ := id VC
  refine Goes.st (fun tg kg => X0.arraylength hx (cell := cl1) (by rw [e0]; exact Ar1.1) (State.isArrayOf_alike hZ.alike Ar1.2.1) (g := (mkF m 4 #[rv a, rv aC] [(.ref aC), (.int (0 : Int32)), (.ref aC), (.ref a)])) rfl (rest := [(.int (0 : Int32)), (.ref aC), (.ref a)]) rfl (hb hby dj42_3_4) tg kg) ?_
  rw [len_of Sz1 qz1]
  show Gs p e below _ s₁ m 5 #[rv a, rv aC] [(.int (1 : Int32)), (.int (0 : Int32)), (.ref aC), (.ref a)]
  refine Goes.st (fun tg kg => XS.aconstNull X0.here hx rfl (hb hby dj42_3_5) kg) ?_
  obtain ⟨_, _, ⟨T2, L2, k2, n2⟩, -, X2, ⟨Lc2, hQ2, l2, y2, z2⟩, st2⟩ := X0.specialBack hx (y := mN8) rfl hown (mvT hZ (hwk hw 11 rfl)) (mvT hZ (hwk hw 12 rfl)) (mvT hZ (hwk hw 14 rfl)) (by decide) (backOf (W := 0) (rmIv11 l Z a0 hw [] a cs aC kC c0 h0 n0 Z0 Scs hcs Sd Sh Sl Ea ga Fv Fc VC naC hc0) hZ (hwk hw 14 rfl) (hwk hw 6 rfl) (by decide) (by decide)) (g := (mkF m 6 #[rv a, rv aC] [.null, (.int (1 : Int32)), (.int (0 : Int32)), (.ref aC), (.ref a)])) rfl (by rw [hml]; rfl) (Steps.refl _) (a := a) (argsL := [(.ref aC), (.int (0 : Int32)), (.int (1 : Int32)), .null]) (rest := []) (lenOf pd___CIILjava_lang_Void__V_897f rfl) rfl (by show 2 * 0 + _ ≤ _; exact Nat.le_of_eq rfl) (hb hby dj42_3_6) (fun _ _ => ⟨rfl, e0, (by decide : 0 + 1 ≤ 1), (by decide : 0 + 1 ≤ 1)⟩)
  dsimp only [Pt.U, Pt.locs, Pt.cells, Pt.slots] at X2 l2 y2 z2 st2 hQ2
  subst l2 y2 z2
  obtain ⟨rfl, N2q, K2⟩ := hQ2
  have KK3 := K0.trans K2 (allS (Or.inl (List.mem_of_getElem? (i := 0) rfl)) all0)
  have Z2 : n0 ≤ T2.heap.size := Nat.le_trans Z0 K2.1
  have N2 := Fr.app N0 N2q
  refine Goes.sts st2 ?_
  show Gs p e below _ T2 m 9 #[rv a, rv aC] []
  refine Goes.retV X2 hx hret (hb hby dj42_3_9) (lvN X2 hlk (fun _ => rfl) ?_ (by decide) (by decide))
  exact ⟨rfl, N2, KK3⟩
theorem ef_Nl2 (m : MethodId) (x0 : Int32) : entryFrame m #[(.int x0)] 1 = mkF m 0 #[iv x0] [] := by first | (simp [entryFrame, mkF, argsToLocals, Value.category]; done) | rfl
def QNl2 (Z : State) (zz : Unit) (h0 : Heap) (n0 : Nat) (v : Option Value) (h : Heap) (L : List Loc) : Prop := v = some (.int (4 : Int32)) ∧ Fr n0 L ∧ h = h0
set_option maxRecDepth 65536 in
set_option maxHeartbeats 40000000 in
theorem rmNl2 (l : Launch) (Z : State) (a0 : Array Value) (hw : ∀ d ∈ tables_1, d.before a0 Z = true) (ws : List Jvm.Cond) (zz : Unit) (h0 : Heap) (n0 : Nat) (Z0 : n0 ≤ h0.size)  :
    MetFree l mN0 (head1 (Jvm.Cond.code mN0 jdk_52_method_3_code 1 (some .int) :: ws) ({ frames := 0, cells := 0, slots := 0, locals := 0 } : Room)) (fun aa U => aa = #[(.int (2 : Int32))] ∧ Z.Warmed39 U.vm ∧ U.heap = h0) (fun _ _ _ _ _ => True) (fun _ u1_ o_ u2_ => ∃ v_ l_, o_ = .returned v_ ∧ QNl2 Z zz h0 n0 v_ u2_.heap l_ ∧ FrameEnd u1_ o_ u2_ l_ ({ frames := 0, cells := 0, slots := 0, locals := 0 } : Room).cells ({ frames := 0, cells := 0, slots := 0, locals := 0 } : Room).slots) := by
  refine MetFree.of_bodySF (plainFor_of_name pn_java_lang_StringUTF16) hisR ?_
  intro p e s m args below meth c s₁ Bd hml0 hP hK
  obtain ⟨rfl, hZ, hh⟩ := hP
  have hx := Bd.exec
  have hby := Bd.bytes
  have hlk := BodyLoose.notSynchronized Bd
  have hret := Bd.returns
  have hml : c.maxLocals = 1 := hml0
  have hown : s.vm.findClass "java/lang/StringUTF16" = some m.cls := findClass_of_methodNamed Bd.named
  have hnm := (name_of_methodNamed Bd.named Bd.method).1
  have X0 : Stand p l e ({ frames := 0, cells := 0, slots := 0, locals := 0 } : Room) s m #[(.int (2 : Int32))] below meth c s₁ [] 0 0 := Stand.of_body Bd
  have e0 : s₁.heap = h0 := by rw [← hh, Bd.state]; rfl
  have N0 := Fr.nil n0
  refine Goes.st (E := (EN s (QNl2 Z zz h0 n0) ({ frames := 0, cells := 0, slots := 0, locals := 0 } : Room).cells ({ frames := 0, cells := 0, slots := 0, locals := 0 } : Room).slots)) (fun tg kg => castTop (ef_Nl2 m (2 : Int32)) kg) ?_
  show Gs p e below _ s₁ m 0 #[iv (2 : Int32)] []
  refine giloadN X0 hx (hb hby dj52_3_0) rfl ?_
  show Gs p e below _ s₁ m 1 #[iv (2 : Int32)] [(.int (2 : Int32))]
  refine gifYes X0 hx (pc' := 12) (hb hby dj52_3_1) (by decide) (by decide) (by decide) ?_
  show Gs p e below _ s₁ m 12 #[iv (2 : Int32)] []
  refine giloadN X0 hx (hb hby dj52_3_12) rfl ?_
  show Gs p e below _ s₁ m 13 #[iv (2 : Int32)] [(.int (2 : Int32))]
  refine Goes.st (fun tg kg => X0.ldcInt hx hown (mvT hZ (hwk hw 84 rfl)) (g := (mkF m 13 #[iv (2 : Int32)] [(.int (2 : Int32))])) rfl (hb hby dj52_3_13) tg kg) ?_
  show Gs p e below _ s₁ m 15 #[iv (2 : Int32)] [(.int (1073741823 : Int32)), (.int (2 : Int32))]
  refine gicmpYes X0 hx (pc' := 55) (hb hby dj52_3_15) (by decide) (by decide) (by decide) ?_
  show Gs p e below _ s₁ m 55 #[iv (2 : Int32)] []
  refine giloadN X0 hx (hb hby dj52_3_55) rfl ?_
  refine giconst X0 hx (hb hby dj52_3_56) ?_
  show Gs p e below _ s₁ m 57 #[iv (2 : Int32)] [(.int (1 : Int32)), (.int (2 : Int32))]
  refine Goes.st (fun tg kg => XT.ishl X0.here hx rfl (hb hby dj52_3_57) rfl kg) ?_
  show Gs p e below _ s₁ m 58 #[iv (2 : Int32)] [(.int ((2 : Int32) <<< ((1 : Int32) &&& 31)))]
  rw [show ((2 : Int32) <<< ((1 : Int32) &&& 31)) = (4 : Int32) from by decide]
  show Gs p e below _ s₁ m 58 #[iv (2 : Int32)] [(.int (4 : Int32))]
  refine Goes.retI X0 hx hret (hb hby dj52_3_58) (lvN X0 hlk (vsome hret) ?_ (by decide) (by decide))
  rw [e0]
  exact ⟨rfl, N0, rfl⟩
theorem ef_Nf2 (m : MethodId) (x0 : Int32) : entryFrame m #[(.int x0)] 1 = mkF m 0 #[iv x0] [] := by first | (simp [entryFrame, mkF, argsToLocals, Value.category]; done) | rfl
def QNf2 (Z : State) (zz : Unit) (h0 : Heap) (n0 : Nat) (v : Option Value) (h : Heap) (L : List Loc) : Prop := ∃ (b : Addr) (kB : ClassId), v = some (.ref b) ∧ Fr n0 L ∧ Keep h0 h [] ∧ h0.size ≤ b ∧ n0 ≤ b ∧ Arv Z h b kB .byte (4 : Int32) [(.int (0 : Int32)), (.int (0 : Int32)), (.int (0 : Int32)), (.int (0 : Int32))] (.int (0 : Int32))
set_option maxRecDepth 65536 in
set_option maxHeartbeats 40000000 in
theorem rmNf2 (l : Launch) (Z : State) (a0 : Array Value) (hw : ∀ d ∈ tables_1, d.before a0 Z = true) (ws : List Jvm.Cond) (zz : Unit) (h0 : Heap) (n0 : Nat) (Z0 : n0 ≤ h0.size)  :
    MetFree l mN1 (head1 (Jvm.Cond.code mN1 jdk_52_method_2_code 1 (some (.array .byte)) :: ws) ({ frames := 1, cells := 1, slots := 4, locals := 12 } : Room)) (fun aa U => aa = #[(.int (2 : Int32))] ∧ Z.Warmed39 U.vm ∧ U.heap = h0) (fun _ _ _ _ _ => True) (fun _ u1_ o_ u2_ => ∃ v_ l_, o_ = .returned v_ ∧ QNf2 Z zz h0 n0 v_ u2_.heap l_ ∧ FrameEnd u1_ o_ u2_ l_ ({ frames := 1, cells := 1, slots := 4, locals := 12 } : Room).cells ({ frames := 1, cells := 1, slots := 4, locals := 12 } : Room).slots) := by
  refine MetFree.of_bodySF (plainFor_of_name pn_java_lang_StringUTF16) hisR ?_
  intro p e s m args below meth c s₁ Bd hml0 hP hK
  obtain ⟨rfl, hZ, hh⟩ := hP
  have hx := Bd.exec
  have hby := Bd.bytes
  have hlk := BodyLoose.notSynchronized Bd
  have hret := Bd.returns
  have hml : c.maxLocals = 1 := hml0
  have hown : s.vm.findClass "java/lang/StringUTF16" = some m.cls := findClass_of_methodNamed Bd.named
  have hnm := (name_of_methodNamed Bd.named Bd.method).1
  have X0 : Stand p l e ({ frames := 1, cells := 1, slots := 4, locals := 12 } : Room) s m #[(.int (2 : Int32))] below meth c s₁ [] 0 0 := Stand.of_body Bd
  have e0 : s₁.heap = h0 := by rw [← hh, Bd.state]; rfl
  have N0 := Fr.nil n0
  refine Goes.st (E := (EN s (QNf2 Z zz h0 n0) ({ frames := 1, cells := 1, slots := 4, locals := 12 } : Room).cells ({ frames := 1, cells := 1, slots := 4, locals := 12 } : Room).slots)) (fun tg kg => castTop (ef_Nf2 m (2 : Int32)) kg) ?_
  have K0 : Keep h0 h0 [] := Keep.refl _ _
  show Gs p e below _ s₁ m 0 #[iv (2 : Int32)] []
  refine giloadN X0 hx (hb hby dj52_2_0) rfl ?_
  obtain ⟨_, _, ⟨T1, L1, k1, n1⟩, -, X1, ⟨Lc1, hQ1, l1, y1, z1⟩, st1⟩ := Jvm.LawKit.callS X0 hx (y := mN0) hown (mvT hZ (hwk hw 81 rfl)) (mvT hZ (hwk hw 82 rfl)) (mvT hZ (hwk hw 21 rfl)) (mvT hZ (hwk hw 83 rfl)) (by decide) (backOf (W := 0) (rmNl2 l Z a0 hw [] () h0 n0 Z0 ) hZ (hwk hw 83 rfl) (hwk hw 21 rfl) (by decide) (by decide)) (g := (mkF m 1 #[iv (2 : Int32)] [(.int (2 : Int32))])) rfl (by rw [hml]; rfl) (argsL := [(.int (2 : Int32))]) (rest := []) (lenOf pd__I_I_7ab rfl) rfl (by show 2 * 0 + _ ≤ _; exact Nat.le_of_eq rfl) (hb hby dj52_2_1) (fun _ _ => ⟨rfl, e0, (by decide : 0 + 0 ≤ 1), (by decide : 0 + 0 ≤ 4)⟩)
  dsimp only [Pt.U, Pt.locs, Pt.cells, Pt.slots] at X1 l1 y1 z1 st1 hQ1
  subst l1 y1 z1
  obtain ⟨rfl, N1q, eh1⟩ := hQ1
  have N1 := Fr.app N0 N1q
  refine Goes.st st1 ?_
  show Gs p e below _ T1 m 4 #[iv (2 : Int32)] [(.int (4 : Int32))]
  obtain ⟨T2, h2, cA2, X2, e2, E2, A2, st2⟩ := newP X1 hx hZ (hwk hw 23 rfl) eh1 (g := (mkF m 4 #[iv (2 : Int32)] [(.int (4 : Int32))])) rfl (hb hby dj52_2_4) rfl (by decide) (cap := 4) (by decide) (by decide) (by decide) (by decide)
  obtain ⟨b2, g2⟩ : ∃ z, z = h0.size := ⟨_, rfl⟩
  rw [← g2] at A2 st2
  have lo_b2 : n0 ≤ b2 := by have := Z0; omega
  have sz_b2 : h0.size ≤ b2 := by have := K0.1; omega
  have KK3 := K0.ext E2
  have V2 : Arv Z h2 b2 cA2 .byte (4 : Int32) [(.int (0 : Int32)), (.int (0 : Int32)), (.int (0 : Int32)), (.int (0 : Int32))] (.int (0 : Int32)) := (Arv.new A2 (by decide)).pad (pad_rep [] _ 4)
  refine Goes.st st2 ?_
  have Z2 : n0 ≤ h2.size := Nat.le_trans Z0 E2.1
  show Gs p e below _ T2 m 6 #[iv (2 : Int32)] [(.ref b2)]
  refine Goes.retA X2 hx hret rfl rfl rfl (hb hby dj52_2_6) (lvN X2 hlk (vsome hret) ?_ (by decide) (by decide))
  rw [e2]
  exact ⟨b2, cA2, rfl, N1, KK3, sz_b2, lo_b2, V2⟩
theorem ef_Pc20 (m : MethodId) (x0 : Addr) (x1 : Int32) (x2 : Int32) : entryFrame m #[(.ref x0), (.int x1), (.int x2)] 3 = mkF m 0 #[rv x0, iv x1, iv x2] [] := by first | (simp [entryFrame, mkF, argsToLocals, Value.category]; done) | rfl
def QPc20 (Z : State) (aB : Addr) (kB : ClassId) (cc w0 w1 w2 w3 : Int32) (h0 : Heap) (n0 : Nat) (v : Option Value) (h : Heap) (L : List Loc) : Prop := v = none ∧ Fr n0 L ∧ Keep h0 h [aB] ∧ Arv Z h aB kB .byte (4 : Int32) [(.int (nar .byte (cc >>> ((0 : Int32) &&& 31)).toInt8.toInt32)), (.int (nar .byte (cc >>> ((8 : Int32) &&& 31)).toInt8.toInt32)), (.int w2), (.int w3)] (.int (0 : Int32))
set_option maxRecDepth 65536 in
set_option maxHeartbeats 40000000 in
theorem rmPc20 (l : Launch) (Z : State) (a0 : Array Value) (hw : ∀ d ∈ tables_1, d.before a0 Z = true) (ws : List Jvm.Cond) (aB : Addr) (kB : ClassId) (cc w0 w1 w2 w3 : Int32) (h0 : Heap) (n0 : Nat) (Z0 : n0 ≤ h0.size) (Sd : Sta Z h0 "java/lang/StringUTF16" "$assertionsDisabled" "Z" (.int (1 : Int32))) (Sh : Sta Z h0 "java/lang/StringUTF16" "HI_BYTE_SHIFT" "I" (.int (0 : Int32))) (Sl : Sta Z h0 "java/lang/StringUTF16" "LO_BYTE_SHIFT" "I" (.int (8 : Int32))) (lB : n0 ≤ aB) (VB : Arv Z h0 aB kB .byte (4 : Int32) [(.int w0), (.int w1), (.int w2), (.int w3)] (.int (0 : Int32))) :
    MetFree l mN2 (head1 (Jvm.Cond.code mN2 jdk_52_method_4_code 3 none :: ws) ({ frames := 0, cells := 0, slots := 0, locals := 0 } : Room)) (fun aa U => aa = #[(.ref aB), (.int (0 : Int32)), (.int cc)] ∧ Z.Warmed39 U.vm ∧ U.heap = h0) (fun _ _ _ _ _ => True) (fun _ u1_ o_ u2_ => ∃ v_ l_, o_ = .returned v_ ∧ QPc20 Z aB kB cc w0 w1 w2 w3 h0 n0 v_ u2_.heap l_ ∧ FrameEnd u1_ o_ u2_ l_ ({ frames := 0, cells := 0, slots := 0, locals := 0 } : Room).cells ({ frames := 0, cells := 0, slots := 0, locals := 0 } : Room).slots) := by
  refine MetFree.of_bodySF (plainFor_of_name pn_java_lang_StringUTF16) hisR ?_
  intro p e s m args below meth c s₁ Bd hml0 hP hK
  obtain ⟨rfl, hZ, hh⟩ := hP
  have hx := Bd.exec
  have hby := Bd.bytes
  have hlk := BodyLoose.notSynchronized Bd
  have hret := Bd.returns
  have hml : c.maxLocals = 3 := hml0
  have hown : s.vm.findClass "java/lang/StringUTF16" = some m.cls := findClass_of_methodNamed Bd.named
  have hnm := (name_of_methodNamed Bd.named Bd.method).1
  have X0 : Stand p l e ({ frames := 0, cells := 0, slots := 0, locals := 0 } : Room) s m #[(.ref aB), (.int (0 : Int32)), (.int cc)] below meth c s₁ [] 0 0 := Stand.of_body Bd
  have e0 : s₁.heap = h0 := by rw [← hh, Bd.state]; rfl
  have N0 := Fr.nil n0
  refine Goes.st (E := (EN s (QPc20 Z aB kB cc w0 w1 w2 w3 h0 n0) ({ frames := 0, cells := 0, slots := 0, locals := 0 } : Room).cells ({ frames := 0, cells := 0, slots := 0, locals := 0 } : Room).slots)) (fun tg kg => castTop (ef_Pc20 m aB (0 : Int32) cc) kg) ?_
  have K0 : Keep h0 h0 [aB] := Keep.refl _ _
  show Gs p e below _ s₁ m 0 #[rv aB, iv (0 : Int32), iv cc] []
  obtain ⟨T1, X1, e1, st1⟩ := getS X0 hx hZ hown (host := "") (hwk hw 88 rfl) Via.refl e0 Sd (g := (mkF m 0 #[rv aB, iv (0 : Int32), iv cc] [])) rfl (hb hby dj52_4_0)
  refine Goes.st st1 ?_
  show Gs p e below _ T1 m 3 #[rv aB, iv (0 : Int32), iv cc] [(.int (1 : Int32))]
  refine gifYes X1 hx (pc' := 28) (hb hby dj52_4_3) (by decide) (by decide) (by decide) ?_
  show Gs p e below _ T1 m 28 #[rv aB, iv (0 : Int32), iv cc] []
  refine giloadN X1 hx (hb hby dj52_4_28) rfl ?_
  refine giconst X1 hx (hb hby dj52_4_29) ?_
  show Gs p e below _ T1 m 30 #[rv aB, iv (0 : Int32), iv cc] [(.int (1 : Int32)), (.int (0 : Int32))]
  refine Goes.st (fun tg kg => XT.ishl X1.here hx rfl (hb hby dj52_4_30) rfl kg) ?_
  show Gs p e below _ T1 m 31 #[rv aB, iv (0 : Int32), iv cc] [(.int ((0 : Int32) <<< ((1 : Int32) &&& 31)))]
  rw [show ((0 : Int32) <<< ((1 : Int32) &&& 31)) = (0 : Int32) from by decide]
  show Gs p e below _ T1 m 31 #[rv aB, iv (0 : Int32), iv cc] [(.int (0 : Int32))]
  refine gistoreN X1 hx (hb hby dj52_4_31) trivial (l' := #[rv aB, iv (0 : Int32), iv cc]) rfl ?_
  refine galoadN X1 hx (hb hby dj52_4_32) rfl rfl ?_
  refine giloadN X1 hx (hb hby dj52_4_33) rfl ?_
  refine Goes.st (fun tg kg => XS.iinc X1.here hx rfl (hb hby dj52_4_34) rfl (l' := #[rv aB, iv (1 : Int32), iv cc]) rfl kg) ?_
  refine giloadN X1 hx (hb hby dj52_4_37) rfl ?_
  show Gs p e below _ T1 m 38 #[rv aB, iv (1 : Int32), iv cc] [(.int cc), (.int (0 : Int32)), (.ref aB)]
  obtain ⟨T2, X2, e2, st2⟩ := getS X1 hx hZ hown (host := "") (hwk hw 89 rfl) Via.refl e1 Sh (g := (mkF m 38 #[rv aB, iv (1 : Int32), iv cc] [(.int cc), (.int (0 : Int32)), (.ref aB)])) rfl (hb hby dj52_4_38)
  refine Goes.st st2 ?_
  show Gs p e below _ T2 m 41 #[rv aB, iv (1 : Int32), iv cc] [(.int (0 : Int32)), (.int cc), (.int (0 : Int32)), (.ref aB)]
  refine Goes.st (fun tg kg => XT.ishr X2.here hx rfl (hb hby dj52_4_41) rfl kg) ?_
  show Gs p e below _ T2 m 42 #[rv aB, iv (1 : Int32), iv cc] [(.int (cc >>> ((0 : Int32) &&& 31))), (.int (0 : Int32)), (.ref aB)]
  refine Goes.st (fun tg kg => XT.i2b X2.here hx rfl (hb hby dj52_4_42) rfl kg) ?_
  show Gs p e below _ T2 m 43 #[rv aB, iv (1 : Int32), iv cc] [(.int ((cc >>> ((0 : Int32) &&& 31))).toInt8.toInt32), (.int (0 : Int32)), (.ref aB)]
  obtain ⟨cl3, Ar3, qk3, Sz3, qz3, Ha3, Gf3⟩ := id VB
  obtain ⟨T3, h3, X3, e3, W3, st3⟩ := stB X2 hx hZ e2 Ar3 (inb_of Sz3 ⟨by decide, by decide⟩) (g := (mkF m 43 #[rv aB, iv (1 : Int32), iv cc] [(.int ((cc >>> ((0 : Int32) &&& 31))).toInt8.toInt32), (.int (0 : Int32)), (.ref aB)])) rfl rfl (hb hby dj52_4_43)
  have N3 := Fr.snoc X3 N0 lB
  have V3 : Arv Z h3 aB kB .byte (4 : Int32) [(.int (nar .byte ((cc >>> ((0 : Int32) &&& 31))).toInt8.toInt32)), (.int w1), (.int w2), (.int w3)] (.int (0 : Int32)) := Arv.set Ar3 qk3 Sz3 qz3 Ha3 Gf3 (fits_nar_byte _) W3 0 (by decide) (by simp)
  refine Goes.st st3 ?_
  have KK4 := K0.wr W3 (Or.inl (List.mem_of_getElem? (i := 0) rfl))
  have Z3 : n0 ≤ h3.size := by have := W3.size; have := Z0; omega
  show Gs p e below _ T3 m 44 #[rv aB, iv (1 : Int32), iv cc] []
  refine galoadN X3 hx (hb hby dj52_4_44) rfl rfl ?_
  refine giloadN X3 hx (hb hby dj52_4_45) rfl ?_
  refine giloadN X3 hx (hb hby dj52_4_46) rfl ?_
  have f6 := (Sl.wr W3)
  obtain ⟨T5, X5, e5, st5⟩ := getS X3 hx hZ hown (host := "") (hwk hw 90 rfl) Via.refl e3 f6 (g := (mkF m 47 #[rv aB, iv (1 : Int32), iv cc] [(.int cc), (.int (1 : Int32)), (.ref aB)])) rfl (hb hby dj52_4_47)
  refine Goes.st st5 ?_
  show Gs p e below _ T5 m 50 #[rv aB, iv (1 : Int32), iv cc] [(.int (8 : Int32)), (.int cc), (.int (1 : Int32)), (.ref aB)]
  refine Goes.st (fun tg kg => XT.ishr X5.here hx rfl (hb hby dj52_4_50) rfl kg) ?_
  show Gs p e below _ T5 m 51 #[rv aB, iv (1 : Int32), iv cc] [(.int (cc >>> ((8 : Int32) &&& 31))), (.int (1 : Int32)), (.ref aB)]
  refine Goes.st (fun tg kg => XT.i2b X5.here hx rfl (hb hby dj52_4_51) rfl kg) ?_
  show Gs p e below _ T5 m 52 #[rv aB, iv (1 : Int32), iv cc] [(.int ((cc >>> ((8 : Int32) &&& 31))).toInt8.toInt32), (.int (1 : Int32)), (.ref aB)]
  obtain ⟨cl7, Ar7, qk7, Sz7, qz7, Ha7, Gf7⟩ := id V3
  obtain ⟨T7, h7, X7, e7, W7, st7⟩ := stB X5 hx hZ e5 Ar7 (inb_of Sz7 ⟨by decide, by decide⟩) (g := (mkF m 52 #[rv aB, iv (1 : Int32), iv cc] [(.int ((cc >>> ((8 : Int32) &&& 31))).toInt8.toInt32), (.int (1 : Int32)), (.ref aB)])) rfl rfl (hb hby dj52_4_52)
  have N7 := Fr.snoc X7 N3 lB
  have V7 : Arv Z h7 aB kB .byte (4 : Int32) [(.int (nar .byte ((cc >>> ((0 : Int32) &&& 31))).toInt8.toInt32)), (.int (nar .byte ((cc >>> ((8 : Int32) &&& 31))).toInt8.toInt32)), (.int w2), (.int w3)] (.int (0 : Int32)) := Arv.set Ar7 qk7 Sz7 qz7 Ha7 Gf7 (fits_nar_byte _) W7 1 (by decide) (by simp)
  refine Goes.st st7 ?_
  have KK8 := KK4.wr W7 (Or.inl (List.mem_of_getElem? (i := 0) rfl))
  have Z7 : n0 ≤ h7.size := by have := W7.size; have := Z3; omega
  show Gs p e below _ T7 m 53 #[rv aB, iv (1 : Int32), iv cc] []
  refine Goes.retV X7 hx hret (hb hby dj52_4_53) (lvN X7 hlk (fun _ => rfl) ?_ (by decide) (by decide))
  rw [e7]
  exact ⟨rfl, N7, KK8, V7⟩
theorem ef_Gc20 (m : MethodId) (x0 : Addr) (x1 : Int32) : entryFrame m #[(.ref x0), (.int x1)] 2 = mkF m 0 #[rv x0, iv x1] [] := by first | (simp [entryFrame, mkF, argsToLocals, Value.category]; done) | rfl
def QGc20 (Z : State) (aB : Addr) (kB : ClassId) (w0 w1 w2 w3 : Int32) (h0 : Heap) (n0 : Nat) (v : Option Value) (h : Heap) (L : List Loc) : Prop := v = some (.int (gC w0 w1)) ∧ Fr n0 L ∧ h = h0
set_option maxRecDepth 65536 in
set_option maxHeartbeats 40000000 in
theorem rmGc20 (l : Launch) (Z : State) (a0 : Array Value) (hw : ∀ d ∈ tables_1, d.before a0 Z = true) (ws : List Jvm.Cond) (aB : Addr) (kB : ClassId) (w0 w1 w2 w3 : Int32) (h0 : Heap) (n0 : Nat) (Z0 : n0 ≤ h0.size) (Sd : Sta Z h0 "java/lang/StringUTF16" "$assertionsDisabled" "Z" (.int (1 : Int32))) (Sh : Sta Z h0 "java/lang/StringUTF16" "HI_BYTE_SHIFT" "I" (.int (0 : Int32))) (Sl : Sta Z h0 "java/lang/StringUTF16" "LO_BYTE_SHIFT" "I" (.int (8 : Int32))) (VB : Arv Z h0 aB kB .byte (4 : Int32) [(.int w0), (.int w1), (.int w2), (.int w3)] (.int (0 : Int32))) :
    MetFree l mN3 (head1 (Jvm.Cond.code mN3 jdk_52_method_5_code 2 (some .char) :: ws) ({ frames := 0, cells := 0, slots := 0, locals := 0 } : Room)) (fun aa U => aa = #[(.ref aB), (.int (0 : Int32))] ∧ Z.Warmed39 U.vm ∧ U.heap = h0) (fun _ _ _ _ _ => True) (fun _ u1_ o_ u2_ => ∃ v_ l_, o_ = .returned v_ ∧ QGc20 Z aB kB w0 w1 w2 w3 h0 n0 v_ u2_.heap l_ ∧ FrameEnd u1_ o_ u2_ l_ ({ frames := 0, cells := 0, slots := 0, locals := 0 } : Room).cells ({ frames := 0, cells := 0, slots := 0, locals := 0 } : Room).slots) := by
  refine MetFree.of_bodySF (plainFor_of_name pn_java_lang_StringUTF16) hisR ?_
  intro p e s m args below meth c s₁ Bd hml0 hP hK
  obtain ⟨rfl, hZ, hh⟩ := hP
  have hx := Bd.exec
  have hby := Bd.bytes
  have hlk := BodyLoose.notSynchronized Bd
  have hret := Bd.returns
  have hml : c.maxLocals = 2 := hml0
  have hown : s.vm.findClass "java/lang/StringUTF16" = some m.cls := findClass_of_methodNamed Bd.named
  have hnm := (name_of_methodNamed Bd.named Bd.method).1
  have X0 : Stand p l e ({ frames := 0, cells := 0, slots := 0, locals := 0 } : Room) s m #[(.ref aB), (.int (0 : Int32))] below meth c s₁ [] 0 0 := Stand.of_body Bd
  have e0 : s₁.heap = h0 := by rw [← hh, Bd.state]; rfl
  have N0 := Fr.nil n0
  refine Goes.st (E := (EN s (QGc20 Z aB kB w0 w1 w2 w3 h0 n0) ({ frames := 0, cells := 0, slots := 0, locals := 0 } : Room).cells ({ frames := 0, cells := 0, slots := 0, locals := 0 } : Room).slots)) (fun tg kg => castTop (ef_Gc20 m aB (0 : Int32)) kg) ?_
  show Gs p e below _ s₁ m 0 #[rv aB, iv (0 : Int32)] []
  obtain ⟨T1, X1, e1, st1⟩ := getS X0 hx hZ hown (host := "") (hwk hw 88 rfl) Via.refl e0 Sd (g := (mkF m 0 #[rv aB, iv (0 : Int32)] [])) rfl (hb hby dj52_5_0)
  refine Goes.st st1 ?_
  show Gs p e below _ T1 m 3 #[rv aB, iv (0 : Int32)] [(.int (1 : Int32))]
  refine gifYes X1 hx (pc' := 28) (hb hby dj52_5_3) (by decide) (by decide) (by decide) ?_
  show Gs p e below _ T1 m 28 #[rv aB, iv (0 : Int32)] []
  refine giloadN X1 hx (hb hby dj52_5_28) rfl ?_
  refine giconst X1 hx (hb hby dj52_5_29) ?_
  show Gs p e below _ T1 m 30 #[rv aB, iv (0 : Int32)] [(.int (1 : Int32)), (.int (0 : Int32))]
  refine Goes.st (fun tg kg => XT.ishl X1.here hx rfl (hb hby dj52_5_30) rfl kg) ?_
  show Gs p e below _ T1 m 31 #[rv aB, iv (0 : Int32)] [(.int ((0 : Int32) <<< ((1 : Int32) &&& 31)))]
  rw [show ((0 : Int32) <<< ((1 : Int32) &&& 31)) = (0 : Int32) from by decide]
  show Gs p e below _ T1 m 31 #[rv aB, iv (0 : Int32)] [(.int (0 : Int32))]
  refine gistoreN X1 hx (hb hby dj52_5_31) trivial (l' := #[rv aB, iv (0 : Int32)]) rfl ?_
  refine galoadN X1 hx (hb hby dj52_5_32) rfl rfl ?_
  refine giloadN X1 hx (hb hby dj52_5_33) rfl ?_
  refine Goes.st (fun tg kg => XS.iinc X1.here hx rfl (hb hby dj52_5_34) rfl (l' := #[rv aB, iv (1 : Int32)]) rfl kg) ?_
  show Gs p e below _ T1 m 37 #[rv aB, iv (1 : Int32)] [(.int (0 : Int32)), (.ref aB)]
  obtain ⟨cl2, Ar2, qk2, Sz2, qz2, Ha2, Gf2⟩ := id VB
  have in2 := inb_of (j := (0 : Int32)) Sz2 ⟨by decide, by decide⟩
  refine Goes.st (fun tg kg => X1.baloadBytes hx (j := (0 : Int32)) (v := (.int w0)) (by rw [e1]; exact Ar2.1) (State.isArrayOf_alike hZ.alike Ar2.2.1) Ar2.2.2 in2 (Ha2.at in2 rfl) (g := (mkF m 37 #[rv aB, iv (1 : Int32)] [(.int (0 : Int32)), (.ref aB)])) rfl rfl (hb hby dj52_5_37) tg kg) ?_
  show Gs p e below _ T1 m 38 #[rv aB, iv (1 : Int32)] [(.int w0)]
  refine Goes.st (fun tg kg => XS.sipush X1.here hx rfl (hb hby dj52_5_38) kg) ?_
  refine giand X1 hx (hb hby dj52_5_41) trivial ?_
  obtain ⟨T3, X3, e3, st3⟩ := getS X1 hx hZ hown (host := "") (hwk hw 89 rfl) Via.refl e1 Sh (g := (mkF m 42 #[rv aB, iv (1 : Int32)] [(.int (w0 &&& (255 : Int32)))])) rfl (hb hby dj52_5_42)
  refine Goes.st st3 ?_
  show Gs p e below _ T3 m 45 #[rv aB, iv (1 : Int32)] [(.int (0 : Int32)), (.int (w0 &&& (255 : Int32)))]
  refine Goes.st (fun tg kg => XT.ishl X3.here hx rfl (hb hby dj52_5_45) rfl kg) ?_
  show Gs p e below _ T3 m 46 #[rv aB, iv (1 : Int32)] [(.int ((w0 &&& (255 : Int32)) <<< ((0 : Int32) &&& 31)))]
  refine galoadN X3 hx (hb hby dj52_5_46) rfl rfl ?_
  refine giloadN X3 hx (hb hby dj52_5_47) rfl ?_
  show Gs p e below _ T3 m 48 #[rv aB, iv (1 : Int32)] [(.int (1 : Int32)), (.ref aB), (.int ((w0 &&& (255 : Int32)) <<< ((0 : Int32) &&& 31)))]
  obtain ⟨cl4, Ar4, qk4, Sz4, qz4, Ha4, Gf4⟩ := id VB
  have in4 := inb_of (j := (1 : Int32)) Sz4 ⟨by decide, by decide⟩
  refine Goes.st (fun tg kg => X3.baloadBytes hx (j := (1 : Int32)) (v := (.int w1)) (by rw [e3]; exact Ar4.1) (State.isArrayOf_alike hZ.alike Ar4.2.1) Ar4.2.2 in4 (Ha4.at in4 rfl) (g := (mkF m 48 #[rv aB, iv (1 : Int32)] [(.int (1 : Int32)), (.ref aB), (.int ((w0 &&& (255 : Int32)) <<< ((0 : Int32) &&& 31)))])) rfl rfl (hb hby dj52_5_48) tg kg) ?_
  show Gs p e below _ T3 m 49 #[rv aB, iv (1 : Int32)] [(.int w1), (.int ((w0 &&& (255 : Int32)) <<< ((0 : Int32) &&& 31)))]
  refine Goes.st (fun tg kg => XS.sipush X3.here hx rfl (hb hby dj52_5_49) kg) ?_
  refine giand X3 hx (hb hby dj52_5_52) trivial ?_
  obtain ⟨T5, X5, e5, st5⟩ := getS X3 hx hZ hown (host := "") (hwk hw 90 rfl) Via.refl e3 Sl (g := (mkF m 53 #[rv aB, iv (1 : Int32)] [(.int (w1 &&& (255 : Int32))), (.int ((w0 &&& (255 : Int32)) <<< ((0 : Int32) &&& 31)))])) rfl (hb hby dj52_5_53)
  refine Goes.st st5 ?_
  show Gs p e below _ T5 m 56 #[rv aB, iv (1 : Int32)] [(.int (8 : Int32)), (.int (w1 &&& (255 : Int32))), (.int ((w0 &&& (255 : Int32)) <<< ((0 : Int32) &&& 31)))]
  refine Goes.st (fun tg kg => XT.ishl X5.here hx rfl (hb hby dj52_5_56) rfl kg) ?_
  show Gs p e below _ T5 m 57 #[rv aB, iv (1 : Int32)] [(.int ((w1 &&& (255 : Int32)) <<< ((8 : Int32) &&& 31))), (.int ((w0 &&& (255 : Int32)) <<< ((0 : Int32) &&& 31)))]
  refine Goes.st (fun tg kg => XT.ior X5.here hx rfl (hb hby dj52_5_57) rfl kg) ?_
  show Gs p e below _ T5 m 58 #[rv aB, iv (1 : Int32)] [(.int (((w0 &&& (255 : Int32)) <<< ((0 : Int32) &&& 31)) ||| ((w1 &&& (255 : Int32)) <<< ((8 : Int32) &&& 31))))]
  refine Goes.st (fun tg kg => XT.i2c X5.here hx rfl (hb hby dj52_5_58) rfl kg) ?_
  show Gs p e below _ T5 m 59 #[rv aB, iv (1 : Int32)] [(.int ((((w0 &&& (255 : Int32)) <<< ((0 : Int32) &&& 31)) ||| ((w1 &&& (255 : Int32)) <<< ((8 : Int32) &&& 31)))).toUInt32.toUInt16.toUInt32.toInt32)]
  refine Goes.retN X5 hx hret (by simp) (hb hby dj52_5_59) (own_idem _) (lvN X5 hlk (vsome hret) ?_ (by decide) (by decide))
  rw [e5]
  exact ⟨rfl, N0, rfl⟩
theorem ef_Pc21 (m : MethodId) (x0 : Addr) (x1 : Int32) (x2 : Int32) : entryFrame m #[(.ref x0), (.int x1), (.int x2)] 3 = mkF m 0 #[rv x0, iv x1, iv x2] [] := by first | (simp [entryFrame, mkF, argsToLocals, Value.category]; done) | rfl
def QPc21 (Z : State) (aB : Addr) (kB : ClassId) (cc w0 w1 w2 w3 : Int32) (h0 : Heap) (n0 : Nat) (v : Option Value) (h : Heap) (L : List Loc) : Prop := v = none ∧ Fr n0 L ∧ Keep h0 h [aB] ∧ Arv Z h aB kB .byte (4 : Int32) [(.int w0), (.int w1), (.int (nar .byte (cc >>> ((0 : Int32) &&& 31)).toInt8.toInt32)), (.int (nar .byte (cc >>> ((8 : Int32) &&& 31)).toInt8.toInt32))] (.int (0 : Int32))
set_option maxRecDepth 65536 in
set_option maxHeartbeats 40000000 in
theorem rmPc21 (l : Launch) (Z : State) (a0 : Array Value) (hw : ∀ d ∈ tables_1, d.before a0 Z = true) (ws : List Jvm.Cond) (aB : Addr) (kB : ClassId) (cc w0 w1 w2 w3 : Int32) (h0 : Heap) (n0 : Nat) (Z0 : n0 ≤ h0.size) (Sd : Sta Z h0 "java/lang/StringUTF16" "$assertionsDisabled" "Z" (.int (1 : Int32))) (Sh : Sta Z h0 "java/lang/StringUTF16" "HI_BYTE_SHIFT" "I" (.int (0 : Int32))) (Sl : Sta Z h0 "java/lang/StringUTF16" "LO_BYTE_SHIFT" "I" (.int (8 : Int32))) (lB : n0 ≤ aB) (VB : Arv Z h0 aB kB .byte (4 : Int32) [(.int w0), (.int w1), (.int w2), (.int w3)] (.int (0 : Int32))) :
    MetFree l mN2 (head1 (Jvm.Cond.code mN2 jdk_52_method_4_code 3 none :: ws) ({ frames := 0, cells := 0, slots := 0, locals := 0 } : Room)) (fun aa U => aa = #[(.ref aB), (.int (1 : Int32)), (.int cc)] ∧ Z.Warmed39 U.vm ∧ U.heap = h0) (fun _ _ _ _ _ => True) (fun _ u1_ o_ u2_ => ∃ v_ l_, o_ = .returned v_ ∧ QPc21 Z aB kB cc w0 w1 w2 w3 h0 n0 v_ u2_.heap l_ ∧ FrameEnd u1_ o_ u2_ l_ ({ frames := 0, cells := 0, slots := 0, locals := 0 } : Room).cells ({ frames := 0, cells := 0, slots := 0, locals := 0 } : Room).slots) := by
  refine MetFree.of_bodySF (plainFor_of_name pn_java_lang_StringUTF16) hisR ?_
  intro p e s m args below meth c s₁ Bd hml0 hP hK
  obtain ⟨rfl, hZ, hh⟩ := hP
  have hx := Bd.exec
  have hby := Bd.bytes
  have hlk := BodyLoose.notSynchronized Bd
  have hret := Bd.returns
  have hml : c.maxLocals = 3 := hml0
  have hown : s.vm.findClass "java/lang/StringUTF16" = some m.cls := findClass_of_methodNamed Bd.named
  have hnm := (name_of_methodNamed Bd.named Bd.method).1
  have X0 : Stand p l e ({ frames := 0, cells := 0, slots := 0, locals := 0 } : Room) s m #[(.ref aB), (.int (1 : Int32)), (.int cc)] below meth c s₁ [] 0 0 := Stand.of_body Bd
  have e0 : s₁.heap = h0 := by rw [← hh, Bd.state]; rfl
  have N0 := Fr.nil n0
  refine Goes.st (E := (EN s (QPc21 Z aB kB cc w0 w1 w2 w3 h0 n0) ({ frames := 0, cells := 0, slots := 0, locals := 0 } : Room).cells ({ frames := 0, cells := 0, slots := 0, locals := 0 } : Room).slots)) (fun tg kg => castTop (ef_Pc21 m aB (1 : Int32) cc) kg) ?_
  have K0 : Keep h0 h0 [aB] := Keep.refl _ _
  show Gs p e below _ s₁ m 0 #[rv aB, iv (1 : Int32), iv cc] []
  obtain ⟨T1, X1, e1, st1⟩ := getS X0 hx hZ hown (host := "") (hwk hw 88 rfl) Via.refl e0 Sd (g := (mkF m 0 #[rv aB, iv (1 : Int32), iv cc] [])) rfl (hb hby dj52_4_0)
  refine Goes.st st1 ?_
  show Gs p e below _ T1 m 3 #[rv aB, iv (1 : Int32), iv cc] [(.int (1 : Int32))]
  refine gifYes X1 hx (pc' := 28) (hb hby dj52_4_3) (by decide) (by decide) (by decide) ?_
  show Gs p e below _ T1 m 28 #[rv aB, iv (1 : Int32), iv cc] []
  refine giloadN X1 hx (hb hby dj52_4_28) rfl ?_
  refine giconst X1 hx (hb hby dj52_4_29) ?_
  show Gs p e below _ T1 m 30 #[rv aB, iv (1 : Int32), iv cc] [(.int (1 : Int32)), (.int (1 : Int32))]
  refine Goes.st (fun tg kg => XT.ishl X1.here hx rfl (hb hby dj52_4_30) rfl kg) ?_
  show Gs p e below _ T1 m 31 #[rv aB, iv (1 : Int32), iv cc] [(.int ((1 : Int32) <<< ((1 : Int32) &&& 31)))]
  rw [show ((1 : Int32) <<< ((1 : Int32) &&& 31)) = (2 : Int32) from by decide]
  show Gs p e below _ T1 m 31 #[rv aB, iv (1 : Int32), iv cc] [(.int (2 : Int32))]
  refine gistoreN X1 hx (hb hby dj52_4_31) trivial (l' := #[rv aB, iv (2 : Int32), iv cc]) rfl ?_
  refine galoadN X1 hx (hb hby dj52_4_32) rfl rfl ?_
  refine giloadN X1 hx (hb hby dj52_4_33) rfl ?_
  refine Goes.st (fun tg kg => XS.iinc X1.here hx rfl (hb hby dj52_4_34) rfl (l' := #[rv aB, iv (3 : Int32), iv cc]) rfl kg) ?_
  refine giloadN X1 hx (hb hby dj52_4_37) rfl ?_
  show Gs p e below _ T1 m 38 #[rv aB, iv (3 : Int32), iv cc] [(.int cc), (.int (2 : Int32)), (.ref aB)]
  obtain ⟨T2, X2, e2, st2⟩ := getS X1 hx hZ hown (host := "") (hwk hw 89 rfl) Via.refl e1 Sh (g := (mkF m 38 #[rv aB, iv (3 : Int32), iv cc] [(.int cc), (.int (2 : Int32)), (.ref aB)])) rfl (hb hby dj52_4_38)
  refine Goes.st st2 ?_
  show Gs p e below _ T2 m 41 #[rv aB, iv (3 : Int32), iv cc] [(.int (0 : Int32)), (.int cc), (.int (2 : Int32)), (.ref aB)]
  refine Goes.st (fun tg kg => XT.ishr X2.here hx rfl (hb hby dj52_4_41) rfl kg) ?_
  show Gs p e below _ T2 m 42 #[rv aB, iv (3 : Int32), iv cc] [(.int (cc >>> ((0 : Int32) &&& 31))), (.int (2 : Int32)), (.ref aB)]
  refine Goes.st (fun tg kg => XT.i2b X2.here hx rfl (hb hby dj52_4_42) rfl kg) ?_
  show Gs p e below _ T2 m 43 #[rv aB, iv (3 : Int32), iv cc] [(.int ((cc >>> ((0 : Int32) &&& 31))).toInt8.toInt32), (.int (2 : Int32)), (.ref aB)]
  obtain ⟨cl3, Ar3, qk3, Sz3, qz3, Ha3, Gf3⟩ := id VB
  obtain ⟨T3, h3, X3, e3, W3, st3⟩ := stB X2 hx hZ e2 Ar3 (inb_of Sz3 ⟨by decide, by decide⟩) (g := (mkF m 43 #[rv aB, iv (3 : Int32), iv cc] [(.int ((cc >>> ((0 : Int32) &&& 31))).toInt8.toInt32), (.int (2 : Int32)), (.ref aB)])) rfl rfl (hb hby dj52_4_43)
  have N3 := Fr.snoc X3 N0 lB
  have V3 : Arv Z h3 aB kB .byte (4 : Int32) [(.int w0), (.int w1), (.int (nar .byte ((cc >>> ((0 : Int32) &&& 31))).toInt8.toInt32)), (.int w3)] (.int (0 : Int32)) := Arv.set Ar3 qk3 Sz3 qz3 Ha3 Gf3 (fits_nar_byte _) W3 2 (by decide) (by simp)
  refine Goes.st st3 ?_
  have KK4 := K0.wr W3 (Or.inl (List.mem_of_getElem? (i := 0) rfl))
  have Z3 : n0 ≤ h3.size := by have := W3.size; have := Z0; omega
  show Gs p e below _ T3 m 44 #[rv aB, iv (3 : Int32), iv cc] []
  refine galoadN X3 hx (hb hby dj52_4_44) rfl rfl ?_
  refine giloadN X3 hx (hb hby dj52_4_45) rfl ?_
  refine giloadN X3 hx (hb hby dj52_4_46) rfl ?_
  have f6 := (Sl.wr W3)
  obtain ⟨T5, X5, e5, st5⟩ := getS X3 hx hZ hown (host := "") (hwk hw 90 rfl) Via.refl e3 f6 (g := (mkF m 47 #[rv aB, iv (3 : Int32), iv cc] [(.int cc), (.int (3 : Int32)), (.ref aB)])) rfl (hb hby dj52_4_47)
  refine Goes.st st5 ?_
  show Gs p e below _ T5 m 50 #[rv aB, iv (3 : Int32), iv cc] [(.int (8 : Int32)), (.int cc), (.int (3 : Int32)), (.ref aB)]
  refine Goes.st (fun tg kg => XT.ishr X5.here hx rfl (hb hby dj52_4_50) rfl kg) ?_
  show Gs p e below _ T5 m 51 #[rv aB, iv (3 : Int32), iv cc] [(.int (cc >>> ((8 : Int32) &&& 31))), (.int (3 : Int32)), (.ref aB)]
  refine Goes.st (fun tg kg => XT.i2b X5.here hx rfl (hb hby dj52_4_51) rfl kg) ?_
  show Gs p e below _ T5 m 52 #[rv aB, iv (3 : Int32), iv cc] [(.int ((cc >>> ((8 : Int32) &&& 31))).toInt8.toInt32), (.int (3 : Int32)), (.ref aB)]
  obtain ⟨cl7, Ar7, qk7, Sz7, qz7, Ha7, Gf7⟩ := id V3
  obtain ⟨T7, h7, X7, e7, W7, st7⟩ := stB X5 hx hZ e5 Ar7 (inb_of Sz7 ⟨by decide, by decide⟩) (g := (mkF m 52 #[rv aB, iv (3 : Int32), iv cc] [(.int ((cc >>> ((8 : Int32) &&& 31))).toInt8.toInt32), (.int (3 : Int32)), (.ref aB)])) rfl rfl (hb hby dj52_4_52)
  have N7 := Fr.snoc X7 N3 lB
  have V7 : Arv Z h7 aB kB .byte (4 : Int32) [(.int w0), (.int w1), (.int (nar .byte ((cc >>> ((0 : Int32) &&& 31))).toInt8.toInt32)), (.int (nar .byte ((cc >>> ((8 : Int32) &&& 31))).toInt8.toInt32))] (.int (0 : Int32)) := Arv.set Ar7 qk7 Sz7 qz7 Ha7 Gf7 (fits_nar_byte _) W7 3 (by decide) (by simp)
  refine Goes.st st7 ?_
  have KK8 := KK4.wr W7 (Or.inl (List.mem_of_getElem? (i := 0) rfl))
  have Z7 : n0 ≤ h7.size := by have := W7.size; have := Z3; omega
  show Gs p e below _ T7 m 53 #[rv aB, iv (3 : Int32), iv cc] []
  refine Goes.retV X7 hx hret (hb hby dj52_4_53) (lvN X7 hlk (fun _ => rfl) ?_ (by decide) (by decide))
  rw [e7]
  exact ⟨rfl, N7, KK8, V7⟩
theorem ef_Gc21 (m : MethodId) (x0 : Addr) (x1 : Int32) : entryFrame m #[(.ref x0), (.int x1)] 2 = mkF m 0 #[rv x0, iv x1] [] := by first | (simp [entryFrame, mkF, argsToLocals, Value.category]; done) | rfl
def QGc21 (Z : State) (aB : Addr) (kB : ClassId) (w0 w1 w2 w3 : Int32) (h0 : Heap) (n0 : Nat) (v : Option Value) (h : Heap) (L : List Loc) : Prop := v = some (.int (gC w2 w3)) ∧ Fr n0 L ∧ h = h0
set_option maxRecDepth 65536 in
set_option maxHeartbeats 40000000 in
theorem rmGc21 (l : Launch) (Z : State) (a0 : Array Value) (hw : ∀ d ∈ tables_1, d.before a0 Z = true) (ws : List Jvm.Cond) (aB : Addr) (kB : ClassId) (w0 w1 w2 w3 : Int32) (h0 : Heap) (n0 : Nat) (Z0 : n0 ≤ h0.size) (Sd : Sta Z h0 "java/lang/StringUTF16" "$assertionsDisabled" "Z" (.int (1 : Int32))) (Sh : Sta Z h0 "java/lang/StringUTF16" "HI_BYTE_SHIFT" "I" (.int (0 : Int32))) (Sl : Sta Z h0 "java/lang/StringUTF16" "LO_BYTE_SHIFT" "I" (.int (8 : Int32))) (VB : Arv Z h0 aB kB .byte (4 : Int32) [(.int w0), (.int w1), (.int w2), (.int w3)] (.int (0 : Int32))) :
    MetFree l mN3 (head1 (Jvm.Cond.code mN3 jdk_52_method_5_code 2 (some .char) :: ws) ({ frames := 0, cells := 0, slots := 0, locals := 0 } : Room)) (fun aa U => aa = #[(.ref aB), (.int (1 : Int32))] ∧ Z.Warmed39 U.vm ∧ U.heap = h0) (fun _ _ _ _ _ => True) (fun _ u1_ o_ u2_ => ∃ v_ l_, o_ = .returned v_ ∧ QGc21 Z aB kB w0 w1 w2 w3 h0 n0 v_ u2_.heap l_ ∧ FrameEnd u1_ o_ u2_ l_ ({ frames := 0, cells := 0, slots := 0, locals := 0 } : Room).cells ({ frames := 0, cells := 0, slots := 0, locals := 0 } : Room).slots) := by
  refine MetFree.of_bodySF (plainFor_of_name pn_java_lang_StringUTF16) hisR ?_
  intro p e s m args below meth c s₁ Bd hml0 hP hK
  obtain ⟨rfl, hZ, hh⟩ := hP
  have hx := Bd.exec
  have hby := Bd.bytes
  have hlk := BodyLoose.notSynchronized Bd
  have hret := Bd.returns
  have hml : c.maxLocals = 2 := hml0
  have hown : s.vm.findClass "java/lang/StringUTF16" = some m.cls := findClass_of_methodNamed Bd.named
  have hnm := (name_of_methodNamed Bd.named Bd.method).1
  have X0 : Stand p l e ({ frames := 0, cells := 0, slots := 0, locals := 0 } : Room) s m #[(.ref aB), (.int (1 : Int32))] below meth c s₁ [] 0 0 := Stand.of_body Bd
  have e0 : s₁.heap = h0 := by rw [← hh, Bd.state]; rfl
  have N0 := Fr.nil n0
  refine Goes.st (E := (EN s (QGc21 Z aB kB w0 w1 w2 w3 h0 n0) ({ frames := 0, cells := 0, slots := 0, locals := 0 } : Room).cells ({ frames := 0, cells := 0, slots := 0, locals := 0 } : Room).slots)) (fun tg kg => castTop (ef_Gc21 m aB (1 : Int32)) kg) ?_
  show Gs p e below _ s₁ m 0 #[rv aB, iv (1 : Int32)] []
  obtain ⟨T1, X1, e1, st1⟩ := getS X0 hx hZ hown (host := "") (hwk hw 88 rfl) Via.refl e0 Sd (g := (mkF m 0 #[rv aB, iv (1 : Int32)] [])) rfl (hb hby dj52_5_0)
  refine Goes.st st1 ?_
  show Gs p e below _ T1 m 3 #[rv aB, iv (1 : Int32)] [(.int (1 : Int32))]
  refine gifYes X1 hx (pc' := 28) (hb hby dj52_5_3) (by decide) (by decide) (by decide) ?_
  show Gs p e below _ T1 m 28 #[rv aB, iv (1 : Int32)] []
  refine giloadN X1 hx (hb hby dj52_5_28) rfl ?_
  refine giconst X1 hx (hb hby dj52_5_29) ?_
  show Gs p e below _ T1 m 30 #[rv aB, iv (1 : Int32)] [(.int (1 : Int32)), (.int (1 : Int32))]
  refine Goes.st (fun tg kg => XT.ishl X1.here hx rfl (hb hby dj52_5_30) rfl kg) ?_
  show Gs p e below _ T1 m 31 #[rv aB, iv (1 : Int32)] [(.int ((1 : Int32) <<< ((1 : Int32) &&& 31)))]
  rw [show ((1 : Int32) <<< ((1 : Int32) &&& 31)) = (2 : Int32) from by decide]
  show Gs p e below _ T1 m 31 #[rv aB, iv (1 : Int32)] [(.int (2 : Int32))]
  refine gistoreN X1 hx (hb hby dj52_5_31) trivial (l' := #[rv aB, iv (2 : Int32)]) rfl ?_
  refine galoadN X1 hx (hb hby dj52_5_32) rfl rfl ?_
  refine giloadN X1 hx (hb hby dj52_5_33) rfl ?_
  refine Goes.st (fun tg kg => XS.iinc X1.here hx rfl (hb hby dj52_5_34) rfl (l' := #[rv aB, iv (3 : Int32)]) rfl kg) ?_
  show Gs p e below _ T1 m 37 #[rv aB, iv (3 : Int32)] [(.int (2 : Int32)), (.ref aB)]
  obtain ⟨cl2, Ar2, qk2, Sz2, qz2, Ha2, Gf2⟩ := id VB
  have in2 := inb_of (j := (2 : Int32)) Sz2 ⟨by decide, by decide⟩
  refine Goes.st (fun tg kg => X1.baloadBytes hx (j := (2 : Int32)) (v := (.int w2)) (by rw [e1]; exact Ar2.1) (State.isArrayOf_alike hZ.alike Ar2.2.1) Ar2.2.2 in2 (Ha2.at in2 rfl) (g := (mkF m 37 #[rv aB, iv (3 : Int32)] [(.int (2 : Int32)), (.ref aB)])) rfl rfl (hb hby dj52_5_37) tg kg) ?_
  show Gs p e below _ T1 m 38 #[rv aB, iv (3 : Int32)] [(.int w2)]
  refine Goes.st (fun tg kg => XS.sipush X1.here hx rfl (hb hby dj52_5_38) kg) ?_
  refine giand X1 hx (hb hby dj52_5_41) trivial ?_
  obtain ⟨T3, X3, e3, st3⟩ := getS X1 hx hZ hown (host := "") (hwk hw 89 rfl) Via.refl e1 Sh (g := (mkF m 42 #[rv aB, iv (3 : Int32)] [(.int (w2 &&& (255 : Int32)))])) rfl (hb hby dj52_5_42)
  refine Goes.st st3 ?_
  show Gs p e below _ T3 m 45 #[rv aB, iv (3 : Int32)] [(.int (0 : Int32)), (.int (w2 &&& (255 : Int32)))]
  refine Goes.st (fun tg kg => XT.ishl X3.here hx rfl (hb hby dj52_5_45) rfl kg) ?_
  show Gs p e below _ T3 m 46 #[rv aB, iv (3 : Int32)] [(.int ((w2 &&& (255 : Int32)) <<< ((0 : Int32) &&& 31)))]
  refine galoadN X3 hx (hb hby dj52_5_46) rfl rfl ?_
  refine giloadN X3 hx (hb hby dj52_5_47) rfl ?_
  show Gs p e below _ T3 m 48 #[rv aB, iv (3 : Int32)] [(.int (3 : Int32)), (.ref aB), (.int ((w2 &&& (255 : Int32)) <<< ((0 : Int32) &&& 31)))]
  obtain ⟨cl4, Ar4, qk4, Sz4, qz4, Ha4, Gf4⟩ := id VB
  have in4 := inb_of (j := (3 : Int32)) Sz4 ⟨by decide, by decide⟩
  refine Goes.st (fun tg kg => X3.baloadBytes hx (j := (3 : Int32)) (v := (.int w3)) (by rw [e3]; exact Ar4.1) (State.isArrayOf_alike hZ.alike Ar4.2.1) Ar4.2.2 in4 (Ha4.at in4 rfl) (g := (mkF m 48 #[rv aB, iv (3 : Int32)] [(.int (3 : Int32)), (.ref aB), (.int ((w2 &&& (255 : Int32)) <<< ((0 : Int32) &&& 31)))])) rfl rfl (hb hby dj52_5_48) tg kg) ?_
  show Gs p e below _ T3 m 49 #[rv aB, iv (3 : Int32)] [(.int w3), (.int ((w2 &&& (255 : Int32)) <<< ((0 : Int32) &&& 31)))]
  refine Goes.st (fun tg kg => XS.sipush X3.here hx rfl (hb hby dj52_5_49) kg) ?_
  refine giand X3 hx (hb hby dj52_5_52) trivial ?_
  obtain ⟨T5, X5, e5, st5⟩ := getS X3 hx hZ hown (host := "") (hwk hw 90 rfl) Via.refl e3 Sl (g := (mkF m 53 #[rv aB, iv (3 : Int32)] [(.int (w3 &&& (255 : Int32))), (.int ((w2 &&& (255 : Int32)) <<< ((0 : Int32) &&& 31)))])) rfl (hb hby dj52_5_53)
  refine Goes.st st5 ?_
  show Gs p e below _ T5 m 56 #[rv aB, iv (3 : Int32)] [(.int (8 : Int32)), (.int (w3 &&& (255 : Int32))), (.int ((w2 &&& (255 : Int32)) <<< ((0 : Int32) &&& 31)))]
  refine Goes.st (fun tg kg => XT.ishl X5.here hx rfl (hb hby dj52_5_56) rfl kg) ?_
  show Gs p e below _ T5 m 57 #[rv aB, iv (3 : Int32)] [(.int ((w3 &&& (255 : Int32)) <<< ((8 : Int32) &&& 31))), (.int ((w2 &&& (255 : Int32)) <<< ((0 : Int32) &&& 31)))]
  refine Goes.st (fun tg kg => XT.ior X5.here hx rfl (hb hby dj52_5_57) rfl kg) ?_
  show Gs p e below _ T5 m 58 #[rv aB, iv (3 : Int32)] [(.int (((w2 &&& (255 : Int32)) <<< ((0 : Int32) &&& 31)) ||| ((w3 &&& (255 : Int32)) <<< ((8 : Int32) &&& 31))))]
  refine Goes.st (fun tg kg => XT.i2c X5.here hx rfl (hb hby dj52_5_58) rfl kg) ?_
  show Gs p e below _ T5 m 59 #[rv aB, iv (3 : Int32)] [(.int ((((w2 &&& (255 : Int32)) <<< ((0 : Int32) &&& 31)) ||| ((w3 &&& (255 : Int32)) <<< ((8 : Int32) &&& 31)))).toUInt32.toUInt16.toUInt32.toInt32)]
  refine Goes.retN X5 hx hret (by simp) (hb hby dj52_5_59) (own_idem _) (lvN X5 hlk (vsome hret) ?_ (by decide) (by decide))
  rw [e5]
  exact ⟨rfl, N0, rfl⟩
theorem ef_By2 (m : MethodId) (x0 : Addr) (x1 : Int32) (x2 : Int32) : entryFrame m #[(.ref x0), (.int x1), (.int x2)] 5 = mkF m 0 #[rv x0, iv x1, iv x2, .unset, .unset] [] := by first | (simp [entryFrame, mkF, argsToLocals, Value.category]; done) | rfl
def QBy2 (Z : State) (aC : Addr) (kC : ClassId) (c0 c1 : Int32) (h0 : Heap) (n0 : Nat) (v : Option Value) (h : Heap) (L : List Loc) : Prop := ∃ (b : Addr) (kB : ClassId), v = some (.ref b) ∧ Fr n0 L ∧ Keep h0 h [] ∧ h0.size ≤ b ∧ n0 ≤ b ∧ Arv Z h b kB .byte (4 : Int32) [(.int (nar .byte (c0 >>> ((0 : Int32) &&& 31)).toInt8.toInt32)), (.int (nar .byte (c0 >>> ((8 : Int32) &&& 31)).toInt8.toInt32)), (.int (nar .byte (c1 >>> ((0 : Int32) &&& 31)).toInt8.toInt32)), (.int (nar .byte (c1 >>> ((8 : Int32) &&& 31)).toInt8.toInt32))] (.int (0 : Int32))
set_option maxRecDepth 65536 in
set_option maxHeartbeats 40000000 in
theorem rmBy2 (l : Launch) (Z : State) (a0 : Array Value) (hw : ∀ d ∈ tables_1, d.before a0 Z = true) (ws : List Jvm.Cond) (aC : Addr) (kC : ClassId) (c0 c1 : Int32) (h0 : Heap) (n0 : Nat) (Z0 : n0 ≤ h0.size) (Sd : Sta Z h0 "java/lang/StringUTF16" "$assertionsDisabled" "Z" (.int (1 : Int32))) (Sh : Sta Z h0 "java/lang/StringUTF16" "HI_BYTE_SHIFT" "I" (.int (0 : Int32))) (Sl : Sta Z h0 "java/lang/StringUTF16" "LO_BYTE_SHIFT" "I" (.int (8 : Int32))) (VC : Arv Z h0 aC kC .char (2 : Int32) [(.int c0), (.int c1)] (.int (0 : Int32))) :
    MetFree l mN4 (head1 (Jvm.Cond.code mN4 jdk_52_method_14_code 5 (some (.array .byte)) :: ws) ({ frames := 2, cells := 1, slots := 4, locals := 24 } : Room)) (fun aa U => aa = #[(.ref aC), (.int (0 : Int32)), (.int (2 : Int32))] ∧ Z.Warmed39 U.vm ∧ U.heap = h0) (fun _ _ _ _ _ => True) (fun _ u1_ o_ u2_ => ∃ v_ l_, o_ = .returned v_ ∧ QBy2 Z aC kC c0 c1 h0 n0 v_ u2_.heap l_ ∧ FrameEnd u1_ o_ u2_ l_ ({ frames := 2, cells := 1, slots := 4, locals := 24 } : Room).cells ({ frames := 2, cells := 1, slots := 4, locals := 24 } : Room).slots) := by
  refine MetFree.of_bodySF (plainFor_of_name pn_java_lang_StringUTF16) hisR ?_
  intro p e s m args below meth c s₁ Bd hml0 hP hK
  obtain ⟨rfl, hZ, hh⟩ := hP
  have hx := Bd.exec
  have hby := Bd.bytes
  have hlk := BodyLoose.notSynchronized Bd
  have hret := Bd.returns
  have hml : c.maxLocals = 5 := hml0
  have hown : s.vm.findClass "java/lang/StringUTF16" = some m.cls := findClass_of_methodNamed Bd.named
  have hnm := (name_of_methodNamed Bd.named Bd.method).1
  have X0 : Stand p l e ({ frames := 2, cells := 1, slots := 4, locals := 24 } : Room) s m #[(.ref aC), (.int (0 : Int32)), (.int (2 : Int32))] below meth c s₁ [] 0 0 := Stand.of_body Bd
  have e0 : s₁.heap = h0 := by rw [← hh, Bd.state]; rfl
  have N0 := Fr.nil n0
  refine Goes.st (E := (EN s (QBy2 Z aC kC c0 c1 h0 n0) ({ frames := 2, cells := 1, slots := 4, locals := 24 } : Room).cells ({ frames := 2, cells := 1, slots := 4, locals := 24 } : Room).slots)) (fun tg kg => castTop (ef_By2 m aC (0 : Int32) (2 : Int32)) kg) ?_
  have K0 : Keep h0 h0 [] := Keep.refl _ _
  show Gs p e below _ s₁ m 0 #[rv aC, iv (0 : Int32), iv (2 : Int32), .unset, .unset] []
  refine giloadN X0 hx (hb hby dj52_14_0) rfl ?_
  have lt1 : aC < h0.size := VC.lt
  obtain ⟨_, _, ⟨T2, L2, k2, n2⟩, -, X2, ⟨Lc2, hQ2, l2, y2, z2⟩, st2⟩ := Jvm.LawKit.callS X0 hx (y := mN1) hown (mvT hZ (hwk hw 78 rfl)) (mvT hZ (hwk hw 79 rfl)) (mvT hZ (hwk hw 21 rfl)) (mvT hZ (hwk hw 80 rfl)) (by decide) (backOf (W := 0) (rmNf2 l Z a0 hw [] () h0 n0 Z0 ) hZ (hwk hw 80 rfl) (hwk hw 21 rfl) (by decide) (by decide)) (g := (mkF m 1 #[rv aC, iv (0 : Int32), iv (2 : Int32), .unset, .unset] [(.int (2 : Int32))])) rfl (by rw [hml]; rfl) (argsL := [(.int (2 : Int32))]) (rest := []) (lenOf pd__I__B_b35 rfl) rfl (by show 2 * 0 + _ ≤ _; exact Nat.le_of_eq rfl) (hb hby dj52_14_1) (fun _ _ => ⟨rfl, e0, (by decide : 0 + 1 ≤ 1), (by decide : 0 + 4 ≤ 4)⟩)
  dsimp only [Pt.U, Pt.locs, Pt.cells, Pt.slots] at X2 l2 y2 z2 st2 hQ2
  subst l2 y2 z2
  obtain ⟨b2, kB2, rfl, N2q, K2, szq2, loq2, V2⟩ := hQ2
  have KK3 := K0.trans K2 all0
  have ne_aC_b2 : aC ≠ b2 := Nat.ne_of_lt (Nat.lt_of_lt_of_le lt1 szq2)
  have sz_b2 : h0.size ≤ b2 := by have := KK3.1; have := szq2; omega
  have Z2 : n0 ≤ T2.heap.size := Nat.le_trans Z0 K2.1
  have N2 := Fr.app N0 N2q
  refine Goes.st st2 ?_
  show Gs p e below _ T2 m 4 #[rv aC, iv (0 : Int32), iv (2 : Int32), .unset, .unset] [(.ref b2)]
  refine gastoreN X2 hx (hb hby dj52_14_4) trivial rfl (l' := #[rv aC, iv (0 : Int32), iv (2 : Int32), rv b2, .unset]) rfl ?_
  refine giconst X2 hx (hb hby dj52_14_5) ?_
  refine gistore X2 hx (hb hby dj52_14_6) trivial (l' := #[rv aC, iv (0 : Int32), iv (2 : Int32), rv b2, iv (0 : Int32)]) rfl ?_
  refine giload X2 hx (hb hby dj52_14_8) rfl ?_
  refine giloadN X2 hx (hb hby dj52_14_10) rfl ?_
  show Gs p e below _ T2 m 11 #[rv aC, iv (0 : Int32), iv (2 : Int32), rv b2, iv (0 : Int32)] [(.int (2 : Int32)), (.int (0 : Int32))]
  refine gicmpNo X2 hx (hb hby dj52_14_11) (by decide) ?_
  show Gs p e below _ T2 m 14 #[rv aC, iv (0 : Int32), iv (2 : Int32), rv b2, iv (0 : Int32)] []
  refine galoadN X2 hx (hb hby dj52_14_14) rfl rfl ?_
  refine giload X2 hx (hb hby dj52_14_15) rfl ?_
  refine galoadN X2 hx (hb hby dj52_14_17) rfl rfl ?_
  refine giloadN X2 hx (hb hby dj52_14_18) rfl ?_
  show Gs p e below _ T2 m 19 #[rv aC, iv (0 : Int32), iv (2 : Int32), rv b2, iv (0 : Int32)] [(.int (0 : Int32)), (.ref aC), (.int (0 : Int32)), (.ref b2)]
  have f4 := (VC.keep K2 nin0)
  obtain ⟨cl5, Ar5, qk5, Sz5, qz5, Ha5, Gf5⟩ := id f4
  have in5 := inb_of (j := (0 : Int32)) Sz5 ⟨by decide, by decide⟩
  refine Goes.st (fun tg kg => X2.caload hx (j := (0 : Int32)) (v := (.int c0)) Ar5.1 (State.isArrayOf_alike hZ.alike Ar5.2.1) Ar5.2.2 in5 (Ha5.at in5 rfl) (g := (mkF m 19 #[rv aC, iv (0 : Int32), iv (2 : Int32), rv b2, iv (0 : Int32)] [(.int (0 : Int32)), (.ref aC), (.int (0 : Int32)), (.ref b2)])) rfl rfl (hb hby dj52_14_19) tg kg) ?_
  show Gs p e below _ T2 m 20 #[rv aC, iv (0 : Int32), iv (2 : Int32), rv b2, iv (0 : Int32)] [(.int c0), (.int (0 : Int32)), (.ref b2)]
  have f6 := (Sd.kept K2 ns0)
  have f7 := (Sh.kept K2 ns0)
  have f8 := (Sl.kept K2 ns0)
  obtain ⟨_, _, ⟨T9, L9, k9, n9⟩, -, X9, ⟨Lc9, hQ9, l9, y9, z9⟩, st9⟩ := Jvm.LawKit.callS X2 hx (y := mN2) hown (mvT hZ (hwk hw 85 rfl)) (mvT hZ (hwk hw 86 rfl)) (mvT hZ (hwk hw 21 rfl)) (mvT hZ (hwk hw 87 rfl)) (by decide) (backOf (W := 0) (rmPc20 l Z a0 hw [] b2 kB2 c0 (0 : Int32) (0 : Int32) (0 : Int32) (0 : Int32) T2.heap n0 Z2 f6 f7 f8 loq2 V2) hZ (hwk hw 87 rfl) (hwk hw 21 rfl) (by decide) (by decide)) (g := (mkF m 20 #[rv aC, iv (0 : Int32), iv (2 : Int32), rv b2, iv (0 : Int32)] [(.int c0), (.int (0 : Int32)), (.ref b2)])) rfl (by rw [hml]; rfl) (argsL := [(.ref b2), (.int (0 : Int32)), (.int c0)]) (rest := []) (lenOf pd___BII_V_1289 rfl) rfl (by show 2 * 0 + _ ≤ _; exact Nat.le_of_eq rfl) (hb hby dj52_14_20) (fun _ _ => ⟨rfl, rfl, (by decide : 1 + 0 ≤ 1), (by decide : 4 + 0 ≤ 4)⟩)
  dsimp only [Pt.U, Pt.locs, Pt.cells, Pt.slots] at X9 l9 y9 z9 st9 hQ9
  subst l9 y9 z9
  obtain ⟨rfl, N9q, K9, V9⟩ := hQ9
  have KK10 := KK3.trans K9 (allS (Or.inr sz_b2) all0)
  have Z9 : n0 ≤ T9.heap.size := Nat.le_trans Z2 K9.1
  have N9 := Fr.app N2 N9q
  refine Goes.st st9 ?_
  show Gs p e below _ T9 m 23 #[rv aC, iv (0 : Int32), iv (2 : Int32), rv b2, iv (0 : Int32)] []
  refine Goes.st (fun tg kg => XS.iinc X9.here hx rfl (hb hby dj52_14_23) rfl (l' := #[rv aC, iv (1 : Int32), iv (2 : Int32), rv b2, iv (0 : Int32)]) rfl kg) ?_
  refine Goes.st (fun tg kg => XS.iinc X9.here hx rfl (hb hby dj52_14_26) rfl (l' := #[rv aC, iv (1 : Int32), iv (2 : Int32), rv b2, iv (1 : Int32)]) rfl kg) ?_
  show Gs p e below _ T9 m 29 #[rv aC, iv (1 : Int32), iv (2 : Int32), rv b2, iv (1 : Int32)] []
  refine ggoto X9 hx (pc' := 8) (hb hby dj52_14_29) (by decide) (by decide) ?_
  show Gs p e below _ T9 m 8 #[rv aC, iv (1 : Int32), iv (2 : Int32), rv b2, iv (1 : Int32)] []
  refine giload X9 hx (hb hby dj52_14_8) rfl ?_
  refine giloadN X9 hx (hb hby dj52_14_10) rfl ?_
  show Gs p e below _ T9 m 11 #[rv aC, iv (1 : Int32), iv (2 : Int32), rv b2, iv (1 : Int32)] [(.int (2 : Int32)), (.int (1 : Int32))]
  refine gicmpNo X9 hx (hb hby dj52_14_11) (by decide) ?_
  show Gs p e below _ T9 m 14 #[rv aC, iv (1 : Int32), iv (2 : Int32), rv b2, iv (1 : Int32)] []
  refine galoadN X9 hx (hb hby dj52_14_14) rfl rfl ?_
  refine giload X9 hx (hb hby dj52_14_15) rfl ?_
  refine galoadN X9 hx (hb hby dj52_14_17) rfl rfl ?_
  refine giloadN X9 hx (hb hby dj52_14_18) rfl ?_
  show Gs p e below _ T9 m 19 #[rv aC, iv (1 : Int32), iv (2 : Int32), rv b2, iv (1 : Int32)] [(.int (1 : Int32)), (.ref aC), (.int (1 : Int32)), (.ref b2)]
  have f11 := (f4.keep K9 (ninS ne_aC_b2 nin0))
  obtain ⟨cl12, Ar12, qk12, Sz12, qz12, Ha12, Gf12⟩ := id f11
  have in12 := inb_of (j := (1 : Int32)) Sz12 ⟨by decide, by decide⟩
  refine Goes.st (fun tg kg => X9.caload hx (j := (1 : Int32)) (v := (.int c1)) Ar12.1 (State.isArrayOf_alike hZ.alike Ar12.2.1) Ar12.2.2 in12 (Ha12.at in12 rfl) (g := (mkF m 19 #[rv aC, iv (1 : Int32), iv (2 : Int32), rv b2, iv (1 : Int32)] [(.int (1 : Int32)), (.ref aC), (.int (1 : Int32)), (.ref b2)])) rfl rfl (hb hby dj52_14_19) tg kg) ?_
  show Gs p e below _ T9 m 20 #[rv aC, iv (1 : Int32), iv (2 : Int32), rv b2, iv (1 : Int32)] [(.int c1), (.int (1 : Int32)), (.ref b2)]
  have f13 := (f6.kept K9 (nsS (Arv.nostat V2) ns0))
  have f14 := (f7.kept K9 (nsS (Arv.nostat V2) ns0))
  have f15 := (f8.kept K9 (nsS (Arv.nostat V2) ns0))
  obtain ⟨_, _, ⟨T16, L16, k16, n16⟩, -, X16, ⟨Lc16, hQ16, l16, y16, z16⟩, st16⟩ := Jvm.LawKit.callS X9 hx (y := mN2) hown (mvT hZ (hwk hw 85 rfl)) (mvT hZ (hwk hw 86 rfl)) (mvT hZ (hwk hw 21 rfl)) (mvT hZ (hwk hw 87 rfl)) (by decide) (backOf (W := 0) (rmPc21 l Z a0 hw [] b2 kB2 c1 (nar .byte (c0 >>> ((0 : Int32) &&& 31)).toInt8.toInt32) (nar .byte (c0 >>> ((8 : Int32) &&& 31)).toInt8.toInt32) (0 : Int32) (0 : Int32) T9.heap n0 Z9 f13 f14 f15 loq2 V9) hZ (hwk hw 87 rfl) (hwk hw 21 rfl) (by decide) (by decide)) (g := (mkF m 20 #[rv aC, iv (1 : Int32), iv (2 : Int32), rv b2, iv (1 : Int32)] [(.int c1), (.int (1 : Int32)), (.ref b2)])) rfl (by rw [hml]; rfl) (argsL := [(.ref b2), (.int (1 : Int32)), (.int c1)]) (rest := []) (lenOf pd___BII_V_1289 rfl) rfl (by show 2 * 0 + _ ≤ _; exact Nat.le_of_eq rfl) (hb hby dj52_14_20) (fun _ _ => ⟨rfl, rfl, (by decide : 1 + 0 ≤ 1), (by decide : 4 + 0 ≤ 4)⟩)
  dsimp only [Pt.U, Pt.locs, Pt.cells, Pt.slots] at X16 l16 y16 z16 st16 hQ16
  subst l16 y16 z16
  obtain ⟨rfl, N16q, K16, V16⟩ := hQ16
  have KK17 := KK10.trans K16 (allS (Or.inr sz_b2) all0)
  have Z16 : n0 ≤ T16.heap.size := Nat.le_trans Z9 K16.1
  have N16 := Fr.app N9 N16q
  refine Goes.st st16 ?_
  show Gs p e below _ T16 m 23 #[rv aC, iv (1 : Int32), iv (2 : Int32), rv b2, iv (1 : Int32)] []
  refine Goes.st (fun tg kg => XS.iinc X16.here hx rfl (hb hby dj52_14_23) rfl (l' := #[rv aC, iv (2 : Int32), iv (2 : Int32), rv b2, iv (1 : Int32)]) rfl kg) ?_
  refine Goes.st (fun tg kg => XS.iinc X16.here hx rfl (hb hby dj52_14_26) rfl (l' := #[rv aC, iv (2 : Int32), iv (2 : Int32), rv b2, iv (2 : Int32)]) rfl kg) ?_
  show Gs p e below _ T16 m 29 #[rv aC, iv (2 : Int32), iv (2 : Int32), rv b2, iv (2 : Int32)] []
  refine ggoto X16 hx (pc' := 8) (hb hby dj52_14_29) (by decide) (by decide) ?_
  show Gs p e below _ T16 m 8 #[rv aC, iv (2 : Int32), iv (2 : Int32), rv b2, iv (2 : Int32)] []
  refine giload X16 hx (hb hby dj52_14_8) rfl ?_
  refine giloadN X16 hx (hb hby dj52_14_10) rfl ?_
  show Gs p e below _ T16 m 11 #[rv aC, iv (2 : Int32), iv (2 : Int32), rv b2, iv (2 : Int32)] [(.int (2 : Int32)), (.int (2 : Int32))]
  refine gicmpYes X16 hx (pc' := 32) (hb hby dj52_14_11) (by decide) (by decide) (by decide) ?_
  show Gs p e below _ T16 m 32 #[rv aC, iv (2 : Int32), iv (2 : Int32), rv b2, iv (2 : Int32)] []
  refine galoadN X16 hx (hb hby dj52_14_32) rfl rfl ?_
  show Gs p e below _ T16 m 33 #[rv aC, iv (2 : Int32), iv (2 : Int32), rv b2, iv (2 : Int32)] [(.ref b2)]
  refine Goes.retA X16 hx hret rfl rfl rfl (hb hby dj52_14_33) (lvN X16 hlk (vsome hret) ?_ (by decide) (by decide))
  exact ⟨b2, kB2, rfl, N16, KK17, sz_b2, loq2, V16⟩
theorem ef_Cm20 (m : MethodId) (x0 : Addr) (x1 : Int32) (x2 : Addr) (x3 : Int32) (x4 : Int32) : entryFrame m #[(.ref x0), (.int x1), (.ref x2), (.int x3), (.int x4)] 7 = mkF m 0 #[rv x0, iv x1, rv x2, iv x3, iv x4, .unset, .unset] [] := by first | (simp [entryFrame, mkF, argsToLocals, Value.category]; done) | rfl
def QCm20 (Z : State) (aC : Addr) (kC : ClassId) (c0 c1 : Int32) (aB : Addr) (kB : ClassId) (h0 : Heap) (n0 : Nat) (v : Option Value) (h : Heap) (L : List Loc) : Prop := ∃ (vs : List Value), v = some (.int (0 : Int32)) ∧ Fr n0 L ∧ Keep h0 h [aB] ∧ Arv Z h aB kB .byte (2 : Int32) vs (.int (0 : Int32))
set_option maxRecDepth 65536 in
set_option maxHeartbeats 40000000 in
theorem rmCm20 (l : Launch) (Z : State) (a0 : Array Value) (hw : ∀ d ∈ tables_1, d.before a0 Z = true) (ws : List Jvm.Cond) (aC : Addr) (kC : ClassId) (c0 c1 : Int32) (aB : Addr) (kB : ClassId) (h0 : Heap) (n0 : Nat) (Z0 : n0 ≤ h0.size) (VC : Arv Z h0 aC kC .char (2 : Int32) [(.int c0), (.int c1)] (.int (0 : Int32))) (VB : Arv Z h0 aB kB .byte (2 : Int32) [(.int (0 : Int32)), (.int (0 : Int32))] (.int (0 : Int32))) (lB : n0 ≤ aB) (nCB : aC ≠ aB) (hc0 : (255 : Int32) < c0) (hr0 : 0 ≤ c0.toInt ∧ c0.toInt < 65536) :
    MetFree l mN5 (head1 (Jvm.Cond.code mN5 jdk_52_method_21_code 7 (some .int) :: ws) ({ frames := 0, cells := 0, slots := 0, locals := 0 } : Room)) (fun aa U => aa = #[(.ref aC), (.int (0 : Int32)), (.ref aB), (.int (0 : Int32)), (.int (2 : Int32))] ∧ Z.Warmed39 U.vm ∧ U.heap = h0) (fun _ _ _ _ _ => True) (fun _ u1_ o_ u2_ => ∃ v_ l_, o_ = .returned v_ ∧ QCm20 Z aC kC c0 c1 aB kB h0 n0 v_ u2_.heap l_ ∧ FrameEnd u1_ o_ u2_ l_ ({ frames := 0, cells := 0, slots := 0, locals := 0 } : Room).cells ({ frames := 0, cells := 0, slots := 0, locals := 0 } : Room).slots) := by
  refine MetFree.of_bodySF (plainFor_of_name pn_java_lang_StringUTF16) hisR ?_
  intro p e s m args below meth c s₁ Bd hml0 hP hK
  obtain ⟨rfl, hZ, hh⟩ := hP
  have hx := Bd.exec
  have hby := Bd.bytes
  have hlk := BodyLoose.notSynchronized Bd
  have hret := Bd.returns
  have hml : c.maxLocals = 7 := hml0
  have hown : s.vm.findClass "java/lang/StringUTF16" = some m.cls := findClass_of_methodNamed Bd.named
  have hnm := (name_of_methodNamed Bd.named Bd.method).1
  have X0 : Stand p l e ({ frames := 0, cells := 0, slots := 0, locals := 0 } : Room) s m #[(.ref aC), (.int (0 : Int32)), (.ref aB), (.int (0 : Int32)), (.int (2 : Int32))] below meth c s₁ [] 0 0 := Stand.of_body Bd
  have e0 : s₁.heap = h0 := by rw [← hh, Bd.state]; rfl
  have N0 := Fr.nil n0
  refine Goes.st (E := (EN s (QCm20 Z aC kC c0 c1 aB kB h0 n0) ({ frames := 0, cells := 0, slots := 0, locals := 0 } : Room).cells ({ frames := 0, cells := 0, slots := 0, locals := 0 } : Room).slots)) (fun tg kg => castTop (ef_Cm20 m aC (0 : Int32) aB (0 : Int32) (2 : Int32)) kg) ?_
  have K0 : Keep h0 h0 [aB] := Keep.refl _ _
  show Gs p e below _ s₁ m 0 #[rv aC, iv (0 : Int32), rv aB, iv (0 : Int32), iv (2 : Int32), .unset, .unset] []
  refine giconst X0 hx (hb hby dj52_21_0) ?_
  refine gistore X0 hx (hb hby dj52_21_1) trivial (l' := #[rv aC, iv (0 : Int32), rv aB, iv (0 : Int32), iv (2 : Int32), iv (0 : Int32), .unset]) rfl ?_
  refine giload X0 hx (hb hby dj52_21_3) rfl ?_
  refine giload X0 hx (hb hby dj52_21_5) rfl ?_
  show Gs p e below _ s₁ m 7 #[rv aC, iv (0 : Int32), rv aB, iv (0 : Int32), iv (2 : Int32), iv (0 : Int32), .unset] [(.int (2 : Int32)), (.int (0 : Int32))]
  refine gicmpNo X0 hx (hb hby dj52_21_7) (by decide) ?_
  show Gs p e below _ s₁ m 10 #[rv aC, iv (0 : Int32), rv aB, iv (0 : Int32), iv (2 : Int32), iv (0 : Int32), .unset] []
  refine galoadN X0 hx (hb hby dj52_21_10) rfl rfl ?_
  refine giloadN X0 hx (hb hby dj52_21_11) rfl ?_
  show Gs p e below _ s₁ m 12 #[rv aC, iv (0 : Int32), rv aB, iv (0 : Int32), iv (2 : Int32), iv (0 : Int32), .unset] [(.int (0 : Int32)), (.ref aC)]
  obtain ⟨cl1, Ar1, qk1, Sz1, qz1, Ha1, Gf1⟩ := id VC
  have in1 := inb_of (j := (0 : Int32)) Sz1 ⟨by decide, by decide⟩
  refine Goes.st (fun tg kg => X0.caload hx (j := (0 : Int32)) (v := (.int c0)) (by rw [e0]; exact Ar1.1) (State.isArrayOf_alike hZ.alike Ar1.2.1) Ar1.2.2 in1 (Ha1.at in1 rfl) (g := (mkF m 12 #[rv aC, iv (0 : Int32), rv aB, iv (0 : Int32), iv (2 : Int32), iv (0 : Int32), .unset] [(.int (0 : Int32)), (.ref aC)])) rfl rfl (hb hby dj52_21_12) tg kg) ?_
  show Gs p e below _ s₁ m 13 #[rv aC, iv (0 : Int32), rv aB, iv (0 : Int32), iv (2 : Int32), iv (0 : Int32), .unset] [(.int c0)]
  refine gistore X0 hx (hb hby dj52_21_13) trivial (l' := #[rv aC, iv (0 : Int32), rv aB, iv (0 : Int32), iv (2 : Int32), iv (0 : Int32), iv c0]) rfl ?_
  refine giload X0 hx (hb hby dj52_21_15) rfl ?_
  refine Goes.st (fun tg kg => XS.sipush X0.here hx rfl (hb hby dj52_21_17) kg) ?_
  show Gs p e below _ s₁ m 20 #[rv aC, iv (0 : Int32), rv aB, iv (0 : Int32), iv (2 : Int32), iv (0 : Int32), iv c0] [(.int (255 : Int32)), (.int c0)]
  refine gicmpNo X0 hx (hb hby dj52_21_20) (tlt hc0).2.2.2 ?_
  show Gs p e below _ s₁ m 23 #[rv aC, iv (0 : Int32), rv aB, iv (0 : Int32), iv (2 : Int32), iv (0 : Int32), iv c0] []
  refine giload X0 hx (hb hby dj52_21_23) rfl ?_
  show Gs p e below _ s₁ m 25 #[rv aC, iv (0 : Int32), rv aB, iv (0 : Int32), iv (2 : Int32), iv (0 : Int32), iv c0] [(.int (0 : Int32))]
  refine Goes.retI X0 hx hret (hb hby dj52_21_25) (lvN X0 hlk (vsome hret) ?_ (by decide) (by decide))
  rw [e0]
  exact ⟨_, rfl, N0, K0, VB⟩
theorem ef_Cx20 (m : MethodId) (x0 : Addr) (x1 : Int32) (x2 : Int32) : entryFrame m #[(.ref x0), (.int x1), (.int x2)] 6 = mkF m 0 #[rv x0, iv x1, iv x2, .unset, .unset, .unset] [] := by first | (simp [entryFrame, mkF, argsToLocals, Value.category]; done) | rfl
def QCx20 (Z : State) (aC : Addr) (kC : ClassId) (c0 c1 : Int32) (h0 : Heap) (n0 : Nat) (v : Option Value) (h : Heap) (L : List Loc) : Prop := ∃ (b : Addr) (kB : ClassId) (vs : List Value), v = some (.ref b) ∧ Fr n0 L ∧ Keep h0 h [] ∧ h0.size ≤ b ∧ n0 ≤ b ∧ Arv Z h b kB .byte (4 : Int32) vs (.int (0 : Int32))
set_option maxRecDepth 65536 in
set_option maxHeartbeats 40000000 in
theorem rmCx20 (l : Launch) (Z : State) (a0 : Array Value) (hw : ∀ d ∈ tables_1, d.before a0 Z = true) (ws : List Jvm.Cond) (aC : Addr) (kC : ClassId) (c0 c1 : Int32) (h0 : Heap) (n0 : Nat) (Z0 : n0 ≤ h0.size) (Sd : Sta Z h0 "java/lang/StringUTF16" "$assertionsDisabled" "Z" (.int (1 : Int32))) (Sh : Sta Z h0 "java/lang/StringUTF16" "HI_BYTE_SHIFT" "I" (.int (0 : Int32))) (Sl : Sta Z h0 "java/lang/StringUTF16" "LO_BYTE_SHIFT" "I" (.int (8 : Int32))) (VC : Arv Z h0 aC kC .char (2 : Int32) [(.int c0), (.int c1)] (.int (0 : Int32))) (hc0 : (255 : Int32) < c0) (hr0 : 0 ≤ c0.toInt ∧ c0.toInt < 65536) :
    MetFree l mN6 (head1 (Jvm.Cond.code mN6 jdk_52_method_16_code 6 (some (.array .byte)) :: ws) ({ frames := 3, cells := 2, slots := 6, locals := 40 } : Room)) (fun aa U => aa = #[(.ref aC), (.int (0 : Int32)), (.int (2 : Int32))] ∧ Z.Warmed39 U.vm ∧ U.heap = h0) (fun _ _ _ _ _ => True) (fun _ u1_ o_ u2_ => ∃ v_ l_, o_ = .returned v_ ∧ QCx20 Z aC kC c0 c1 h0 n0 v_ u2_.heap l_ ∧ FrameEnd u1_ o_ u2_ l_ ({ frames := 3, cells := 2, slots := 6, locals := 40 } : Room).cells ({ frames := 3, cells := 2, slots := 6, locals := 40 } : Room).slots) := by
  refine MetFree.of_bodySF (plainFor_of_name pn_java_lang_StringUTF16) hisR ?_
  intro p e s m args below meth c s₁ Bd hml0 hP hK
  obtain ⟨rfl, hZ, hh⟩ := hP
  have hx := Bd.exec
  have hby := Bd.bytes
  have hlk := BodyLoose.notSynchronized Bd
  have hret := Bd.returns
  have hml : c.maxLocals = 6 := hml0
  have hown : s.vm.findClass "java/lang/StringUTF16" = some m.cls := findClass_of_methodNamed Bd.named
  have hnm := (name_of_methodNamed Bd.named Bd.method).1
  have X0 : Stand p l e ({ frames := 3, cells := 2, slots := 6, locals := 40 } : Room) s m #[(.ref aC), (.int (0 : Int32)), (.int (2 : Int32))] below meth c s₁ [] 0 0 := Stand.of_body Bd
  have e0 : s₁.heap = h0 := by rw [← hh, Bd.state]; rfl
  have N0 := Fr.nil n0
  refine Goes.st (E := (EN s (QCx20 Z aC kC c0 c1 h0 n0) ({ frames := 3, cells := 2, slots := 6, locals := 40 } : Room).cells ({ frames := 3, cells := 2, slots := 6, locals := 40 } : Room).slots)) (fun tg kg => castTop (ef_Cx20 m aC (0 : Int32) (2 : Int32)) kg) ?_
  have K0 : Keep h0 h0 [] := Keep.refl _ _
  show Gs p e below _ s₁ m 0 #[rv aC, iv (0 : Int32), iv (2 : Int32), .unset, .unset, .unset] []
  refine giloadN X0 hx (hb hby dj52_16_0) rfl ?_
  obtain ⟨T1, h1, cA1, X1, e1, E1, A1, st1⟩ := newP X0 hx hZ (hwk hw 23 rfl) e0 (g := (mkF m 1 #[rv aC, iv (0 : Int32), iv (2 : Int32), .unset, .unset, .unset] [(.int (2 : Int32))])) rfl (hb hby dj52_16_1) rfl (by decide) (cap := 2) (by decide) (by decide) (by decide) (by decide)
  obtain ⟨b1, g1⟩ : ∃ z, z = h0.size := ⟨_, rfl⟩
  rw [← g1] at A1 st1
  have ne_aC_b1 : aC ≠ b1 := Nat.ne_of_lt (Nat.lt_of_lt_of_le VC.lt (Nat.le_of_eq g1.symm))
  have lo_b1 : n0 ≤ b1 := by have := Z0; omega
  have sz_b1 : h0.size ≤ b1 := by have := K0.1; omega
  have KK2 := K0.ext E1
  have V1 : Arv Z h1 b1 cA1 .byte (2 : Int32) [(.int (0 : Int32)), (.int (0 : Int32))] (.int (0 : Int32)) := (Arv.new A1 (by decide)).pad (pad_rep [] _ 2)
  refine Goes.st st1 ?_
  have Z1 : n0 ≤ h1.size := Nat.le_trans Z0 E1.1
  show Gs p e below _ T1 m 3 #[rv aC, iv (0 : Int32), iv (2 : Int32), .unset, .unset, .unset] [(.ref b1)]
  refine gastoreN X1 hx (hb hby dj52_16_3) trivial rfl (l' := #[rv aC, iv (0 : Int32), iv (2 : Int32), rv b1, .unset, .unset]) rfl ?_
  refine galoadN X1 hx (hb hby dj52_16_4) rfl rfl ?_
  refine giloadN X1 hx (hb hby dj52_16_5) rfl ?_
  refine galoadN X1 hx (hb hby dj52_16_6) rfl rfl ?_
  refine giconst X1 hx (hb hby dj52_16_7) ?_
  show Gs p e below _ T1 m 8 #[rv aC, iv (0 : Int32), iv (2 : Int32), rv b1, .unset, .unset] [(.int (0 : Int32)), (.ref b1), (.int (0 : Int32)), (.ref aC)]
  refine giloadN X1 hx (hb hby dj52_16_8) rfl ?_
  have f3 := (VC.ext E1)
  obtain ⟨_, _, ⟨T4, L4, k4, n4⟩, -, X4, ⟨Lc4, hQ4, l4, y4, z4⟩, st4⟩ := Jvm.LawKit.callS X1 hx (y := mN5) hown (mvT hZ (hwk hw 24 rfl)) (mvT hZ (hwk hw 25 rfl)) (mvT hZ (hwk hw 21 rfl)) (mvT hZ (hwk hw 26 rfl)) (by decide) (backOf (W := 0) (rmCm20 l Z a0 hw [] aC kC c0 c1 b1 cA1 h1 n0 Z1 f3 V1 lo_b1 ne_aC_b1 hc0 hr0) hZ (hwk hw 26 rfl) (hwk hw 21 rfl) (by decide) (by decide)) (g := (mkF m 9 #[rv aC, iv (0 : Int32), iv (2 : Int32), rv b1, .unset, .unset] [(.int (2 : Int32)), (.int (0 : Int32)), (.ref b1), (.int (0 : Int32)), (.ref aC)])) rfl (by rw [hml]; rfl) (argsL := [(.ref aC), (.int (0 : Int32)), (.ref b1), (.int (0 : Int32)), (.int (2 : Int32))]) (rest := []) (lenOf pd___CI_BII_I_1ed0 rfl) rfl (by show 2 * 0 + _ ≤ _; exact Nat.le_of_eq rfl) (hb hby dj52_16_9) (fun _ _ => ⟨rfl, e1, (by decide : 1 + 0 ≤ 2), (by decide : 2 + 0 ≤ 6)⟩)
  dsimp only [Pt.U, Pt.locs, Pt.cells, Pt.slots] at X4 l4 y4 z4 st4 hQ4
  subst l4 y4 z4
  obtain ⟨vs4, rfl, N4q, K4, V4⟩ := hQ4
  have KK5 := KK2.trans K4 (allS (Or.inr sz_b1) all0)
  have Z4 : n0 ≤ T4.heap.size := Nat.le_trans Z1 K4.1
  have N4 := Fr.app N0 N4q
  refine Goes.st st4 ?_
  show Gs p e below _ T4 m 12 #[rv aC, iv (0 : Int32), iv (2 : Int32), rv b1, .unset, .unset] [(.int (0 : Int32))]
  refine gistore X4 hx (hb hby dj52_16_12) trivial (l' := #[rv aC, iv (0 : Int32), iv (2 : Int32), rv b1, iv (0 : Int32), .unset]) rfl ?_
  refine giload X4 hx (hb hby dj52_16_14) rfl ?_
  refine giloadN X4 hx (hb hby dj52_16_16) rfl ?_
  show Gs p e below _ T4 m 17 #[rv aC, iv (0 : Int32), iv (2 : Int32), rv b1, iv (0 : Int32), .unset] [(.int (2 : Int32)), (.int (0 : Int32))]
  refine gicmpNo X4 hx (hb hby dj52_16_17) (by decide) ?_
  show Gs p e below _ T4 m 20 #[rv aC, iv (0 : Int32), iv (2 : Int32), rv b1, iv (0 : Int32), .unset] []
  refine galoadN X4 hx (hb hby dj52_16_20) rfl rfl ?_
  refine giloadN X4 hx (hb hby dj52_16_21) rfl ?_
  refine giloadN X4 hx (hb hby dj52_16_22) rfl ?_
  have f6 := (f3.keep K4 (ninS ne_aC_b1 nin0))
  have f7 := ((Sd.ext E1).kept K4 (nsS (Arv.nostat V1) ns0))
  have f8 := ((Sh.ext E1).kept K4 (nsS (Arv.nostat V1) ns0))
  have f9 := ((Sl.ext E1).kept K4 (nsS (Arv.nostat V1) ns0))
  have lt10 : aC < T4.heap.size := f6.lt
  have lt11 : b1 < T4.heap.size := V4.lt
  obtain ⟨_, _, ⟨T12, L12, k12, n12⟩, -, X12, ⟨Lc12, hQ12, l12, y12, z12⟩, st12⟩ := Jvm.LawKit.callS X4 hx (y := mN4) hown (mvT hZ (hwk hw 75 rfl)) (mvT hZ (hwk hw 76 rfl)) (mvT hZ (hwk hw 21 rfl)) (mvT hZ (hwk hw 77 rfl)) (by decide) (backOf (W := 0) (rmBy2 l Z a0 hw [] aC kC c0 c1 T4.heap n0 Z4 f7 f8 f9 f6) hZ (hwk hw 77 rfl) (hwk hw 21 rfl) (by decide) (by decide)) (g := (mkF m 23 #[rv aC, iv (0 : Int32), iv (2 : Int32), rv b1, iv (0 : Int32), .unset] [(.int (2 : Int32)), (.int (0 : Int32)), (.ref aC)])) rfl (by rw [hml]; rfl) (argsL := [(.ref aC), (.int (0 : Int32)), (.int (2 : Int32))]) (rest := []) (lenOf pd___CII__B_166f rfl) rfl (by show 2 * 0 + _ ≤ _; exact Nat.le_of_eq rfl) (hb hby dj52_16_23) (fun _ _ => ⟨rfl, rfl, (by decide : 1 + 1 ≤ 2), (by decide : 2 + 4 ≤ 6)⟩)
  dsimp only [Pt.U, Pt.locs, Pt.cells, Pt.slots] at X12 l12 y12 z12 st12 hQ12
  subst l12 y12 z12
  obtain ⟨b12, kB12, rfl, N12q, K12, szq12, loq12, V12⟩ := hQ12
  have KK13 := KK5.trans K12 all0
  have ne_aC_b12 : aC ≠ b12 := Nat.ne_of_lt (Nat.lt_of_lt_of_le lt10 szq12)
  have ne_b1_b12 : b1 ≠ b12 := Nat.ne_of_lt (Nat.lt_of_lt_of_le lt11 szq12)
  have sz_b12 : h0.size ≤ b12 := by have := KK13.1; have := szq12; omega
  have Z12 : n0 ≤ T12.heap.size := Nat.le_trans Z4 K12.1
  have N12 := Fr.app N4 N12q
  refine Goes.st st12 ?_
  show Gs p e below _ T12 m 26 #[rv aC, iv (0 : Int32), iv (2 : Int32), rv b1, iv (0 : Int32), .unset] [(.ref b12)]
  refine gastore X12 hx (hb hby dj52_16_26) trivial rfl (l' := #[rv aC, iv (0 : Int32), iv (2 : Int32), rv b1, iv (0 : Int32), rv b12]) rfl ?_
  refine gaload X12 hx (hb hby dj52_16_28) rfl rfl ?_
  refine giload X12 hx (hb hby dj52_16_30) rfl ?_
  have f14 := (f7.kept K12 ns0)
  have f15 := (f8.kept K12 ns0)
  have f16 := (f9.kept K12 ns0)
  obtain ⟨_, _, ⟨T17, L17, k17, n17⟩, -, X17, ⟨Lc17, hQ17, l17, y17, z17⟩, st17⟩ := Jvm.LawKit.callS X12 hx (y := mN3) hown (mvT hZ (hwk hw 91 rfl)) (mvT hZ (hwk hw 92 rfl)) (mvT hZ (hwk hw 21 rfl)) (mvT hZ (hwk hw 93 rfl)) (by decide) (backOf (W := 0) (rmGc20 l Z a0 hw [] b12 kB12 (nar .byte (c0 >>> ((0 : Int32) &&& 31)).toInt8.toInt32) (nar .byte (c0 >>> ((8 : Int32) &&& 31)).toInt8.toInt32) (nar .byte (c1 >>> ((0 : Int32) &&& 31)).toInt8.toInt32) (nar .byte (c1 >>> ((8 : Int32) &&& 31)).toInt8.toInt32) T12.heap n0 Z12 f14 f15 f16 V12) hZ (hwk hw 93 rfl) (hwk hw 21 rfl) (by decide) (by decide)) (g := (mkF m 32 #[rv aC, iv (0 : Int32), iv (2 : Int32), rv b1, iv (0 : Int32), rv b12] [(.int (0 : Int32)), (.ref b12)])) rfl (by rw [hml]; rfl) (argsL := [(.ref b12), (.int (0 : Int32))]) (rest := []) (lenOf pd___BI_C_e03 rfl) rfl (by show 2 * 0 + _ ≤ _; exact Nat.le_of_eq rfl) (hb hby dj52_16_32) (fun _ _ => ⟨rfl, rfl, (by decide : 2 + 0 ≤ 2), (by decide : 6 + 0 ≤ 6)⟩)
  dsimp only [Pt.U, Pt.locs, Pt.cells, Pt.slots] at X17 l17 y17 z17 st17 hQ17
  subst l17 y17 z17
  obtain ⟨rfl, N17q, eh17⟩ := hQ17
  rw [own_gc hr0] at st17
  have N17 := Fr.app N12 N17q
  refine Goes.st st17 ?_
  show Gs p e below _ T17 m 35 #[rv aC, iv (0 : Int32), iv (2 : Int32), rv b1, iv (0 : Int32), rv b12] [(.int c0)]
  refine Goes.st (fun tg kg => XS.sipush X17.here hx rfl (hb hby dj52_16_35) kg) ?_
  show Gs p e below _ T17 m 38 #[rv aC, iv (0 : Int32), iv (2 : Int32), rv b1, iv (0 : Int32), rv b12] [(.int (255 : Int32)), (.int c0)]
  refine gicmpYes X17 hx (pc' := 54) (hb hby dj52_16_38) (tlt hc0).2.2.1 (by decide) (by decide) ?_
  show Gs p e below _ T17 m 54 #[rv aC, iv (0 : Int32), iv (2 : Int32), rv b1, iv (0 : Int32), rv b12] []
  refine gaload X17 hx (hb hby dj52_16_54) rfl rfl ?_
  show Gs p e below _ T17 m 56 #[rv aC, iv (0 : Int32), iv (2 : Int32), rv b1, iv (0 : Int32), rv b12] [(.ref b12)]
  refine Goes.retA X17 hx hret rfl rfl rfl (hb hby dj52_16_56) (lvN X17 hlk (vsome hret) ?_ (by decide) (by decide))
  rw [eh17]
  exact ⟨b12, kB12, _, rfl, N17, KK13, sz_b12, loq12, V12⟩
theorem ef_Cl24 (m : MethodId) (x0 : Addr) (x1 : Int32) : entryFrame m #[(.ref x0), (.int x1)] 2 = mkF m 0 #[rv x0, iv x1] [] := by first | (simp [entryFrame, mkF, argsToLocals, Value.category]; done) | rfl
def QCl24 (Z : State) (aB : Addr) (kB : ClassId) (vs : List Value) (h0 : Heap) (n0 : Nat) (v : Option Value) (h : Heap) (L : List Loc) : Prop := v = some (.int (1 : Int32)) ∧ Fr n0 L ∧ h = h0
set_option maxRecDepth 65536 in
set_option maxHeartbeats 40000000 in
theorem rmCl24 (l : Launch) (Z : State) (a0 : Array Value) (hw : ∀ d ∈ tables_1, d.before a0 Z = true) (ws : List Jvm.Cond) (aB : Addr) (kB : ClassId) (vs : List Value) (h0 : Heap) (n0 : Nat) (Z0 : n0 ≤ h0.size) (VB : Arv Z h0 aB kB .byte (4 : Int32) vs (.int (0 : Int32))) :
    MetFree l mN7 (head1 (Jvm.Cond.code mN7 jdk_52_method_15_code 2 (some .byte) :: ws) ({ frames := 0, cells := 0, slots := 0, locals := 0 } : Room)) (fun aa U => aa = #[(.ref aB), (.int (2 : Int32))] ∧ Z.Warmed39 U.vm ∧ U.heap = h0) (fun _ _ _ _ _ => True) (fun _ u1_ o_ u2_ => ∃ v_ l_, o_ = .returned v_ ∧ QCl24 Z aB kB vs h0 n0 v_ u2_.heap l_ ∧ FrameEnd u1_ o_ u2_ l_ ({ frames := 0, cells := 0, slots := 0, locals := 0 } : Room).cells ({ frames := 0, cells := 0, slots := 0, locals := 0 } : Room).slots) := by
  refine MetFree.of_bodySF (plainFor_of_name pn_java_lang_StringUTF16) hisR ?_
  intro p e s m args below meth c s₁ Bd hml0 hP hK
  obtain ⟨rfl, hZ, hh⟩ := hP
  have hx := Bd.exec
  have hby := Bd.bytes
  have hlk := BodyLoose.notSynchronized Bd
  have hret := Bd.returns
  have hml : c.maxLocals = 2 := hml0
  have hown : s.vm.findClass "java/lang/StringUTF16" = some m.cls := findClass_of_methodNamed Bd.named
  have hnm := (name_of_methodNamed Bd.named Bd.method).1
  have X0 : Stand p l e ({ frames := 0, cells := 0, slots := 0, locals := 0 } : Room) s m #[(.ref aB), (.int (2 : Int32))] below meth c s₁ [] 0 0 := Stand.of_body Bd
  have e0 : s₁.heap = h0 := by rw [← hh, Bd.state]; rfl
  have N0 := Fr.nil n0
  refine Goes.st (E := (EN s (QCl24 Z aB kB vs h0 n0) ({ frames := 0, cells := 0, slots := 0, locals := 0 } : Room).cells ({ frames := 0, cells := 0, slots := 0, locals := 0 } : Room).slots)) (fun tg kg => castTop (ef_Cl24 m aB (2 : Int32)) kg) ?_
  show Gs p e below _ s₁ m 0 #[rv aB, iv (2 : Int32)] []
  refine giloadN X0 hx (hb hby dj52_15_0) rfl ?_
  refine galoadN X0 hx (hb hby dj52_15_1) rfl rfl ?_
  show Gs p e below _ s₁ m 2 #[rv aB, iv (2 : Int32)] [(.ref aB), (.int (2 : Int32))]
  obtain ⟨cl1, Ar1, qk1, Sz1, qz1, Ha1, Gf1⟩ := id VB
  refine Goes.st (fun tg kg => X0.arraylength hx (cell := cl1) (by rw [e0]; exact Ar1.1) (State.isArrayOf_alike hZ.alike Ar1.2.1) (g := (mkF m 2 #[rv aB, iv (2 : Int32)] [(.ref aB), (.int (2 : Int32))])) rfl (rest := [(.int (2 : Int32))]) rfl (hb hby dj52_15_2) tg kg) ?_
  rw [len_of Sz1 qz1]
  show Gs p e below _ s₁ m 3 #[rv aB, iv (2 : Int32)] [(.int (4 : Int32)), (.int (2 : Int32))]
  refine gisub X0 hx (hb hby dj52_15_3) trivial ?_
  show Gs p e below _ s₁ m 4 #[rv aB, iv (2 : Int32)] [(.int ((2 : Int32) - (4 : Int32)))]
  rw [show ((2 : Int32) - (4 : Int32)) = (-2 : Int32) from by decide]
  show Gs p e below _ s₁ m 4 #[rv aB, iv (2 : Int32)] [(.int (-2 : Int32))]
  refine Goes.st (fun tg kg => XS.bipush X0.here hx rfl (hb hby dj52_15_4) kg) ?_
  show Gs p e below _ s₁ m 6 #[rv aB, iv (2 : Int32)] [(.int (31 : Int32)), (.int (-2 : Int32))]
  refine Goes.st (fun tg kg => XT.iushr X0.here hx rfl (hb hby dj52_15_6) rfl kg) ?_
  show Gs p e below _ s₁ m 7 #[rv aB, iv (2 : Int32)] [(.int (XT.ushr (-2 : Int32) (31 : Int32)))]
  rw [show (XT.ushr (-2 : Int32) (31 : Int32)) = (1 : Int32) from by decide]
  show Gs p e below _ s₁ m 7 #[rv aB, iv (2 : Int32)] [(.int (1 : Int32))]
  refine Goes.st (fun tg kg => XT.i2b X0.here hx rfl (hb hby dj52_15_7) rfl kg) ?_
  show Gs p e below _ s₁ m 8 #[rv aB, iv (2 : Int32)] [(.int ((1 : Int32)).toInt8.toInt32)]
  rw [show ((1 : Int32)).toInt8.toInt32 = (1 : Int32) from by decide]
  show Gs p e below _ s₁ m 8 #[rv aB, iv (2 : Int32)] [(.int (1 : Int32))]
  refine Goes.retN X0 hx hret (by simp) (hb hby dj52_15_8) (by decide) (lvN X0 hlk (vsome hret) ?_ (by decide) (by decide))
  rw [e0]
  exact ⟨rfl, N0, rfl⟩
theorem ef_Iv20 (m : MethodId) (x0 : Addr) (x1 : Addr) (x2 : Int32) (x3 : Int32) : entryFrame m #[(.ref x0), (.ref x1), (.int x2), (.int x3), .null] 6 = mkF m 0 #[rv x0, rv x1, iv x2, iv x3, .val .null, .unset] [] := by first | (simp [entryFrame, mkF, argsToLocals, Value.category]; done) | rfl
def QIv20 (Z : State) (a : Addr) (cs : Int32) (aC : Addr) (kC : ClassId) (c0 c1 : Int32) (h0 : Heap) (n0 : Nat) (v : Option Value) (h : Heap) (L : List Loc) : Prop := v = none ∧ Fr n0 L ∧ Keep h0 h [a]
set_option maxRecDepth 65536 in
set_option maxHeartbeats 40000000 in
theorem rmIv20 (l : Launch) (Z : State) (a0 : Array Value) (hw : ∀ d ∈ tables_1, d.before a0 Z = true) (ws : List Jvm.Cond) (a : Addr) (cs : Int32) (aC : Addr) (kC : ClassId) (c0 c1 : Int32) (h0 : Heap) (n0 : Nat) (Z0 : n0 ≤ h0.size) (Scs : Sta Z h0 "java/lang/String" "COMPACT_STRINGS" "Z" (.int cs)) (hcs : ¬ cs = (0 : Int32)) (Sd : Sta Z h0 "java/lang/StringUTF16" "$assertionsDisabled" "Z" (.int (1 : Int32))) (Sh : Sta Z h0 "java/lang/StringUTF16" "HI_BYTE_SHIFT" "I" (.int (0 : Int32))) (Sl : Sta Z h0 "java/lang/StringUTF16" "LO_BYTE_SHIFT" "I" (.int (8 : Int32))) (Ea : Exa Z h0 a "java/lang/String") (ga : n0 ≤ a) (Fv : Fld Z h0 a "java/lang/String" "value" "[B" .null) (Fc : Fld Z h0 a "java/lang/String" "coder" "B" (.int (0 : Int32))) (VC : Arv Z h0 aC kC .char (2 : Int32) [(.int c0), (.int c1)] (.int (0 : Int32))) (naC : a ≠ aC) (hc0 : (255 : Int32) < c0) (hr0 : 0 ≤ c0.toInt ∧ c0.toInt < 65536) :
    MetFree l mN8 (head1 (Jvm.Cond.code mN8 jdk_42_method_149_code 6 none :: ws) ({ frames := 4, cells := 2, slots := 6, locals := 57 } : Room)) (fun aa U => aa = #[(.ref a), (.ref aC), (.int (0 : Int32)), (.int (2 : Int32)), .null] ∧ Z.Warmed39 U.vm ∧ U.heap = h0) (fun _ _ _ _ _ => True) (fun _ u1_ o_ u2_ => ∃ v_ l_, o_ = .returned v_ ∧ QIv20 Z a cs aC kC c0 c1 h0 n0 v_ u2_.heap l_ ∧ FrameEnd u1_ o_ u2_ l_ ({ frames := 4, cells := 2, slots := 6, locals := 57 } : Room).cells ({ frames := 4, cells := 2, slots := 6, locals := 57 } : Room).slots) := by
  refine MetFree.of_bodySF (plainFor_of_name pn_java_lang_String) hisR ?_
  intro p e s m args below meth c s₁ Bd hml0 hP hK
  obtain ⟨rfl, hZ, hh⟩ := hP
  have hx := Bd.exec
  have hby := Bd.bytes
  have hlk := BodyLoose.notSynchronized Bd
  have hret := Bd.returns
  have hml : c.maxLocals = 6 := hml0
  have hown : s.vm.findClass "java/lang/String" = some m.cls := findClass_of_methodNamed Bd.named
  have hnm := (name_of_methodNamed Bd.named Bd.method).1
  have X0 : Stand p l e ({ frames := 4, cells := 2, slots := 6, locals := 57 } : Room) s m #[(.ref a), (.ref aC), (.int (0 : Int32)), (.int (2 : Int32)), .null] below meth c s₁ [] 0 0 := Stand.of_body Bd
  have e0 : s₁.heap = h0 := by rw [← hh, Bd.state]; rfl
  have N0 := Fr.nil n0
  refine Goes.st (E := (EN s (QIv20 Z a cs aC kC c0 c1 h0 n0) ({ frames := 4, cells := 2, slots := 6, locals := 57 } : Room).cells ({ frames := 4, cells := 2, slots := 6, locals := 57 } : Room).slots)) (fun tg kg => castTop (ef_Iv20 m a aC (0 : Int32) (2 : Int32)) kg) ?_
  have K0 : Keep h0 h0 [a] := Keep.refl _ _
  show Gs p e below _ s₁ m 0 #[rv a, rv aC, iv (0 : Int32), iv (2 : Int32), .val .null, .unset] []
  refine galoadN X0 hx (hb hby dj42_149_0) rfl rfl ?_
  obtain ⟨T1, X1, e1, st1⟩ := initO X0 hx hZ hown (hwk hw 15 rfl) (hwk hw 16 rfl) (hwk hw 17 rfl) e0 (g := (mkF m 1 #[rv a, rv aC, iv (0 : Int32), iv (2 : Int32), .val .null, .unset] [(.ref a)])) rfl (by rw [hml]; rfl) rfl (hb hby dj42_149_1) (by decide) (W := 0) (by show 2 * 0 + _ ≤ _; exact Nat.le_of_eq rfl) (by decide)
  refine Goes.st st1 ?_
  show Gs p e below _ T1 m 4 #[rv a, rv aC, iv (0 : Int32), iv (2 : Int32), .val .null, .unset] []
  refine giloadN X1 hx (hb hby dj42_149_4) rfl ?_
  show Gs p e below _ T1 m 5 #[rv a, rv aC, iv (0 : Int32), iv (2 : Int32), .val .null, .unset] [(.int (2 : Int32))]
  refine gifYes X1 hx (pc' := 27) (hb hby dj42_149_5) (by decide) (by decide) (by decide) ?_
  show Gs p e below _ T1 m 27 #[rv a, rv aC, iv (0 : Int32), iv (2 : Int32), .val .null, .unset] []
  obtain ⟨T2, X2, e2, st2⟩ := getS X1 hx hZ hown (host := "") (hwk hw 18 rfl) Via.refl e1 Scs (g := (mkF m 27 #[rv a, rv aC, iv (0 : Int32), iv (2 : Int32), .val .null, .unset] [])) rfl (hb hby dj42_149_27)
  refine Goes.st st2 ?_
  show Gs p e below _ T2 m 30 #[rv a, rv aC, iv (0 : Int32), iv (2 : Int32), .val .null, .unset] [(.int cs)]
  refine gifNo X2 hx (hb hby dj42_149_30) ((if0 _ _).trans (feq hcs).1) ?_
  show Gs p e below _ T2 m 33 #[rv a, rv aC, iv (0 : Int32), iv (2 : Int32), .val .null, .unset] []
  refine galoadN X2 hx (hb hby dj42_149_33) rfl rfl ?_
  refine giloadN X2 hx (hb hby dj42_149_34) rfl ?_
  refine giloadN X2 hx (hb hby dj42_149_35) rfl ?_
  have lt3 : a < h0.size := Ea.lt
  have lt4 : aC < h0.size := VC.lt
  obtain ⟨_, _, ⟨T5, L5, k5, n5⟩, -, X5, ⟨Lc5, hQ5, l5, y5, z5⟩, st5⟩ := Jvm.LawKit.callS X2 hx (y := mN6) hown (mvT hZ (hwk hw 19 rfl)) (mvT hZ (hwk hw 20 rfl)) (mvT hZ (hwk hw 21 rfl)) (mvT hZ (hwk hw 22 rfl)) (by decide) (backOf (W := 0) (rmCx20 l Z a0 hw [] aC kC c0 c1 h0 n0 Z0 Sd Sh Sl VC hc0 hr0) hZ (hwk hw 22 rfl) (hwk hw 21 rfl) (by decide) (by decide)) (g := (mkF m 36 #[rv a, rv aC, iv (0 : Int32), iv (2 : Int32), .val .null, .unset] [(.int (2 : Int32)), (.int (0 : Int32)), (.ref aC)])) rfl (by rw [hml]; rfl) (argsL := [(.ref aC), (.int (0 : Int32)), (.int (2 : Int32))]) (rest := []) (lenOf pd___CII__B_166f rfl) rfl (by show 2 * 0 + _ ≤ _; exact Nat.le_of_eq rfl) (hb hby dj42_149_36) (fun _ _ => ⟨rfl, e2, (by decide : 0 + 2 ≤ 2), (by decide : 0 + 6 ≤ 6)⟩)
  dsimp only [Pt.U, Pt.locs, Pt.cells, Pt.slots] at X5 l5 y5 z5 st5 hQ5
  subst l5 y5 z5
  obtain ⟨b5, kB5, vs5, rfl, N5q, K5, szq5, loq5, V5⟩ := hQ5
  have KK6 := K0.trans K5 all0
  have ne_a_b5 : a ≠ b5 := Nat.ne_of_lt (Nat.lt_of_lt_of_le lt3 szq5)
  have ne_aC_b5 : aC ≠ b5 := Nat.ne_of_lt (Nat.lt_of_lt_of_le lt4 szq5)
  have sz_b5 : h0.size ≤ b5 := by have := KK6.1; have := szq5; omega
  have Z5 : n0 ≤ T5.heap.size := Nat.le_trans Z0 K5.1
  have N5 := Fr.app N0 N5q
  refine Goes.st st5 ?_
  show Gs p e below _ T5 m 39 #[rv a, rv aC, iv (0 : Int32), iv (2 : Int32), .val .null, .unset] [(.ref b5)]
  refine gastore X5 hx (hb hby dj42_149_39) trivial rfl (l' := #[rv a, rv aC, iv (0 : Int32), iv (2 : Int32), .val .null, rv b5]) rfl ?_
  refine galoadN X5 hx (hb hby dj42_149_41) rfl rfl ?_
  refine gaload X5 hx (hb hby dj42_149_42) rfl rfl ?_
  refine giloadN X5 hx (hb hby dj42_149_44) rfl ?_
  obtain ⟨_, _, ⟨T7, L7, k7, n7⟩, -, X7, ⟨Lc7, hQ7, l7, y7, z7⟩, st7⟩ := Jvm.LawKit.callS X5 hx (y := mN7) hown (mvT hZ (hwk hw 27 rfl)) (mvT hZ (hwk hw 28 rfl)) (mvT hZ (hwk hw 21 rfl)) (mvT hZ (hwk hw 29 rfl)) (by decide) (backOf (W := 1) (rmCl24 l Z a0 hw [] b5 kB5 vs5 T5.heap n0 Z5 V5) hZ (hwk hw 29 rfl) (hwk hw 21 rfl) (by decide) (by decide)) (g := (mkF m 45 #[rv a, rv aC, iv (0 : Int32), iv (2 : Int32), .val .null, rv b5] [(.int (2 : Int32)), (.ref b5), (.ref a)])) rfl (by rw [hml]; rfl) (argsL := [(.ref b5), (.int (2 : Int32))]) (rest := [(.ref a)]) (lenOf pd___BI_B_df7 rfl) rfl (by show 2 * 0 + _ ≤ _; exact Nat.le_of_eq rfl) (hb hby dj42_149_45) (fun _ _ => ⟨rfl, rfl, (by decide : 2 + 0 ≤ 2), (by decide : 6 + 0 ≤ 6)⟩)
  dsimp only [Pt.U, Pt.locs, Pt.cells, Pt.slots] at X7 l7 y7 z7 st7 hQ7
  subst l7 y7 z7
  obtain ⟨rfl, N7q, eh7⟩ := hQ7
  have N7 := Fr.app N5 N7q
  refine Goes.st st7 ?_
  show Gs p e below _ T7 m 48 #[rv a, rv aC, iv (0 : Int32), iv (2 : Int32), .val .null, rv b5] [(.int (1 : Int32)), (.ref a)]
  have f9 := (Fc.keep K5 nin0)
  have f10 := (Ea.keep K5)
  obtain ⟨T8, h8, X8, e8, W8, st8⟩ := putFN X7 hx hZ hown (hwk hw 30 rfl) Via.refl eh7 f9 f10 (Or.inr ⟨(hwk hw 31 rfl), rfl, hnm⟩) (hwk hw 5 rfl) (ty := .byte) (v' := (.int (1 : Int32))) (by decide) rfl (by decide) (g := (mkF m 48 #[rv a, rv aC, iv (0 : Int32), iv (2 : Int32), .val .null, rv b5] [(.int (1 : Int32)), (.ref a)])) rfl rfl (hb hby dj42_149_48)
  have N8 := Fr.snoc X8 N7 ga
  have G8 := f9.same W8
  refine Goes.st st8 ?_
  have KK11 := KK6.wr W8 (Or.inl (List.mem_of_getElem? (i := 0) rfl))
  have Z8 : n0 ≤ h8.size := by have := W8.size; have := Z5; omega
  show Gs p e below _ T8 m 51 #[rv a, rv aC, iv (0 : Int32), iv (2 : Int32), .val .null, rv b5] []
  refine galoadN X8 hx (hb hby dj42_149_51) rfl rfl ?_
  refine gaload X8 hx (hb hby dj42_149_52) rfl rfl ?_
  have f13 := ((Fv.keep K5 nin0).other W8 (Or.inr (slot_ne (Or.inr (hwk hw 33 rfl)) (Or.inr (hwk hw 31 rfl)) (by decide) (t := (.array .byte)) (t' := .byte) (by decide) (by decide))))
  have f14 := (f10.wr W8)
  obtain ⟨T12, h12, X12, e12, W12, st12⟩ := putF X8 hx hZ hown (host := "") (Or.inl (hwk hw 32 rfl)) Via.refl e8 f13 f14 (Or.inr ⟨(hwk hw 33 rfl), rfl, hnm⟩) (hwk hw 5 rfl) (ty := (.array .byte)) (by decide) rfl rfl (g := (mkF m 54 #[rv a, rv aC, iv (0 : Int32), iv (2 : Int32), .val .null, rv b5] [(.ref b5), (.ref a)])) rfl rfl (hb hby dj42_149_54)
  have N12 := Fr.snoc X12 N8 ga
  have G12 := f13.same W12
  refine Goes.st st12 ?_
  have KK15 := KK11.wr W12 (Or.inl (List.mem_of_getElem? (i := 0) rfl))
  have Z12 : n0 ≤ h12.size := by have := W12.size; have := Z8; omega
  show Gs p e below _ T12 m 57 #[rv a, rv aC, iv (0 : Int32), iv (2 : Int32), .val .null, rv b5] []
  refine Goes.retV X12 hx hret (hb hby dj42_149_57) (lvN X12 hlk (fun _ => rfl) ?_ (by decide) (by decide))
  rw [e12]
  exact ⟨rfl, N12, KK15⟩
theorem ef_Ic20 (m : MethodId) (x0 : Addr) (x1 : Addr) : entryFrame m #[(.ref x0), (.ref x1)] 2 = mkF m 0 #[rv x0, rv x1] [] := by first | (simp [entryFrame, mkF, argsToLocals, Value.category]; done) | rfl
def QIc20 (Z : State) (a : Addr) (cs : Int32) (aC : Addr) (kC : ClassId) (c0 c1 : Int32) (h0 : Heap) (n0 : Nat) (v : Option Value) (h : Heap) (L : List Loc) : Prop := v = none ∧ Fr n0 L ∧ Keep h0 h [a]
set_option maxRecDepth 65536 in
set_option maxHeartbeats 40000000 in
theorem rmIc20 (l : Launch) (Z : State) (a0 : Array Value) (hw : ∀ d ∈ tables_1, d.before a0 Z = true) (ws : List Jvm.Cond) (a : Addr) (cs : Int32) (aC : Addr) (kC : ClassId) (c0 c1 : Int32) (h0 : Heap) (n0 : Nat) (Z0 : n0 ≤ h0.size) (Scs : Sta Z h0 "java/lang/String" "COMPACT_STRINGS" "Z" (.int cs)) (hcs : ¬ cs = (0 : Int32)) (Sd : Sta Z h0 "java/lang/StringUTF16" "$assertionsDisabled" "Z" (.int (1 : Int32))) (Sh : Sta Z h0 "java/lang/StringUTF16" "HI_BYTE_SHIFT" "I" (.int (0 : Int32))) (Sl : Sta Z h0 "java/lang/StringUTF16" "LO_BYTE_SHIFT" "I" (.int (8 : Int32))) (Ea : Exa Z h0 a "java/lang/String") (ga : n0 ≤ a) (Fv : Fld Z h0 a "java/lang/String" "value" "[B" .null) (Fc : Fld Z h0 a "java/lang/String" "coder" "B" (.int (0 : Int32))) (VC : Arv Z h0 aC kC .char (2 : Int32) [(.int c0), (.int c1)] (.int (0 : Int32))) (naC : a ≠ aC) (hc0 : (255 : Int32) < c0) (hr0 : 0 ≤ c0.toInt ∧ c0.toInt < 65536) :
    MetFree l mN9 (head1 (Jvm.Cond.code mN9 jdk_42_method_3_code 2 none :: ws) ({ frames := 5, cells := 2, slots := 6, locals := 74 } : Room)) (fun aa U => aa = #[(.ref a), (.ref aC)] ∧ Z.Warmed39 U.vm ∧ U.heap = h0) (fun _ _ _ _ _ => True) (fun _ u1_ o_ u2_ => ∃ v_ l_, o_ = .returned v_ ∧ QIc20 Z a cs aC kC c0 c1 h0 n0 v_ u2_.heap l_ ∧ FrameEnd u1_ o_ u2_ l_ ({ frames := 5, cells := 2, slots := 6, locals := 74 } : Room).cells ({ frames := 5, cells := 2, slots := 6, locals := 74 } : Room).slots) := by
  refine MetFree.of_bodySF (plainFor_of_name pn_java_lang_String) hisR ?_
  intro p e s m args below meth c s₁ Bd hml0 hP hK
  obtain ⟨rfl, hZ, hh⟩ := hP
  have hx := Bd.exec
  have hby := Bd.bytes
  have hlk := BodyLoose.notSynchronized Bd
  have hret := Bd.returns
  have hml : c.maxLocals = 2 := hml0
  have hown : s.vm.findClass "java/lang/String" = some m.cls := findClass_of_methodNamed Bd.named
  have hnm := (name_of_methodNamed Bd.named Bd.method).1
  have X0 : Stand p l e ({ frames := 5, cells := 2, slots := 6, locals := 74 } : Room) s m #[(.ref a), (.ref aC)] below meth c s₁ [] 0 0 := Stand.of_body Bd
  have e0 : s₁.heap = h0 := by rw [← hh, Bd.state]; rfl
  have N0 := Fr.nil n0
  refine Goes.st (E := (EN s (QIc20 Z a cs aC kC c0 c1 h0 n0) ({ frames := 5, cells := 2, slots := 6, locals := 74 } : Room).cells ({ frames := 5, cells := 2, slots := 6, locals := 74 } : Room).slots)) (fun tg kg => castTop (ef_Ic20 m a aC) kg) ?_
  have K0 : Keep h0 h0 [a] := Keep.refl _ _
  show Gs p e below _ s₁ m 0 #[rv a, rv aC] []
  refine galoadN X0 hx (hb hby dj42_3_0) rfl rfl ?_
  refine galoadN X0 hx (hb hby dj42_3_1) rfl rfl ?_
  refine giconst X0 hx (hb hby dj42_3_2) ?_
  refine galoadN X0 hx (hb hby dj42_3_3) rfl rfl ?_
  show Gs p e below _ s₁ m 4 #[rv a, rv aC] [(.ref aC), (.int (0 : Int32)), (.ref aC), (.ref a)]
  obtain ⟨cl1, Ar1, qk1, Sz1, qz1, Ha1, Gf1⟩ := id VC
  refine Goes.st (fun tg kg => X0.arraylength hx (cell := cl1) (by rw [e0]; exact Ar1.1) (State.isArrayOf_alike hZ.alike Ar1.2.1) (g := (mkF m 4 #[rv a, rv aC] [(.ref aC), (.int (0 : Int32)), (.ref aC), (.ref a)])) rfl (rest := [(.int (0 : Int32)), (.ref aC), (.ref a)]) rfl (hb hby dj42_3_4) tg kg) ?_
  rw [len_of Sz1 qz1]
  show Gs p e below _ s₁ m 5 #[rv a, rv aC] [(.int (2 : Int32)), (.int (0 : Int32)), (.ref aC), (.ref a)]
  refine Goes.st (fun tg kg => XS.aconstNull X0.here hx rfl (hb hby dj42_3_5) kg) ?_
  obtain ⟨_, _, ⟨T2, L2, k2, n2⟩, -, X2, ⟨Lc2, hQ2, l2, y2, z2⟩, st2⟩ := X0.specialBack hx (y := mN8) rfl hown (mvT hZ (hwk hw 11 rfl)) (mvT hZ (hwk hw 12 rfl)) (mvT hZ (hwk hw 14 rfl)) (by decide) (backOf (W := 0) (rmIv20 l Z a0 hw [] a cs aC kC c0 c1 h0 n0 Z0 Scs hcs Sd Sh Sl Ea ga Fv Fc VC naC hc0 hr0) hZ (hwk hw 14 rfl) (hwk hw 6 rfl) (by decide) (by decide)) (g := (mkF m 6 #[rv a, rv aC] [.null, (.int (2 : Int32)), (.int (0 : Int32)), (.ref aC), (.ref a)])) rfl (by rw [hml]; rfl) (Steps.refl _) (a := a) (argsL := [(.ref aC), (.int (0 : Int32)), (.int (2 : Int32)), .null]) (rest := []) (lenOf pd___CIILjava_lang_Void__V_897f rfl) rfl (by show 2 * 0 + _ ≤ _; exact Nat.le_of_eq rfl) (hb hby dj42_3_6) (fun _ _ => ⟨rfl, e0, (by decide : 0 + 2 ≤ 2), (by decide : 0 + 6 ≤ 6)⟩)
  dsimp only [Pt.U, Pt.locs, Pt.cells, Pt.slots] at X2 l2 y2 z2 st2 hQ2
  subst l2 y2 z2
  obtain ⟨rfl, N2q, K2⟩ := hQ2
  have KK3 := K0.trans K2 (allS (Or.inl (List.mem_of_getElem? (i := 0) rfl)) all0)
  have Z2 : n0 ≤ T2.heap.size := Nat.le_trans Z0 K2.1
  have N2 := Fr.app N0 N2q
  refine Goes.sts st2 ?_
  show Gs p e below _ T2 m 9 #[rv a, rv aC] []
  refine Goes.retV X2 hx hret (hb hby dj42_3_9) (lvN X2 hlk (fun _ => rfl) ?_ (by decide) (by decide))
  exact ⟨rfl, N2, KK3⟩
theorem ef_Cm21 (m : MethodId) (x0 : Addr) (x1 : Int32) (x2 : Addr) (x3 : Int32) (x4 : Int32) : entryFrame m #[(.ref x0), (.int x1), (.ref x2), (.int x3), (.int x4)] 7 = mkF m 0 #[rv x0, iv x1, rv x2, iv x3, iv x4, .unset, .unset] [] := by first | (simp [entryFrame, mkF, argsToLocals, Value.category]; done) | rfl
def QCm21 (Z : State) (aC : Addr) (kC : ClassId) (c0 c1 : Int32) (aB : Addr) (kB : ClassId) (h0 : Heap) (n0 : Nat) (v : Option Value) (h : Heap) (L : List Loc) : Prop := ∃ (vs : List Value), v = some (.int (1 : Int32)) ∧ Fr n0 L ∧ Keep h0 h [aB] ∧ Arv Z h aB kB .byte (2 : Int32) vs (.int (0 : Int32))
set_option maxRecDepth 65536 in
set_option maxHeartbeats 40000000 in
theorem rmCm21 (l : Launch) (Z : State) (a0 : Array Value) (hw : ∀ d ∈ tables_1, d.before a0 Z = true) (ws : List Jvm.Cond) (aC : Addr) (kC : ClassId) (c0 c1 : Int32) (aB : Addr) (kB : ClassId) (h0 : Heap) (n0 : Nat) (Z0 : n0 ≤ h0.size) (VC : Arv Z h0 aC kC .char (2 : Int32) [(.int c0), (.int c1)] (.int (0 : Int32))) (VB : Arv Z h0 aB kB .byte (2 : Int32) [(.int (0 : Int32)), (.int (0 : Int32))] (.int (0 : Int32))) (lB : n0 ≤ aB) (nCB : aC ≠ aB) (hc0 : ¬ (255 : Int32) < c0) (hc1 : (255 : Int32) < c1) (hr1 : 0 ≤ c1.toInt ∧ c1.toInt < 65536) :
    MetFree l mN5 (head1 (Jvm.Cond.code mN5 jdk_52_method_21_code 7 (some .int) :: ws) ({ frames := 0, cells := 0, slots := 0, locals := 0 } : Room)) (fun aa U => aa = #[(.ref aC), (.int (0 : Int32)), (.ref aB), (.int (0 : Int32)), (.int (2 : Int32))] ∧ Z.Warmed39 U.vm ∧ U.heap = h0) (fun _ _ _ _ _ => True) (fun _ u1_ o_ u2_ => ∃ v_ l_, o_ = .returned v_ ∧ QCm21 Z aC kC c0 c1 aB kB h0 n0 v_ u2_.heap l_ ∧ FrameEnd u1_ o_ u2_ l_ ({ frames := 0, cells := 0, slots := 0, locals := 0 } : Room).cells ({ frames := 0, cells := 0, slots := 0, locals := 0 } : Room).slots) := by
  refine MetFree.of_bodySF (plainFor_of_name pn_java_lang_StringUTF16) hisR ?_
  intro p e s m args below meth c s₁ Bd hml0 hP hK
  obtain ⟨rfl, hZ, hh⟩ := hP
  have hx := Bd.exec
  have hby := Bd.bytes
  have hlk := BodyLoose.notSynchronized Bd
  have hret := Bd.returns
  have hml : c.maxLocals = 7 := hml0
  have hown : s.vm.findClass "java/lang/StringUTF16" = some m.cls := findClass_of_methodNamed Bd.named
  have hnm := (name_of_methodNamed Bd.named Bd.method).1
  have X0 : Stand p l e ({ frames := 0, cells := 0, slots := 0, locals := 0 } : Room) s m #[(.ref aC), (.int (0 : Int32)), (.ref aB), (.int (0 : Int32)), (.int (2 : Int32))] below meth c s₁ [] 0 0 := Stand.of_body Bd
  have e0 : s₁.heap = h0 := by rw [← hh, Bd.state]; rfl
  have N0 := Fr.nil n0
  refine Goes.st (E := (EN s (QCm21 Z aC kC c0 c1 aB kB h0 n0) ({ frames := 0, cells := 0, slots := 0, locals := 0 } : Room).cells ({ frames := 0, cells := 0, slots := 0, locals := 0 } : Room).slots)) (fun tg kg => castTop (ef_Cm21 m aC (0 : Int32) aB (0 : Int32) (2 : Int32)) kg) ?_
  have K0 : Keep h0 h0 [aB] := Keep.refl _ _
  show Gs p e below _ s₁ m 0 #[rv aC, iv (0 : Int32), rv aB, iv (0 : Int32), iv (2 : Int32), .unset, .unset] []
  refine giconst X0 hx (hb hby dj52_21_0) ?_
  refine gistore X0 hx (hb hby dj52_21_1) trivial (l' := #[rv aC, iv (0 : Int32), rv aB, iv (0 : Int32), iv (2 : Int32), iv (0 : Int32), .unset]) rfl ?_
  refine giload X0 hx (hb hby dj52_21_3) rfl ?_
  refine giload X0 hx (hb hby dj52_21_5) rfl ?_
  show Gs p e below _ s₁ m 7 #[rv aC, iv (0 : Int32), rv aB, iv (0 : Int32), iv (2 : Int32), iv (0 : Int32), .unset] [(.int (2 : Int32)), (.int (0 : Int32))]
  refine gicmpNo X0 hx (hb hby dj52_21_7) (by decide) ?_
  show Gs p e below _ s₁ m 10 #[rv aC, iv (0 : Int32), rv aB, iv (0 : Int32), iv (2 : Int32), iv (0 : Int32), .unset] []
  refine galoadN X0 hx (hb hby dj52_21_10) rfl rfl ?_
  refine giloadN X0 hx (hb hby dj52_21_11) rfl ?_
  show Gs p e below _ s₁ m 12 #[rv aC, iv (0 : Int32), rv aB, iv (0 : Int32), iv (2 : Int32), iv (0 : Int32), .unset] [(.int (0 : Int32)), (.ref aC)]
  obtain ⟨cl1, Ar1, qk1, Sz1, qz1, Ha1, Gf1⟩ := id VC
  have in1 := inb_of (j := (0 : Int32)) Sz1 ⟨by decide, by decide⟩
  refine Goes.st (fun tg kg => X0.caload hx (j := (0 : Int32)) (v := (.int c0)) (by rw [e0]; exact Ar1.1) (State.isArrayOf_alike hZ.alike Ar1.2.1) Ar1.2.2 in1 (Ha1.at in1 rfl) (g := (mkF m 12 #[rv aC, iv (0 : Int32), rv aB, iv (0 : Int32), iv (2 : Int32), iv (0 : Int32), .unset] [(.int (0 : Int32)), (.ref aC)])) rfl rfl (hb hby dj52_21_12) tg kg) ?_
  show Gs p e below _ s₁ m 13 #[rv aC, iv (0 : Int32), rv aB, iv (0 : Int32), iv (2 : Int32), iv (0 : Int32), .unset] [(.int c0)]
  refine gistore X0 hx (hb hby dj52_21_13) trivial (l' := #[rv aC, iv (0 : Int32), rv aB, iv (0 : Int32), iv (2 : Int32), iv (0 : Int32), iv c0]) rfl ?_
  refine giload X0 hx (hb hby dj52_21_15) rfl ?_
  refine Goes.st (fun tg kg => XS.sipush X0.here hx rfl (hb hby dj52_21_17) kg) ?_
  show Gs p e below _ s₁ m 20 #[rv aC, iv (0 : Int32), rv aB, iv (0 : Int32), iv (2 : Int32), iv (0 : Int32), iv c0] [(.int (255 : Int32)), (.int c0)]
  refine gicmpYes X0 hx (pc' := 26) (hb hby dj52_21_20) (flt hc0).2.2.2 (by decide) (by decide) ?_
  show Gs p e below _ s₁ m 26 #[rv aC, iv (0 : Int32), rv aB, iv (0 : Int32), iv (2 : Int32), iv (0 : Int32), iv c0] []
  refine galoadN X0 hx (hb hby dj52_21_26) rfl rfl ?_
  refine giloadN X0 hx (hb hby dj52_21_27) rfl ?_
  refine giload X0 hx (hb hby dj52_21_28) rfl ?_
  show Gs p e below _ s₁ m 30 #[rv aC, iv (0 : Int32), rv aB, iv (0 : Int32), iv (2 : Int32), iv (0 : Int32), iv c0] [(.int c0), (.int (0 : Int32)), (.ref aB)]
  refine Goes.st (fun tg kg => XT.i2b X0.here hx rfl (hb hby dj52_21_30) rfl kg) ?_
  show Gs p e below _ s₁ m 31 #[rv aC, iv (0 : Int32), rv aB, iv (0 : Int32), iv (2 : Int32), iv (0 : Int32), iv c0] [(.int (c0).toInt8.toInt32), (.int (0 : Int32)), (.ref aB)]
  obtain ⟨cl2, Ar2, qk2, Sz2, qz2, Ha2, Gf2⟩ := id VB
  obtain ⟨T2, h2, X2, e2, W2, st2⟩ := stB X0 hx hZ e0 Ar2 (inb_of Sz2 ⟨by decide, by decide⟩) (g := (mkF m 31 #[rv aC, iv (0 : Int32), rv aB, iv (0 : Int32), iv (2 : Int32), iv (0 : Int32), iv c0] [(.int (c0).toInt8.toInt32), (.int (0 : Int32)), (.ref aB)])) rfl rfl (hb hby dj52_21_31)
  have N2 := Fr.snoc X2 N0 lB
  have V2 : Arv Z h2 aB kB .byte (2 : Int32) [(.int (nar .byte (c0).toInt8.toInt32)), (.int (0 : Int32))] (.int (0 : Int32)) := Arv.set Ar2 qk2 Sz2 qz2 Ha2 Gf2 (fits_nar_byte _) W2 0 (by decide) (by simp)
  refine Goes.st st2 ?_
  have KK3 := K0.wr W2 (Or.inl (List.mem_of_getElem? (i := 0) rfl))
  have Z2 : n0 ≤ h2.size := by have := W2.size; have := Z0; omega
  show Gs p e below _ T2 m 32 #[rv aC, iv (0 : Int32), rv aB, iv (0 : Int32), iv (2 : Int32), iv (0 : Int32), iv c0] []
  refine Goes.st (fun tg kg => XS.iinc X2.here hx rfl (hb hby dj52_21_32) rfl (l' := #[rv aC, iv (1 : Int32), rv aB, iv (0 : Int32), iv (2 : Int32), iv (0 : Int32), iv c0]) rfl kg) ?_
  refine Goes.st (fun tg kg => XS.iinc X2.here hx rfl (hb hby dj52_21_35) rfl (l' := #[rv aC, iv (1 : Int32), rv aB, iv (1 : Int32), iv (2 : Int32), iv (0 : Int32), iv c0]) rfl kg) ?_
  refine Goes.st (fun tg kg => XS.iinc X2.here hx rfl (hb hby dj52_21_38) rfl (l' := #[rv aC, iv (1 : Int32), rv aB, iv (1 : Int32), iv (2 : Int32), iv (1 : Int32), iv c0]) rfl kg) ?_
  show Gs p e below _ T2 m 41 #[rv aC, iv (1 : Int32), rv aB, iv (1 : Int32), iv (2 : Int32), iv (1 : Int32), iv c0] []
  refine ggoto X2 hx (pc' := 3) (hb hby dj52_21_41) (by decide) (by decide) ?_
  show Gs p e below _ T2 m 3 #[rv aC, iv (1 : Int32), rv aB, iv (1 : Int32), iv (2 : Int32), iv (1 : Int32), iv c0] []
  refine giload X2 hx (hb hby dj52_21_3) rfl ?_
  refine giload X2 hx (hb hby dj52_21_5) rfl ?_
  show Gs p e below _ T2 m 7 #[rv aC, iv (1 : Int32), rv aB, iv (1 : Int32), iv (2 : Int32), iv (1 : Int32), iv c0] [(.int (2 : Int32)), (.int (1 : Int32))]
  refine gicmpNo X2 hx (hb hby dj52_21_7) (by decide) ?_
  show Gs p e below _ T2 m 10 #[rv aC, iv (1 : Int32), rv aB, iv (1 : Int32), iv (2 : Int32), iv (1 : Int32), iv c0] []
  refine galoadN X2 hx (hb hby dj52_21_10) rfl rfl ?_
  refine giloadN X2 hx (hb hby dj52_21_11) rfl ?_
  show Gs p e below _ T2 m 12 #[rv aC, iv (1 : Int32), rv aB, iv (1 : Int32), iv (2 : Int32), iv (1 : Int32), iv c0] [(.int (1 : Int32)), (.ref aC)]
  have f4 := (VC.other W2 nCB)
  obtain ⟨cl5, Ar5, qk5, Sz5, qz5, Ha5, Gf5⟩ := id f4
  have in5 := inb_of (j := (1 : Int32)) Sz5 ⟨by decide, by decide⟩
  refine Goes.st (fun tg kg => X2.caload hx (j := (1 : Int32)) (v := (.int c1)) (by rw [e2]; exact Ar5.1) (State.isArrayOf_alike hZ.alike Ar5.2.1) Ar5.2.2 in5 (Ha5.at in5 rfl) (g := (mkF m 12 #[rv aC, iv (1 : Int32), rv aB, iv (1 : Int32), iv (2 : Int32), iv (1 : Int32), iv c0] [(.int (1 : Int32)), (.ref aC)])) rfl rfl (hb hby dj52_21_12) tg kg) ?_
  show Gs p e below _ T2 m 13 #[rv aC, iv (1 : Int32), rv aB, iv (1 : Int32), iv (2 : Int32), iv (1 : Int32), iv c0] [(.int c1)]
  refine gistore X2 hx (hb hby dj52_21_13) trivial (l' := #[rv aC, iv (1 : Int32), rv aB, iv (1 : Int32), iv (2 : Int32), iv (1 : Int32), iv c1]) rfl ?_
  refine giload X2 hx (hb hby dj52_21_15) rfl ?_
  refine Goes.st (fun tg kg => XS.sipush X2.here hx rfl (hb hby dj52_21_17) kg) ?_
  show Gs p e below _ T2 m 20 #[rv aC, iv (1 : Int32), rv aB, iv (1 : Int32), iv (2 : Int32), iv (1 : Int32), iv c1] [(.int (255 : Int32)), (.int c1)]
  refine gicmpNo X2 hx (hb hby dj52_21_20) (tlt hc1).2.2.2 ?_
  show Gs p e below _ T2 m 23 #[rv aC, iv (1 : Int32), rv aB, iv (1 : Int32), iv (2 : Int32), iv (1 : Int32), iv c1] []
  refine giload X2 hx (hb hby dj52_21_23) rfl ?_
  show Gs p e below _ T2 m 25 #[rv aC, iv (1 : Int32), rv aB, iv (1 : Int32), iv (2 : Int32), iv (1 : Int32), iv c1] [(.int (1 : Int32))]
  refine Goes.retI X2 hx hret (hb hby dj52_21_25) (lvN X2 hlk (vsome hret) ?_ (by decide) (by decide))
  rw [e2]
  exact ⟨_, rfl, N2, KK3, V2⟩
theorem ef_Cx21 (m : MethodId) (x0 : Addr) (x1 : Int32) (x2 : Int32) : entryFrame m #[(.ref x0), (.int x1), (.int x2)] 6 = mkF m 0 #[rv x0, iv x1, iv x2, .unset, .unset, .unset] [] := by first | (simp [entryFrame, mkF, argsToLocals, Value.category]; done) | rfl
def QCx21 (Z : State) (aC : Addr) (kC : ClassId) (c0 c1 : Int32) (h0 : Heap) (n0 : Nat) (v : Option Value) (h : Heap) (L : List Loc) : Prop := ∃ (b : Addr) (kB : ClassId) (vs : List Value), v = some (.ref b) ∧ Fr n0 L ∧ Keep h0 h [] ∧ h0.size ≤ b ∧ n0 ≤ b ∧ Arv Z h b kB .byte (4 : Int32) vs (.int (0 : Int32))
set_option maxRecDepth 65536 in
set_option maxHeartbeats 40000000 in
theorem rmCx21 (l : Launch) (Z : State) (a0 : Array Value) (hw : ∀ d ∈ tables_1, d.before a0 Z = true) (ws : List Jvm.Cond) (aC : Addr) (kC : ClassId) (c0 c1 : Int32) (h0 : Heap) (n0 : Nat) (Z0 : n0 ≤ h0.size) (Sd : Sta Z h0 "java/lang/StringUTF16" "$assertionsDisabled" "Z" (.int (1 : Int32))) (Sh : Sta Z h0 "java/lang/StringUTF16" "HI_BYTE_SHIFT" "I" (.int (0 : Int32))) (Sl : Sta Z h0 "java/lang/StringUTF16" "LO_BYTE_SHIFT" "I" (.int (8 : Int32))) (VC : Arv Z h0 aC kC .char (2 : Int32) [(.int c0), (.int c1)] (.int (0 : Int32))) (hc0 : ¬ (255 : Int32) < c0) (hc1 : (255 : Int32) < c1) (hr1 : 0 ≤ c1.toInt ∧ c1.toInt < 65536) :
    MetFree l mN6 (head1 (Jvm.Cond.code mN6 jdk_52_method_16_code 6 (some (.array .byte)) :: ws) ({ frames := 3, cells := 2, slots := 6, locals := 40 } : Room)) (fun aa U => aa = #[(.ref aC), (.int (0 : Int32)), (.int (2 : Int32))] ∧ Z.Warmed39 U.vm ∧ U.heap = h0) (fun _ _ _ _ _ => True) (fun _ u1_ o_ u2_ => ∃ v_ l_, o_ = .returned v_ ∧ QCx21 Z aC kC c0 c1 h0 n0 v_ u2_.heap l_ ∧ FrameEnd u1_ o_ u2_ l_ ({ frames := 3, cells := 2, slots := 6, locals := 40 } : Room).cells ({ frames := 3, cells := 2, slots := 6, locals := 40 } : Room).slots) := by
  refine MetFree.of_bodySF (plainFor_of_name pn_java_lang_StringUTF16) hisR ?_
  intro p e s m args below meth c s₁ Bd hml0 hP hK
  obtain ⟨rfl, hZ, hh⟩ := hP
  have hx := Bd.exec
  have hby := Bd.bytes
  have hlk := BodyLoose.notSynchronized Bd
  have hret := Bd.returns
  have hml : c.maxLocals = 6 := hml0
  have hown : s.vm.findClass "java/lang/StringUTF16" = some m.cls := findClass_of_methodNamed Bd.named
  have hnm := (name_of_methodNamed Bd.named Bd.method).1
  have X0 : Stand p l e ({ frames := 3, cells := 2, slots := 6, locals := 40 } : Room) s m #[(.ref aC), (.int (0 : Int32)), (.int (2 : Int32))] below meth c s₁ [] 0 0 := Stand.of_body Bd
  have e0 : s₁.heap = h0 := by rw [← hh, Bd.state]; rfl
  have N0 := Fr.nil n0
  refine Goes.st (E := (EN s (QCx21 Z aC kC c0 c1 h0 n0) ({ frames := 3, cells := 2, slots := 6, locals := 40 } : Room).cells ({ frames := 3, cells := 2, slots := 6, locals := 40 } : Room).slots)) (fun tg kg => castTop (ef_Cx21 m aC (0 : Int32) (2 : Int32)) kg) ?_
  have K0 : Keep h0 h0 [] := Keep.refl _ _
  show Gs p e below _ s₁ m 0 #[rv aC, iv (0 : Int32), iv (2 : Int32), .unset, .unset, .unset] []
  refine giloadN X0 hx (hb hby dj52_16_0) rfl ?_
  obtain ⟨T1, h1, cA1, X1, e1, E1, A1, st1⟩ := newP X0 hx hZ (hwk hw 23 rfl) e0 (g := (mkF m 1 #[rv aC, iv (0 : Int32), iv (2 : Int32), .unset, .unset, .unset] [(.int (2 : Int32))])) rfl (hb hby dj52_16_1) rfl (by decide) (cap := 2) (by decide) (by decide) (by decide) (by decide)
  obtain ⟨b1, g1⟩ : ∃ z, z = h0.size := ⟨_, rfl⟩
  rw [← g1] at A1 st1
  have ne_aC_b1 : aC ≠ b1 := Nat.ne_of_lt (Nat.lt_of_lt_of_le VC.lt (Nat.le_of_eq g1.symm))
  have lo_b1 : n0 ≤ b1 := by have := Z0; omega
  have sz_b1 : h0.size ≤ b1 := by have := K0.1; omega
  have KK2 := K0.ext E1
  have V1 : Arv Z h1 b1 cA1 .byte (2 : Int32) [(.int (0 : Int32)), (.int (0 : Int32))] (.int (0 : Int32)) := (Arv.new A1 (by decide)).pad (pad_rep [] _ 2)
  refine Goes.st st1 ?_
  have Z1 : n0 ≤ h1.size := Nat.le_trans Z0 E1.1
  show Gs p e below _ T1 m 3 #[rv aC, iv (0 : Int32), iv (2 : Int32), .unset, .unset, .unset] [(.ref b1)]
  refine gastoreN X1 hx (hb hby dj52_16_3) trivial rfl (l' := #[rv aC, iv (0 : Int32), iv (2 : Int32), rv b1, .unset, .unset]) rfl ?_
  refine galoadN X1 hx (hb hby dj52_16_4) rfl rfl ?_
  refine giloadN X1 hx (hb hby dj52_16_5) rfl ?_
  refine galoadN X1 hx (hb hby dj52_16_6) rfl rfl ?_
  refine giconst X1 hx (hb hby dj52_16_7) ?_
  show Gs p e below _ T1 m 8 #[rv aC, iv (0 : Int32), iv (2 : Int32), rv b1, .unset, .unset] [(.int (0 : Int32)), (.ref b1), (.int (0 : Int32)), (.ref aC)]
  refine giloadN X1 hx (hb hby dj52_16_8) rfl ?_
  have f3 := (VC.ext E1)
  obtain ⟨_, _, ⟨T4, L4, k4, n4⟩, -, X4, ⟨Lc4, hQ4, l4, y4, z4⟩, st4⟩ := Jvm.LawKit.callS X1 hx (y := mN5) hown (mvT hZ (hwk hw 24 rfl)) (mvT hZ (hwk hw 25 rfl)) (mvT hZ (hwk hw 21 rfl)) (mvT hZ (hwk hw 26 rfl)) (by decide) (backOf (W := 0) (rmCm21 l Z a0 hw [] aC kC c0 c1 b1 cA1 h1 n0 Z1 f3 V1 lo_b1 ne_aC_b1 hc0 hc1 hr1) hZ (hwk hw 26 rfl) (hwk hw 21 rfl) (by decide) (by decide)) (g := (mkF m 9 #[rv aC, iv (0 : Int32), iv (2 : Int32), rv b1, .unset, .unset] [(.int (2 : Int32)), (.int (0 : Int32)), (.ref b1), (.int (0 : Int32)), (.ref aC)])) rfl (by rw [hml]; rfl) (argsL := [(.ref aC), (.int (0 : Int32)), (.ref b1), (.int (0 : Int32)), (.int (2 : Int32))]) (rest := []) (lenOf pd___CI_BII_I_1ed0 rfl) rfl (by show 2 * 0 + _ ≤ _; exact Nat.le_of_eq rfl) (hb hby dj52_16_9) (fun _ _ => ⟨rfl, e1, (by decide : 1 + 0 ≤ 2), (by decide : 2 + 0 ≤ 6)⟩)
  dsimp only [Pt.U, Pt.locs, Pt.cells, Pt.slots] at X4 l4 y4 z4 st4 hQ4
  subst l4 y4 z4
  obtain ⟨vs4, rfl, N4q, K4, V4⟩ := hQ4
  have KK5 := KK2.trans K4 (allS (Or.inr sz_b1) all0)
  have Z4 : n0 ≤ T4.heap.size := Nat.le_trans Z1 K4.1
  have N4 := Fr.app N0 N4q
  refine Goes.st st4 ?_
  show Gs p e below _ T4 m 12 #[rv aC, iv (0 : Int32), iv (2 : Int32), rv b1, .unset, .unset] [(.int (1 : Int32))]
  refine gistore X4 hx (hb hby dj52_16_12) trivial (l' := #[rv aC, iv (0 : Int32), iv (2 : Int32), rv b1, iv (1 : Int32), .unset]) rfl ?_
  refine giload X4 hx (hb hby dj52_16_14) rfl ?_
  refine giloadN X4 hx (hb hby dj52_16_16) rfl ?_
  show Gs p e below _ T4 m 17 #[rv aC, iv (0 : Int32), iv (2 : Int32), rv b1, iv (1 : Int32), .unset] [(.int (2 : Int32)), (.int (1 : Int32))]
  refine gicmpNo X4 hx (hb hby dj52_16_17) (by decide) ?_
  show Gs p e below _ T4 m 20 #[rv aC, iv (0 : Int32), iv (2 : Int32), rv b1, iv (1 : Int32), .unset] []
  refine galoadN X4 hx (hb hby dj52_16_20) rfl rfl ?_
  refine giloadN X4 hx (hb hby dj52_16_21) rfl ?_
  refine giloadN X4 hx (hb hby dj52_16_22) rfl ?_
  have f6 := (f3.keep K4 (ninS ne_aC_b1 nin0))
  have f7 := ((Sd.ext E1).kept K4 (nsS (Arv.nostat V1) ns0))
  have f8 := ((Sh.ext E1).kept K4 (nsS (Arv.nostat V1) ns0))
  have f9 := ((Sl.ext E1).kept K4 (nsS (Arv.nostat V1) ns0))
  have lt10 : aC < T4.heap.size := f6.lt
  have lt11 : b1 < T4.heap.size := V4.lt
  obtain ⟨_, _, ⟨T12, L12, k12, n12⟩, -, X12, ⟨Lc12, hQ12, l12, y12, z12⟩, st12⟩ := Jvm.LawKit.callS X4 hx (y := mN4) hown (mvT hZ (hwk hw 75 rfl)) (mvT hZ (hwk hw 76 rfl)) (mvT hZ (hwk hw 21 rfl)) (mvT hZ (hwk hw 77 rfl)) (by decide) (backOf (W := 0) (rmBy2 l Z a0 hw [] aC kC c0 c1 T4.heap n0 Z4 f7 f8 f9 f6) hZ (hwk hw 77 rfl) (hwk hw 21 rfl) (by decide) (by decide)) (g := (mkF m 23 #[rv aC, iv (0 : Int32), iv (2 : Int32), rv b1, iv (1 : Int32), .unset] [(.int (2 : Int32)), (.int (0 : Int32)), (.ref aC)])) rfl (by rw [hml]; rfl) (argsL := [(.ref aC), (.int (0 : Int32)), (.int (2 : Int32))]) (rest := []) (lenOf pd___CII__B_166f rfl) rfl (by show 2 * 0 + _ ≤ _; exact Nat.le_of_eq rfl) (hb hby dj52_16_23) (fun _ _ => ⟨rfl, rfl, (by decide : 1 + 1 ≤ 2), (by decide : 2 + 4 ≤ 6)⟩)
  dsimp only [Pt.U, Pt.locs, Pt.cells, Pt.slots] at X12 l12 y12 z12 st12 hQ12
  subst l12 y12 z12
  obtain ⟨b12, kB12, rfl, N12q, K12, szq12, loq12, V12⟩ := hQ12
  have KK13 := KK5.trans K12 all0
  have ne_aC_b12 : aC ≠ b12 := Nat.ne_of_lt (Nat.lt_of_lt_of_le lt10 szq12)
  have ne_b1_b12 : b1 ≠ b12 := Nat.ne_of_lt (Nat.lt_of_lt_of_le lt11 szq12)
  have sz_b12 : h0.size ≤ b12 := by have := KK13.1; have := szq12; omega
  have Z12 : n0 ≤ T12.heap.size := Nat.le_trans Z4 K12.1
  have N12 := Fr.app N4 N12q
  refine Goes.st st12 ?_
  show Gs p e below _ T12 m 26 #[rv aC, iv (0 : Int32), iv (2 : Int32), rv b1, iv (1 : Int32), .unset] [(.ref b12)]
  refine gastore X12 hx (hb hby dj52_16_26) trivial rfl (l' := #[rv aC, iv (0 : Int32), iv (2 : Int32), rv b1, iv (1 : Int32), rv b12]) rfl ?_
  refine gaload X12 hx (hb hby dj52_16_28) rfl rfl ?_
  refine giload X12 hx (hb hby dj52_16_30) rfl ?_
  have f14 := (f7.kept K12 ns0)
  have f15 := (f8.kept K12 ns0)
  have f16 := (f9.kept K12 ns0)
  obtain ⟨_, _, ⟨T17, L17, k17, n17⟩, -, X17, ⟨Lc17, hQ17, l17, y17, z17⟩, st17⟩ := Jvm.LawKit.callS X12 hx (y := mN3) hown (mvT hZ (hwk hw 91 rfl)) (mvT hZ (hwk hw 92 rfl)) (mvT hZ (hwk hw 21 rfl)) (mvT hZ (hwk hw 93 rfl)) (by decide) (backOf (W := 0) (rmGc21 l Z a0 hw [] b12 kB12 (nar .byte (c0 >>> ((0 : Int32) &&& 31)).toInt8.toInt32) (nar .byte (c0 >>> ((8 : Int32) &&& 31)).toInt8.toInt32) (nar .byte (c1 >>> ((0 : Int32) &&& 31)).toInt8.toInt32) (nar .byte (c1 >>> ((8 : Int32) &&& 31)).toInt8.toInt32) T12.heap n0 Z12 f14 f15 f16 V12) hZ (hwk hw 93 rfl) (hwk hw 21 rfl) (by decide) (by decide)) (g := (mkF m 32 #[rv aC, iv (0 : Int32), iv (2 : Int32), rv b1, iv (1 : Int32), rv b12] [(.int (1 : Int32)), (.ref b12)])) rfl (by rw [hml]; rfl) (argsL := [(.ref b12), (.int (1 : Int32))]) (rest := []) (lenOf pd___BI_C_e03 rfl) rfl (by show 2 * 0 + _ ≤ _; exact Nat.le_of_eq rfl) (hb hby dj52_16_32) (fun _ _ => ⟨rfl, rfl, (by decide : 2 + 0 ≤ 2), (by decide : 6 + 0 ≤ 6)⟩)
  dsimp only [Pt.U, Pt.locs, Pt.cells, Pt.slots] at X17 l17 y17 z17 st17 hQ17
  subst l17 y17 z17
  obtain ⟨rfl, N17q, eh17⟩ := hQ17
  rw [own_gc hr1] at st17
  have N17 := Fr.app N12 N17q
  refine Goes.st st17 ?_
  show Gs p e below _ T17 m 35 #[rv aC, iv (0 : Int32), iv (2 : Int32), rv b1, iv (1 : Int32), rv b12] [(.int c1)]
  refine Goes.st (fun tg kg => XS.sipush X17.here hx rfl (hb hby dj52_16_35) kg) ?_
  show Gs p e below _ T17 m 38 #[rv aC, iv (0 : Int32), iv (2 : Int32), rv b1, iv (1 : Int32), rv b12] [(.int (255 : Int32)), (.int c1)]
  refine gicmpYes X17 hx (pc' := 54) (hb hby dj52_16_38) (tlt hc1).2.2.1 (by decide) (by decide) ?_
  show Gs p e below _ T17 m 54 #[rv aC, iv (0 : Int32), iv (2 : Int32), rv b1, iv (1 : Int32), rv b12] []
  refine gaload X17 hx (hb hby dj52_16_54) rfl rfl ?_
  show Gs p e below _ T17 m 56 #[rv aC, iv (0 : Int32), iv (2 : Int32), rv b1, iv (1 : Int32), rv b12] [(.ref b12)]
  refine Goes.retA X17 hx hret rfl rfl rfl (hb hby dj52_16_56) (lvN X17 hlk (vsome hret) ?_ (by decide) (by decide))
  rw [eh17]
  exact ⟨b12, kB12, _, rfl, N17, KK13, sz_b12, loq12, V12⟩
theorem ef_Iv21 (m : MethodId) (x0 : Addr) (x1 : Addr) (x2 : Int32) (x3 : Int32) : entryFrame m #[(.ref x0), (.ref x1), (.int x2), (.int x3), .null] 6 = mkF m 0 #[rv x0, rv x1, iv x2, iv x3, .val .null, .unset] [] := by first | (simp [entryFrame, mkF, argsToLocals, Value.category]; done) | rfl
def QIv21 (Z : State) (a : Addr) (cs : Int32) (aC : Addr) (kC : ClassId) (c0 c1 : Int32) (h0 : Heap) (n0 : Nat) (v : Option Value) (h : Heap) (L : List Loc) : Prop := v = none ∧ Fr n0 L ∧ Keep h0 h [a]
set_option maxRecDepth 65536 in
set_option maxHeartbeats 40000000 in
theorem rmIv21 (l : Launch) (Z : State) (a0 : Array Value) (hw : ∀ d ∈ tables_1, d.before a0 Z = true) (ws : List Jvm.Cond) (a : Addr) (cs : Int32) (aC : Addr) (kC : ClassId) (c0 c1 : Int32) (h0 : Heap) (n0 : Nat) (Z0 : n0 ≤ h0.size) (Scs : Sta Z h0 "java/lang/String" "COMPACT_STRINGS" "Z" (.int cs)) (hcs : ¬ cs = (0 : Int32)) (Sd : Sta Z h0 "java/lang/StringUTF16" "$assertionsDisabled" "Z" (.int (1 : Int32))) (Sh : Sta Z h0 "java/lang/StringUTF16" "HI_BYTE_SHIFT" "I" (.int (0 : Int32))) (Sl : Sta Z h0 "java/lang/StringUTF16" "LO_BYTE_SHIFT" "I" (.int (8 : Int32))) (Ea : Exa Z h0 a "java/lang/String") (ga : n0 ≤ a) (Fv : Fld Z h0 a "java/lang/String" "value" "[B" .null) (Fc : Fld Z h0 a "java/lang/String" "coder" "B" (.int (0 : Int32))) (VC : Arv Z h0 aC kC .char (2 : Int32) [(.int c0), (.int c1)] (.int (0 : Int32))) (naC : a ≠ aC) (hc0 : ¬ (255 : Int32) < c0) (hc1 : (255 : Int32) < c1) (hr1 : 0 ≤ c1.toInt ∧ c1.toInt < 65536) :
    MetFree l mN8 (head1 (Jvm.Cond.code mN8 jdk_42_method_149_code 6 none :: ws) ({ frames := 4, cells := 2, slots := 6, locals := 57 } : Room)) (fun aa U => aa = #[(.ref a), (.ref aC), (.int (0 : Int32)), (.int (2 : Int32)), .null] ∧ Z.Warmed39 U.vm ∧ U.heap = h0) (fun _ _ _ _ _ => True) (fun _ u1_ o_ u2_ => ∃ v_ l_, o_ = .returned v_ ∧ QIv21 Z a cs aC kC c0 c1 h0 n0 v_ u2_.heap l_ ∧ FrameEnd u1_ o_ u2_ l_ ({ frames := 4, cells := 2, slots := 6, locals := 57 } : Room).cells ({ frames := 4, cells := 2, slots := 6, locals := 57 } : Room).slots) := by
  refine MetFree.of_bodySF (plainFor_of_name pn_java_lang_String) hisR ?_
  intro p e s m args below meth c s₁ Bd hml0 hP hK
  obtain ⟨rfl, hZ, hh⟩ := hP
  have hx := Bd.exec
  have hby := Bd.bytes
  have hlk := BodyLoose.notSynchronized Bd
  have hret := Bd.returns
  have hml : c.maxLocals = 6 := hml0
  have hown : s.vm.findClass "java/lang/String" = some m.cls := findClass_of_methodNamed Bd.named
  have hnm := (name_of_methodNamed Bd.named Bd.method).1
  have X0 : Stand p l e ({ frames := 4, cells := 2, slots := 6, locals := 57 } : Room) s m #[(.ref a), (.ref aC), (.int (0 : Int32)), (.int (2 : Int32)), .null] below meth c s₁ [] 0 0 := Stand.of_body Bd
  have e0 : s₁.heap = h0 := by rw [← hh, Bd.state]; rfl
  have N0 := Fr.nil n0
  refine Goes.st (E := (EN s (QIv21 Z a cs aC kC c0 c1 h0 n0) ({ frames := 4, cells := 2, slots := 6, locals := 57 } : Room).cells ({ frames := 4, cells := 2, slots := 6, locals := 57 } : Room).slots)) (fun tg kg => castTop (ef_Iv21 m a aC (0 : Int32) (2 : Int32)) kg) ?_
  have K0 : Keep h0 h0 [a] := Keep.refl _ _
  show Gs p e below _ s₁ m 0 #[rv a, rv aC, iv (0 : Int32), iv (2 : Int32), .val .null, .unset] []
  refine galoadN X0 hx (hb hby dj42_149_0) rfl rfl ?_
  obtain ⟨T1, X1, e1, st1⟩ := initO X0 hx hZ hown (hwk hw 15 rfl) (hwk hw 16 rfl) (hwk hw 17 rfl) e0 (g := (mkF m 1 #[rv a, rv aC, iv (0 : Int32), iv (2 : Int32), .val .null, .unset] [(.ref a)])) rfl (by rw [hml]; rfl) rfl (hb hby dj42_149_1) (by decide) (W := 0) (by show 2 * 0 + _ ≤ _; exact Nat.le_of_eq rfl) (by decide)
  refine Goes.st st1 ?_
  show Gs p e below _ T1 m 4 #[rv a, rv aC, iv (0 : Int32), iv (2 : Int32), .val .null, .unset] []
  refine giloadN X1 hx (hb hby dj42_149_4) rfl ?_
  show Gs p e below _ T1 m 5 #[rv a, rv aC, iv (0 : Int32), iv (2 : Int32), .val .null, .unset] [(.int (2 : Int32))]
  refine gifYes X1 hx (pc' := 27) (hb hby dj42_149_5) (by decide) (by decide) (by decide) ?_
  show Gs p e below _ T1 m 27 #[rv a, rv aC, iv (0 : Int32), iv (2 : Int32), .val .null, .unset] []
  obtain ⟨T2, X2, e2, st2⟩ := getS X1 hx hZ hown (host := "") (hwk hw 18 rfl) Via.refl e1 Scs (g := (mkF m 27 #[rv a, rv aC, iv (0 : Int32), iv (2 : Int32), .val .null, .unset] [])) rfl (hb hby dj42_149_27)
  refine Goes.st st2 ?_
  show Gs p e below _ T2 m 30 #[rv a, rv aC, iv (0 : Int32), iv (2 : Int32), .val .null, .unset] [(.int cs)]
  refine gifNo X2 hx (hb hby dj42_149_30) ((if0 _ _).trans (feq hcs).1) ?_
  show Gs p e below _ T2 m 33 #[rv a, rv aC, iv (0 : Int32), iv (2 : Int32), .val .null, .unset] []
  refine galoadN X2 hx (hb hby dj42_149_33) rfl rfl ?_
  refine giloadN X2 hx (hb hby dj42_149_34) rfl ?_
  refine giloadN X2 hx (hb hby dj42_149_35) rfl ?_
  have lt3 : a < h0.size := Ea.lt
  have lt4 : aC < h0.size := VC.lt
  obtain ⟨_, _, ⟨T5, L5, k5, n5⟩, -, X5, ⟨Lc5, hQ5, l5, y5, z5⟩, st5⟩ := Jvm.LawKit.callS X2 hx (y := mN6) hown (mvT hZ (hwk hw 19 rfl)) (mvT hZ (hwk hw 20 rfl)) (mvT hZ (hwk hw 21 rfl)) (mvT hZ (hwk hw 22 rfl)) (by decide) (backOf (W := 0) (rmCx21 l Z a0 hw [] aC kC c0 c1 h0 n0 Z0 Sd Sh Sl VC hc0 hc1 hr1) hZ (hwk hw 22 rfl) (hwk hw 21 rfl) (by decide) (by decide)) (g := (mkF m 36 #[rv a, rv aC, iv (0 : Int32), iv (2 : Int32), .val .null, .unset] [(.int (2 : Int32)), (.int (0 : Int32)), (.ref aC)])) rfl (by rw [hml]; rfl) (argsL := [(.ref aC), (.int (0 : Int32)), (.int (2 : Int32))]) (rest := []) (lenOf pd___CII__B_166f rfl) rfl (by show 2 * 0 + _ ≤ _; exact Nat.le_of_eq rfl) (hb hby dj42_149_36) (fun _ _ => ⟨rfl, e2, (by decide : 0 + 2 ≤ 2), (by decide : 0 + 6 ≤ 6)⟩)
  dsimp only [Pt.U, Pt.locs, Pt.cells, Pt.slots] at X5 l5 y5 z5 st5 hQ5
  subst l5 y5 z5
  obtain ⟨b5, kB5, vs5, rfl, N5q, K5, szq5, loq5, V5⟩ := hQ5
  have KK6 := K0.trans K5 all0
  have ne_a_b5 : a ≠ b5 := Nat.ne_of_lt (Nat.lt_of_lt_of_le lt3 szq5)
  have ne_aC_b5 : aC ≠ b5 := Nat.ne_of_lt (Nat.lt_of_lt_of_le lt4 szq5)
  have sz_b5 : h0.size ≤ b5 := by have := KK6.1; have := szq5; omega
  have Z5 : n0 ≤ T5.heap.size := Nat.le_trans Z0 K5.1
  have N5 := Fr.app N0 N5q
  refine Goes.st st5 ?_
  show Gs p e below _ T5 m 39 #[rv a, rv aC, iv (0 : Int32), iv (2 : Int32), .val .null, .unset] [(.ref b5)]
  refine gastore X5 hx (hb hby dj42_149_39) trivial rfl (l' := #[rv a, rv aC, iv (0 : Int32), iv (2 : Int32), .val .null, rv b5]) rfl ?_
  refine galoadN X5 hx (hb hby dj42_149_41) rfl rfl ?_
  refine gaload X5 hx (hb hby dj42_149_42) rfl rfl ?_
  refine giloadN X5 hx (hb hby dj42_149_44) rfl ?_
  obtain ⟨_, _, ⟨T7, L7, k7, n7⟩, -, X7, ⟨Lc7, hQ7, l7, y7, z7⟩, st7⟩ := Jvm.LawKit.callS X5 hx (y := mN7) hown (mvT hZ (hwk hw 27 rfl)) (mvT hZ (hwk hw 28 rfl)) (mvT hZ (hwk hw 21 rfl)) (mvT hZ (hwk hw 29 rfl)) (by decide) (backOf (W := 1) (rmCl24 l Z a0 hw [] b5 kB5 vs5 T5.heap n0 Z5 V5) hZ (hwk hw 29 rfl) (hwk hw 21 rfl) (by decide) (by decide)) (g := (mkF m 45 #[rv a, rv aC, iv (0 : Int32), iv (2 : Int32), .val .null, rv b5] [(.int (2 : Int32)), (.ref b5), (.ref a)])) rfl (by rw [hml]; rfl) (argsL := [(.ref b5), (.int (2 : Int32))]) (rest := [(.ref a)]) (lenOf pd___BI_B_df7 rfl) rfl (by show 2 * 0 + _ ≤ _; exact Nat.le_of_eq rfl) (hb hby dj42_149_45) (fun _ _ => ⟨rfl, rfl, (by decide : 2 + 0 ≤ 2), (by decide : 6 + 0 ≤ 6)⟩)
  dsimp only [Pt.U, Pt.locs, Pt.cells, Pt.slots] at X7 l7 y7 z7 st7 hQ7
  subst l7 y7 z7
  obtain ⟨rfl, N7q, eh7⟩ := hQ7
  have N7 := Fr.app N5 N7q
  refine Goes.st st7 ?_
  show Gs p e below _ T7 m 48 #[rv a, rv aC, iv (0 : Int32), iv (2 : Int32), .val .null, rv b5] [(.int (1 : Int32)), (.ref a)]
  have f9 := (Fc.keep K5 nin0)
  have f10 := (Ea.keep K5)
  obtain ⟨T8, h8, X8, e8, W8, st8⟩ := putFN X7 hx hZ hown (hwk hw 30 rfl) Via.refl eh7 f9 f10 (Or.inr ⟨(hwk hw 31 rfl), rfl, hnm⟩) (hwk hw 5 rfl) (ty := .byte) (v' := (.int (1 : Int32))) (by decide) rfl (by decide) (g := (mkF m 48 #[rv a, rv aC, iv (0 : Int32), iv (2 : Int32), .val .null, rv b5] [(.int (1 : Int32)), (.ref a)])) rfl rfl (hb hby dj42_149_48)
  have N8 := Fr.snoc X8 N7 ga
  have G8 := f9.same W8
  refine Goes.st st8 ?_
  have KK11 := KK6.wr W8 (Or.inl (List.mem_of_getElem? (i := 0) rfl))
  have Z8 : n0 ≤ h8.size := by have := W8.size; have := Z5; omega
  show Gs p e below _ T8 m 51 #[rv a, rv aC, iv (0 : Int32), iv (2 : Int32), .val .null, rv b5] []
  refine galoadN X8 hx (hb hby dj42_149_51) rfl rfl ?_
  refine gaload X8 hx (hb hby dj42_149_52) rfl rfl ?_
  have f13 := ((Fv.keep K5 nin0).other W8 (Or.inr (slot_ne (Or.inr (hwk hw 33 rfl)) (Or.inr (hwk hw 31 rfl)) (by decide) (t := (.array .byte)) (t' := .byte) (by decide) (by decide))))
  have f14 := (f10.wr W8)
  obtain ⟨T12, h12, X12, e12, W12, st12⟩ := putF X8 hx hZ hown (host := "") (Or.inl (hwk hw 32 rfl)) Via.refl e8 f13 f14 (Or.inr ⟨(hwk hw 33 rfl), rfl, hnm⟩) (hwk hw 5 rfl) (ty := (.array .byte)) (by decide) rfl rfl (g := (mkF m 54 #[rv a, rv aC, iv (0 : Int32), iv (2 : Int32), .val .null, rv b5] [(.ref b5), (.ref a)])) rfl rfl (hb hby dj42_149_54)
  have N12 := Fr.snoc X12 N8 ga
  have G12 := f13.same W12
  refine Goes.st st12 ?_
  have KK15 := KK11.wr W12 (Or.inl (List.mem_of_getElem? (i := 0) rfl))
  have Z12 : n0 ≤ h12.size := by have := W12.size; have := Z8; omega
  show Gs p e below _ T12 m 57 #[rv a, rv aC, iv (0 : Int32), iv (2 : Int32), .val .null, rv b5] []
  refine Goes.retV X12 hx hret (hb hby dj42_149_57) (lvN X12 hlk (fun _ => rfl) ?_ (by decide) (by decide))
  rw [e12]
  exact ⟨rfl, N12, KK15⟩
theorem ef_Ic21 (m : MethodId) (x0 : Addr) (x1 : Addr) : entryFrame m #[(.ref x0), (.ref x1)] 2 = mkF m 0 #[rv x0, rv x1] [] := by first | (simp [entryFrame, mkF, argsToLocals, Value.category]; done) | rfl
def QIc21 (Z : State) (a : Addr) (cs : Int32) (aC : Addr) (kC : ClassId) (c0 c1 : Int32) (h0 : Heap) (n0 : Nat) (v : Option Value) (h : Heap) (L : List Loc) : Prop := v = none ∧ Fr n0 L ∧ Keep h0 h [a]
set_option maxRecDepth 65536 in
set_option maxHeartbeats 40000000 in
theorem rmIc21 (l : Launch) (Z : State) (a0 : Array Value) (hw : ∀ d ∈ tables_1, d.before a0 Z = true) (ws : List Jvm.Cond) (a : Addr) (cs : Int32) (aC : Addr) (kC : ClassId) (c0 c1 : Int32) (h0 : Heap) (n0 : Nat) (Z0 : n0 ≤ h0.size) (Scs : Sta Z h0 "java/lang/String" "COMPACT_STRINGS" "Z" (.int cs)) (hcs : ¬ cs = (0 : Int32)) (Sd : Sta Z h0 "java/lang/StringUTF16" "$assertionsDisabled" "Z" (.int (1 : Int32))) (Sh : Sta Z h0 "java/lang/StringUTF16" "HI_BYTE_SHIFT" "I" (.int (0 : Int32))) (Sl : Sta Z h0 "java/lang/StringUTF16" "LO_BYTE_SHIFT" "I" (.int (8 : Int32))) (Ea : Exa Z h0 a "java/lang/String") (ga : n0 ≤ a) (Fv : Fld Z h0 a "java/lang/String" "value" "[B" .null) (Fc : Fld Z h0 a "java/lang/String" "coder" "B" (.int (0 : Int32))) (VC : Arv Z h0 aC kC .char (2 : Int32) [(.int c0), (.int c1)] (.int (0 : Int32))) (naC : a ≠ aC) (hc0 : ¬ (255 : Int32) < c0) (hc1 : (255 : Int32) < c1) (hr1 : 0 ≤ c1.toInt ∧ c1.toInt < 65536) :
    MetFree l mN9 (head1 (Jvm.Cond.code mN9 jdk_42_method_3_code 2 none :: ws) ({ frames := 5, cells := 2, slots := 6, locals := 74 } : Room)) (fun aa U => aa = #[(.ref a), (.ref aC)] ∧ Z.Warmed39 U.vm ∧ U.heap = h0) (fun _ _ _ _ _ => True) (fun _ u1_ o_ u2_ => ∃ v_ l_, o_ = .returned v_ ∧ QIc21 Z a cs aC kC c0 c1 h0 n0 v_ u2_.heap l_ ∧ FrameEnd u1_ o_ u2_ l_ ({ frames := 5, cells := 2, slots := 6, locals := 74 } : Room).cells ({ frames := 5, cells := 2, slots := 6, locals := 74 } : Room).slots) := by
  refine MetFree.of_bodySF (plainFor_of_name pn_java_lang_String) hisR ?_
  intro p e s m args below meth c s₁ Bd hml0 hP hK
  obtain ⟨rfl, hZ, hh⟩ := hP
  have hx := Bd.exec
  have hby := Bd.bytes
  have hlk := BodyLoose.notSynchronized Bd
  have hret := Bd.returns
  have hml : c.maxLocals = 2 := hml0
  have hown : s.vm.findClass "java/lang/String" = some m.cls := findClass_of_methodNamed Bd.named
  have hnm := (name_of_methodNamed Bd.named Bd.method).1
  have X0 : Stand p l e ({ frames := 5, cells := 2, slots := 6, locals := 74 } : Room) s m #[(.ref a), (.ref aC)] below meth c s₁ [] 0 0 := Stand.of_body Bd
  have e0 : s₁.heap = h0 := by rw [← hh, Bd.state]; rfl
  have N0 := Fr.nil n0
  refine Goes.st (E := (EN s (QIc21 Z a cs aC kC c0 c1 h0 n0) ({ frames := 5, cells := 2, slots := 6, locals := 74 } : Room).cells ({ frames := 5, cells := 2, slots := 6, locals := 74 } : Room).slots)) (fun tg kg => castTop (ef_Ic21 m a aC) kg) ?_
  have K0 : Keep h0 h0 [a] := Keep.refl _ _
  show Gs p e below _ s₁ m 0 #[rv a, rv aC] []
  refine galoadN X0 hx (hb hby dj42_3_0) rfl rfl ?_
  refine galoadN X0 hx (hb hby dj42_3_1) rfl rfl ?_
  refine giconst X0 hx (hb hby dj42_3_2) ?_
  refine galoadN X0 hx (hb hby dj42_3_3) rfl rfl ?_
  show Gs p e below _ s₁ m 4 #[rv a, rv aC] [(.ref aC), (.int (0 : Int32)), (.ref aC), (.ref a)]
  obtain ⟨cl1, Ar1, qk1, Sz1, qz1, Ha1, Gf1⟩ := id VC
  refine Goes.st (fun tg kg => X0.arraylength hx (cell := cl1) (by rw [e0]; exact Ar1.1) (State.isArrayOf_alike hZ.alike Ar1.2.1) (g := (mkF m 4 #[rv a, rv aC] [(.ref aC), (.int (0 : Int32)), (.ref aC), (.ref a)])) rfl (rest := [(.int (0 : Int32)), (.ref aC), (.ref a)]) rfl (hb hby dj42_3_4) tg kg) ?_
  rw [len_of Sz1 qz1]
  show Gs p e below _ s₁ m 5 #[rv a, rv aC] [(.int (2 : Int32)), (.int (0 : Int32)), (.ref aC), (.ref a)]
  refine Goes.st (fun tg kg => XS.aconstNull X0.here hx rfl (hb hby dj42_3_5) kg) ?_
  obtain ⟨_, _, ⟨T2, L2, k2, n2⟩, -, X2, ⟨Lc2, hQ2, l2, y2, z2⟩, st2⟩ := X0.specialBack hx (y := mN8) rfl hown (mvT hZ (hwk hw 11 rfl)) (mvT hZ (hwk hw 12 rfl)) (mvT hZ (hwk hw 14 rfl)) (by decide) (backOf (W := 0) (rmIv21 l Z a0 hw [] a cs aC kC c0 c1 h0 n0 Z0 Scs hcs Sd Sh Sl Ea ga Fv Fc VC naC hc0 hc1 hr1) hZ (hwk hw 14 rfl) (hwk hw 6 rfl) (by decide) (by decide)) (g := (mkF m 6 #[rv a, rv aC] [.null, (.int (2 : Int32)), (.int (0 : Int32)), (.ref aC), (.ref a)])) rfl (by rw [hml]; rfl) (Steps.refl _) (a := a) (argsL := [(.ref aC), (.int (0 : Int32)), (.int (2 : Int32)), .null]) (rest := []) (lenOf pd___CIILjava_lang_Void__V_897f rfl) rfl (by show 2 * 0 + _ ≤ _; exact Nat.le_of_eq rfl) (hb hby dj42_3_6) (fun _ _ => ⟨rfl, e0, (by decide : 0 + 2 ≤ 2), (by decide : 0 + 6 ≤ 6)⟩)
  dsimp only [Pt.U, Pt.locs, Pt.cells, Pt.slots] at X2 l2 y2 z2 st2 hQ2
  subst l2 y2 z2
  obtain ⟨rfl, N2q, K2⟩ := hQ2
  have KK3 := K0.trans K2 (allS (Or.inl (List.mem_of_getElem? (i := 0) rfl)) all0)
  have Z2 : n0 ≤ T2.heap.size := Nat.le_trans Z0 K2.1
  have N2 := Fr.app N0 N2q
  refine Goes.sts st2 ?_
  show Gs p e below _ T2 m 9 #[rv a, rv aC] []
  refine Goes.retV X2 hx hret (hb hby dj42_3_9) (lvN X2 hlk (fun _ => rfl) ?_ (by decide) (by decide))
  exact ⟨rfl, N2, KK3⟩
theorem ef_Cm22 (m : MethodId) (x0 : Addr) (x1 : Int32) (x2 : Addr) (x3 : Int32) (x4 : Int32) : entryFrame m #[(.ref x0), (.int x1), (.ref x2), (.int x3), (.int x4)] 7 = mkF m 0 #[rv x0, iv x1, rv x2, iv x3, iv x4, .unset, .unset] [] := by first | (simp [entryFrame, mkF, argsToLocals, Value.category]; done) | rfl
def QCm22 (Z : State) (aC : Addr) (kC : ClassId) (c0 c1 : Int32) (aB : Addr) (kB : ClassId) (h0 : Heap) (n0 : Nat) (v : Option Value) (h : Heap) (L : List Loc) : Prop := ∃ (vs : List Value), v = some (.int (2 : Int32)) ∧ Fr n0 L ∧ Keep h0 h [aB] ∧ Arv Z h aB kB .byte (2 : Int32) vs (.int (0 : Int32))
set_option maxRecDepth 65536 in
set_option maxHeartbeats 40000000 in
theorem rmCm22 (l : Launch) (Z : State) (a0 : Array Value) (hw : ∀ d ∈ tables_1, d.before a0 Z = true) (ws : List Jvm.Cond) (aC : Addr) (kC : ClassId) (c0 c1 : Int32) (aB : Addr) (kB : ClassId) (h0 : Heap) (n0 : Nat) (Z0 : n0 ≤ h0.size) (VC : Arv Z h0 aC kC .char (2 : Int32) [(.int c0), (.int c1)] (.int (0 : Int32))) (VB : Arv Z h0 aB kB .byte (2 : Int32) [(.int (0 : Int32)), (.int (0 : Int32))] (.int (0 : Int32))) (lB : n0 ≤ aB) (nCB : aC ≠ aB) (hc0 : ¬ (255 : Int32) < c0) (hc1 : ¬ (255 : Int32) < c1) :
    MetFree l mN5 (head1 (Jvm.Cond.code mN5 jdk_52_method_21_code 7 (some .int) :: ws) ({ frames := 0, cells := 0, slots := 0, locals := 0 } : Room)) (fun aa U => aa = #[(.ref aC), (.int (0 : Int32)), (.ref aB), (.int (0 : Int32)), (.int (2 : Int32))] ∧ Z.Warmed39 U.vm ∧ U.heap = h0) (fun _ _ _ _ _ => True) (fun _ u1_ o_ u2_ => ∃ v_ l_, o_ = .returned v_ ∧ QCm22 Z aC kC c0 c1 aB kB h0 n0 v_ u2_.heap l_ ∧ FrameEnd u1_ o_ u2_ l_ ({ frames := 0, cells := 0, slots := 0, locals := 0 } : Room).cells ({ frames := 0, cells := 0, slots := 0, locals := 0 } : Room).slots) := by
  refine MetFree.of_bodySF (plainFor_of_name pn_java_lang_StringUTF16) hisR ?_
  intro p e s m args below meth c s₁ Bd hml0 hP hK
  obtain ⟨rfl, hZ, hh⟩ := hP
  have hx := Bd.exec
  have hby := Bd.bytes
  have hlk := BodyLoose.notSynchronized Bd
  have hret := Bd.returns
  have hml : c.maxLocals = 7 := hml0
  have hown : s.vm.findClass "java/lang/StringUTF16" = some m.cls := findClass_of_methodNamed Bd.named
  have hnm := (name_of_methodNamed Bd.named Bd.method).1
  have X0 : Stand p l e ({ frames := 0, cells := 0, slots := 0, locals := 0 } : Room) s m #[(.ref aC), (.int (0 : Int32)), (.ref aB), (.int (0 : Int32)), (.int (2 : Int32))] below meth c s₁ [] 0 0 := Stand.of_body Bd
  have e0 : s₁.heap = h0 := by rw [← hh, Bd.state]; rfl
  have N0 := Fr.nil n0
  refine Goes.st (E := (EN s (QCm22 Z aC kC c0 c1 aB kB h0 n0) ({ frames := 0, cells := 0, slots := 0, locals := 0 } : Room).cells ({ frames := 0, cells := 0, slots := 0, locals := 0 } : Room).slots)) (fun tg kg => castTop (ef_Cm22 m aC (0 : Int32) aB (0 : Int32) (2 : Int32)) kg) ?_
  have K0 : Keep h0 h0 [aB] := Keep.refl _ _
  show Gs p e below _ s₁ m 0 #[rv aC, iv (0 : Int32), rv aB, iv (0 : Int32), iv (2 : Int32), .unset, .unset] []
  refine giconst X0 hx (hb hby dj52_21_0) ?_
  refine gistore X0 hx (hb hby dj52_21_1) trivial (l' := #[rv aC, iv (0 : Int32), rv aB, iv (0 : Int32), iv (2 : Int32), iv (0 : Int32), .unset]) rfl ?_
  refine giload X0 hx (hb hby dj52_21_3) rfl ?_
  refine giload X0 hx (hb hby dj52_21_5) rfl ?_
  show Gs p e below _ s₁ m 7 #[rv aC, iv (0 : Int32), rv aB, iv (0 : Int32), iv (2 : Int32), iv (0 : Int32), .unset] [(.int (2 : Int32)), (.int (0 : Int32))]
  refine gicmpNo X0 hx (hb hby dj52_21_7) (by decide) ?_
  show Gs p e below _ s₁ m 10 #[rv aC, iv (0 : Int32), rv aB, iv (0 : Int32), iv (2 : Int32), iv (0 : Int32), .unset] []
  refine galoadN X0 hx (hb hby dj52_21_10) rfl rfl ?_
  refine giloadN X0 hx (hb hby dj52_21_11) rfl ?_
  show Gs p e below _ s₁ m 12 #[rv aC, iv (0 : Int32), rv aB, iv (0 : Int32), iv (2 : Int32), iv (0 : Int32), .unset] [(.int (0 : Int32)), (.ref aC)]
  obtain ⟨cl1, Ar1, qk1, Sz1, qz1, Ha1, Gf1⟩ := id VC
  have in1 := inb_of (j := (0 : Int32)) Sz1 ⟨by decide, by decide⟩
  refine Goes.st (fun tg kg => X0.caload hx (j := (0 : Int32)) (v := (.int c0)) (by rw [e0]; exact Ar1.1) (State.isArrayOf_alike hZ.alike Ar1.2.1) Ar1.2.2 in1 (Ha1.at in1 rfl) (g := (mkF m 12 #[rv aC, iv (0 : Int32), rv aB, iv (0 : Int32), iv (2 : Int32), iv (0 : Int32), .unset] [(.int (0 : Int32)), (.ref aC)])) rfl rfl (hb hby dj52_21_12) tg kg) ?_
  show Gs p e below _ s₁ m 13 #[rv aC, iv (0 : Int32), rv aB, iv (0 : Int32), iv (2 : Int32), iv (0 : Int32), .unset] [(.int c0)]
  refine gistore X0 hx (hb hby dj52_21_13) trivial (l' := #[rv aC, iv (0 : Int32), rv aB, iv (0 : Int32), iv (2 : Int32), iv (0 : Int32), iv c0]) rfl ?_
  refine giload X0 hx (hb hby dj52_21_15) rfl ?_
  refine Goes.st (fun tg kg => XS.sipush X0.here hx rfl (hb hby dj52_21_17) kg) ?_
  show Gs p e below _ s₁ m 20 #[rv aC, iv (0 : Int32), rv aB, iv (0 : Int32), iv (2 : Int32), iv (0 : Int32), iv c0] [(.int (255 : Int32)), (.int c0)]
  refine gicmpYes X0 hx (pc' := 26) (hb hby dj52_21_20) (flt hc0).2.2.2 (by decide) (by decide) ?_
  show Gs p e below _ s₁ m 26 #[rv aC, iv (0 : Int32), rv aB, iv (0 : Int32), iv (2 : Int32), iv (0 : Int32), iv c0] []
  refine galoadN X0 hx (hb hby dj52_21_26) rfl rfl ?_
  refine giloadN X0 hx (hb hby dj52_21_27) rfl ?_
  refine giload X0 hx (hb hby dj52_21_28) rfl ?_
  show Gs p e below _ s₁ m 30 #[rv aC, iv (0 : Int32), rv aB, iv (0 : Int32), iv (2 : Int32), iv (0 : Int32), iv c0] [(.int c0), (.int (0 : Int32)), (.ref aB)]
  refine Goes.st (fun tg kg => XT.i2b X0.here hx rfl (hb hby dj52_21_30) rfl kg) ?_
  show Gs p e below _ s₁ m 31 #[rv aC, iv (0 : Int32), rv aB, iv (0 : Int32), iv (2 : Int32), iv (0 : Int32), iv c0] [(.int (c0).toInt8.toInt32), (.int (0 : Int32)), (.ref aB)]
  obtain ⟨cl2, Ar2, qk2, Sz2, qz2, Ha2, Gf2⟩ := id VB
  obtain ⟨T2, h2, X2, e2, W2, st2⟩ := stB X0 hx hZ e0 Ar2 (inb_of Sz2 ⟨by decide, by decide⟩) (g := (mkF m 31 #[rv aC, iv (0 : Int32), rv aB, iv (0 : Int32), iv (2 : Int32), iv (0 : Int32), iv c0] [(.int (c0).toInt8.toInt32), (.int (0 : Int32)), (.ref aB)])) rfl rfl (hb hby dj52_21_31)
  have N2 := Fr.snoc X2 N0 lB
  have V2 : Arv Z h2 aB kB .byte (2 : Int32) [(.int (nar .byte (c0).toInt8.toInt32)), (.int (0 : Int32))] (.int (0 : Int32)) := Arv.set Ar2 qk2 Sz2 qz2 Ha2 Gf2 (fits_nar_byte _) W2 0 (by decide) (by simp)
  refine Goes.st st2 ?_
  have KK3 := K0.wr W2 (Or.inl (List.mem_of_getElem? (i := 0) rfl))
  have Z2 : n0 ≤ h2.size := by have := W2.size; have := Z0; omega
  show Gs p e below _ T2 m 32 #[rv aC, iv (0 : Int32), rv aB, iv (0 : Int32), iv (2 : Int32), iv (0 : Int32), iv c0] []
  refine Goes.st (fun tg kg => XS.iinc X2.here hx rfl (hb hby dj52_21_32) rfl (l' := #[rv aC, iv (1 : Int32), rv aB, iv (0 : Int32), iv (2 : Int32), iv (0 : Int32), iv c0]) rfl kg) ?_
  refine Goes.st (fun tg kg => XS.iinc X2.here hx rfl (hb hby dj52_21_35) rfl (l' := #[rv aC, iv (1 : Int32), rv aB, iv (1 : Int32), iv (2 : Int32), iv (0 : Int32), iv c0]) rfl kg) ?_
  refine Goes.st (fun tg kg => XS.iinc X2.here hx rfl (hb hby dj52_21_38) rfl (l' := #[rv aC, iv (1 : Int32), rv aB, iv (1 : Int32), iv (2 : Int32), iv (1 : Int32), iv c0]) rfl kg) ?_
  show Gs p e below _ T2 m 41 #[rv aC, iv (1 : Int32), rv aB, iv (1 : Int32), iv (2 : Int32), iv (1 : Int32), iv c0] []
  refine ggoto X2 hx (pc' := 3) (hb hby dj52_21_41) (by decide) (by decide) ?_
  show Gs p e below _ T2 m 3 #[rv aC, iv (1 : Int32), rv aB, iv (1 : Int32), iv (2 : Int32), iv (1 : Int32), iv c0] []
  refine giload X2 hx (hb hby dj52_21_3) rfl ?_
  refine giload X2 hx (hb hby dj52_21_5) rfl ?_
  show Gs p e below _ T2 m 7 #[rv aC, iv (1 : Int32), rv aB, iv (1 : Int32), iv (2 : Int32), iv (1 : Int32), iv c0] [(.int (2 : Int32)), (.int (1 : Int32))]
  refine gicmpNo X2 hx (hb hby dj52_21_7) (by decide) ?_
  show Gs p e below _ T2 m 10 #[rv aC, iv (1 : Int32), rv aB, iv (1 : Int32), iv (2 : Int32), iv (1 : Int32), iv c0] []
  refine galoadN X2 hx (hb hby dj52_21_10) rfl rfl ?_
  refine giloadN X2 hx (hb hby dj52_21_11) rfl ?_
  show Gs p e below _ T2 m 12 #[rv aC, iv (1 : Int32), rv aB, iv (1 : Int32), iv (2 : Int32), iv (1 : Int32), iv c0] [(.int (1 : Int32)), (.ref aC)]
  have f4 := (VC.other W2 nCB)
  obtain ⟨cl5, Ar5, qk5, Sz5, qz5, Ha5, Gf5⟩ := id f4
  have in5 := inb_of (j := (1 : Int32)) Sz5 ⟨by decide, by decide⟩
  refine Goes.st (fun tg kg => X2.caload hx (j := (1 : Int32)) (v := (.int c1)) (by rw [e2]; exact Ar5.1) (State.isArrayOf_alike hZ.alike Ar5.2.1) Ar5.2.2 in5 (Ha5.at in5 rfl) (g := (mkF m 12 #[rv aC, iv (1 : Int32), rv aB, iv (1 : Int32), iv (2 : Int32), iv (1 : Int32), iv c0] [(.int (1 : Int32)), (.ref aC)])) rfl rfl (hb hby dj52_21_12) tg kg) ?_
  show Gs p e below _ T2 m 13 #[rv aC, iv (1 : Int32), rv aB, iv (1 : Int32), iv (2 : Int32), iv (1 : Int32), iv c0] [(.int c1)]
  refine gistore X2 hx (hb hby dj52_21_13) trivial (l' := #[rv aC, iv (1 : Int32), rv aB, iv (1 : Int32), iv (2 : Int32), iv (1 : Int32), iv c1]) rfl ?_
  refine giload X2 hx (hb hby dj52_21_15) rfl ?_
  refine Goes.st (fun tg kg => XS.sipush X2.here hx rfl (hb hby dj52_21_17) kg) ?_
  show Gs p e below _ T2 m 20 #[rv aC, iv (1 : Int32), rv aB, iv (1 : Int32), iv (2 : Int32), iv (1 : Int32), iv c1] [(.int (255 : Int32)), (.int c1)]
  refine gicmpYes X2 hx (pc' := 26) (hb hby dj52_21_20) (flt hc1).2.2.2 (by decide) (by decide) ?_
  show Gs p e below _ T2 m 26 #[rv aC, iv (1 : Int32), rv aB, iv (1 : Int32), iv (2 : Int32), iv (1 : Int32), iv c1] []
  refine galoadN X2 hx (hb hby dj52_21_26) rfl rfl ?_
  refine giloadN X2 hx (hb hby dj52_21_27) rfl ?_
  refine giload X2 hx (hb hby dj52_21_28) rfl ?_
  show Gs p e below _ T2 m 30 #[rv aC, iv (1 : Int32), rv aB, iv (1 : Int32), iv (2 : Int32), iv (1 : Int32), iv c1] [(.int c1), (.int (1 : Int32)), (.ref aB)]
  refine Goes.st (fun tg kg => XT.i2b X2.here hx rfl (hb hby dj52_21_30) rfl kg) ?_
  show Gs p e below _ T2 m 31 #[rv aC, iv (1 : Int32), rv aB, iv (1 : Int32), iv (2 : Int32), iv (1 : Int32), iv c1] [(.int (c1).toInt8.toInt32), (.int (1 : Int32)), (.ref aB)]
  obtain ⟨cl6, Ar6, qk6, Sz6, qz6, Ha6, Gf6⟩ := id V2
  obtain ⟨T6, h6, X6, e6, W6, st6⟩ := stB X2 hx hZ e2 Ar6 (inb_of Sz6 ⟨by decide, by decide⟩) (g := (mkF m 31 #[rv aC, iv (1 : Int32), rv aB, iv (1 : Int32), iv (2 : Int32), iv (1 : Int32), iv c1] [(.int (c1).toInt8.toInt32), (.int (1 : Int32)), (.ref aB)])) rfl rfl (hb hby dj52_21_31)
  have N6 := Fr.snoc X6 N2 lB
  have V6 : Arv Z h6 aB kB .byte (2 : Int32) [(.int (nar .byte (c0).toInt8.toInt32)), (.int (nar .byte (c1).toInt8.toInt32))] (.int (0 : Int32)) := Arv.set Ar6 qk6 Sz6 qz6 Ha6 Gf6 (fits_nar_byte _) W6 1 (by decide) (by simp)
  refine Goes.st st6 ?_
  have KK7 := KK3.wr W6 (Or.inl (List.mem_of_getElem? (i := 0) rfl))
  have Z6 : n0 ≤ h6.size := by have := W6.size; have := Z2; omega
  show Gs p e below _ T6 m 32 #[rv aC, iv (1 : Int32), rv aB, iv (1 : Int32), iv (2 : Int32), iv (1 : Int32), iv c1] []
  refine Goes.st (fun tg kg => XS.iinc X6.here hx rfl (hb hby dj52_21_32) rfl (l' := #[rv aC, iv (2 : Int32), rv aB, iv (1 : Int32), iv (2 : Int32), iv (1 : Int32), iv c1]) rfl kg) ?_
  refine Goes.st (fun tg kg => XS.iinc X6.here hx rfl (hb hby dj52_21_35) rfl (l' := #[rv aC, iv (2 : Int32), rv aB, iv (2 : Int32), iv (2 : Int32), iv (1 : Int32), iv c1]) rfl kg) ?_
  refine Goes.st (fun tg kg => XS.iinc X6.here hx rfl (hb hby dj52_21_38) rfl (l' := #[rv aC, iv (2 : Int32), rv aB, iv (2 : Int32), iv (2 : Int32), iv (2 : Int32), iv c1]) rfl kg) ?_
  show Gs p e below _ T6 m 41 #[rv aC, iv (2 : Int32), rv aB, iv (2 : Int32), iv (2 : Int32), iv (2 : Int32), iv c1] []
  refine ggoto X6 hx (pc' := 3) (hb hby dj52_21_41) (by decide) (by decide) ?_
  show Gs p e below _ T6 m 3 #[rv aC, iv (2 : Int32), rv aB, iv (2 : Int32), iv (2 : Int32), iv (2 : Int32), iv c1] []
  refine giload X6 hx (hb hby dj52_21_3) rfl ?_
  refine giload X6 hx (hb hby dj52_21_5) rfl ?_
  show Gs p e below _ T6 m 7 #[rv aC, iv (2 : Int32), rv aB, iv (2 : Int32), iv (2 : Int32), iv (2 : Int32), iv c1] [(.int (2 : Int32)), (.int (2 : Int32))]
  refine gicmpYes X6 hx (pc' := 44) (hb hby dj52_21_7) (by decide) (by decide) (by decide) ?_
  show Gs p e below _ T6 m 44 #[rv aC, iv (2 : Int32), rv aB, iv (2 : Int32), iv (2 : Int32), iv (2 : Int32), iv c1] []
  refine giload X6 hx (hb hby dj52_21_44) rfl ?_
  show Gs p e below _ T6 m 46 #[rv aC, iv (2 : Int32), rv aB, iv (2 : Int32), iv (2 : Int32), iv (2 : Int32), iv c1] [(.int (2 : Int32))]
  refine Goes.retI X6 hx hret (hb hby dj52_21_46) (lvN X6 hlk (vsome hret) ?_ (by decide) (by decide))
  rw [e6]
  exact ⟨_, rfl, N6, KK7, V6⟩
theorem ef_Cx22 (m : MethodId) (x0 : Addr) (x1 : Int32) (x2 : Int32) : entryFrame m #[(.ref x0), (.int x1), (.int x2)] 6 = mkF m 0 #[rv x0, iv x1, iv x2, .unset, .unset, .unset] [] := by first | (simp [entryFrame, mkF, argsToLocals, Value.category]; done) | rfl
def QCx22 (Z : State) (aC : Addr) (kC : ClassId) (c0 c1 : Int32) (h0 : Heap) (n0 : Nat) (v : Option Value) (h : Heap) (L : List Loc) : Prop := ∃ (b : Addr) (kB : ClassId) (vs : List Value), v = some (.ref b) ∧ Fr n0 L ∧ Keep h0 h [] ∧ h0.size ≤ b ∧ n0 ≤ b ∧ Arv Z h b kB .byte (2 : Int32) vs (.int (0 : Int32))
set_option maxRecDepth 65536 in
set_option maxHeartbeats 40000000 in
theorem rmCx22 (l : Launch) (Z : State) (a0 : Array Value) (hw : ∀ d ∈ tables_1, d.before a0 Z = true) (ws : List Jvm.Cond) (aC : Addr) (kC : ClassId) (c0 c1 : Int32) (h0 : Heap) (n0 : Nat) (Z0 : n0 ≤ h0.size) (Sd : Sta Z h0 "java/lang/StringUTF16" "$assertionsDisabled" "Z" (.int (1 : Int32))) (Sh : Sta Z h0 "java/lang/StringUTF16" "HI_BYTE_SHIFT" "I" (.int (0 : Int32))) (Sl : Sta Z h0 "java/lang/StringUTF16" "LO_BYTE_SHIFT" "I" (.int (8 : Int32))) (VC : Arv Z h0 aC kC .char (2 : Int32) [(.int c0), (.int c1)] (.int (0 : Int32))) (hc0 : ¬ (255 : Int32) < c0) (hc1 : ¬ (255 : Int32) < c1) :
    MetFree l mN6 (head1 (Jvm.Cond.code mN6 jdk_52_method_16_code 6 (some (.array .byte)) :: ws) ({ frames := 1, cells := 1, slots := 2, locals := 18 } : Room)) (fun aa U => aa = #[(.ref aC), (.int (0 : Int32)), (.int (2 : Int32))] ∧ Z.Warmed39 U.vm ∧ U.heap = h0) (fun _ _ _ _ _ => True) (fun _ u1_ o_ u2_ => ∃ v_ l_, o_ = .returned v_ ∧ QCx22 Z aC kC c0 c1 h0 n0 v_ u2_.heap l_ ∧ FrameEnd u1_ o_ u2_ l_ ({ frames := 1, cells := 1, slots := 2, locals := 18 } : Room).cells ({ frames := 1, cells := 1, slots := 2, locals := 18 } : Room).slots) := by
  refine MetFree.of_bodySF (plainFor_of_name pn_java_lang_StringUTF16) hisR ?_
  intro p e s m args below meth c s₁ Bd hml0 hP hK
  obtain ⟨rfl, hZ, hh⟩ := hP
  have hx := Bd.exec
  have hby := Bd.bytes
  have hlk := BodyLoose.notSynchronized Bd
  have hret := Bd.returns
  have hml : c.maxLocals = 6 := hml0
  have hown : s.vm.findClass "java/lang/StringUTF16" = some m.cls := findClass_of_methodNamed Bd.named
  have hnm := (name_of_methodNamed Bd.named Bd.method).1
  have X0 : Stand p l e ({ frames := 1, cells := 1, slots := 2, locals := 18 } : Room) s m #[(.ref aC), (.int (0 : Int32)), (.int (2 : Int32))] below meth c s₁ [] 0 0 := Stand.of_body Bd
  have e0 : s₁.heap = h0 := by rw [← hh, Bd.state]; rfl
  have N0 := Fr.nil n0
  refine Goes.st (E := (EN s (QCx22 Z aC kC c0 c1 h0 n0) ({ frames := 1, cells := 1, slots := 2, locals := 18 } : Room).cells ({ frames := 1, cells := 1, slots := 2, locals := 18 } : Room).slots)) (fun tg kg => castTop (ef_Cx22 m aC (0 : Int32) (2 : Int32)) kg) ?_
  have K0 : Keep h0 h0 [] := Keep.refl _ _
  show Gs p e below _ s₁ m 0 #[rv aC, iv (0 : Int32), iv (2 : Int32), .unset, .unset, .unset] []
  refine giloadN X0 hx (hb hby dj52_16_0) rfl ?_
  obtain ⟨T1, h1, cA1, X1, e1, E1, A1, st1⟩ := newP X0 hx hZ (hwk hw 23 rfl) e0 (g := (mkF m 1 #[rv aC, iv (0 : Int32), iv (2 : Int32), .unset, .unset, .unset] [(.int (2 : Int32))])) rfl (hb hby dj52_16_1) rfl (by decide) (cap := 2) (by decide) (by decide) (by decide) (by decide)
  obtain ⟨b1, g1⟩ : ∃ z, z = h0.size := ⟨_, rfl⟩
  rw [← g1] at A1 st1
  have ne_aC_b1 : aC ≠ b1 := Nat.ne_of_lt (Nat.lt_of_lt_of_le VC.lt (Nat.le_of_eq g1.symm))
  have lo_b1 : n0 ≤ b1 := by have := Z0; omega
  have sz_b1 : h0.size ≤ b1 := by have := K0.1; omega
  have KK2 := K0.ext E1
  have V1 : Arv Z h1 b1 cA1 .byte (2 : Int32) [(.int (0 : Int32)), (.int (0 : Int32))] (.int (0 : Int32)) := (Arv.new A1 (by decide)).pad (pad_rep [] _ 2)
  refine Goes.st st1 ?_
  have Z1 : n0 ≤ h1.size := Nat.le_trans Z0 E1.1
  show Gs p e below _ T1 m 3 #[rv aC, iv (0 : Int32), iv (2 : Int32), .unset, .unset, .unset] [(.ref b1)]
  refine gastoreN X1 hx (hb hby dj52_16_3) trivial rfl (l' := #[rv aC, iv (0 : Int32), iv (2 : Int32), rv b1, .unset, .unset]) rfl ?_
  refine galoadN X1 hx (hb hby dj52_16_4) rfl rfl ?_
  refine giloadN X1 hx (hb hby dj52_16_5) rfl ?_
  refine galoadN X1 hx (hb hby dj52_16_6) rfl rfl ?_
  refine giconst X1 hx (hb hby dj52_16_7) ?_
  show Gs p e below _ T1 m 8 #[rv aC, iv (0 : Int32), iv (2 : Int32), rv b1, .unset, .unset] [(.int (0 : Int32)), (.ref b1), (.int (0 : Int32)), (.ref aC)]
  refine giloadN X1 hx (hb hby dj52_16_8) rfl ?_
  have f3 := (VC.ext E1)
  obtain ⟨_, _, ⟨T4, L4, k4, n4⟩, -, X4, ⟨Lc4, hQ4, l4, y4, z4⟩, st4⟩ := Jvm.LawKit.callS X1 hx (y := mN5) hown (mvT hZ (hwk hw 24 rfl)) (mvT hZ (hwk hw 25 rfl)) (mvT hZ (hwk hw 21 rfl)) (mvT hZ (hwk hw 26 rfl)) (by decide) (backOf (W := 0) (rmCm22 l Z a0 hw [] aC kC c0 c1 b1 cA1 h1 n0 Z1 f3 V1 lo_b1 ne_aC_b1 hc0 hc1) hZ (hwk hw 26 rfl) (hwk hw 21 rfl) (by decide) (by decide)) (g := (mkF m 9 #[rv aC, iv (0 : Int32), iv (2 : Int32), rv b1, .unset, .unset] [(.int (2 : Int32)), (.int (0 : Int32)), (.ref b1), (.int (0 : Int32)), (.ref aC)])) rfl (by rw [hml]; rfl) (argsL := [(.ref aC), (.int (0 : Int32)), (.ref b1), (.int (0 : Int32)), (.int (2 : Int32))]) (rest := []) (lenOf pd___CI_BII_I_1ed0 rfl) rfl (by show 2 * 0 + _ ≤ _; exact Nat.le_of_eq rfl) (hb hby dj52_16_9) (fun _ _ => ⟨rfl, e1, (by decide : 1 + 0 ≤ 1), (by decide : 2 + 0 ≤ 2)⟩)
  dsimp only [Pt.U, Pt.locs, Pt.cells, Pt.slots] at X4 l4 y4 z4 st4 hQ4
  subst l4 y4 z4
  obtain ⟨vs4, rfl, N4q, K4, V4⟩ := hQ4
  have KK5 := KK2.trans K4 (allS (Or.inr sz_b1) all0)
  have Z4 : n0 ≤ T4.heap.size := Nat.le_trans Z1 K4.1
  have N4 := Fr.app N0 N4q
  refine Goes.st st4 ?_
  show Gs p e below _ T4 m 12 #[rv aC, iv (0 : Int32), iv (2 : Int32), rv b1, .unset, .unset] [(.int (2 : Int32))]
  refine gistore X4 hx (hb hby dj52_16_12) trivial (l' := #[rv aC, iv (0 : Int32), iv (2 : Int32), rv b1, iv (2 : Int32), .unset]) rfl ?_
  refine giload X4 hx (hb hby dj52_16_14) rfl ?_
  refine giloadN X4 hx (hb hby dj52_16_16) rfl ?_
  show Gs p e below _ T4 m 17 #[rv aC, iv (0 : Int32), iv (2 : Int32), rv b1, iv (2 : Int32), .unset] [(.int (2 : Int32)), (.int (2 : Int32))]
  refine gicmpYes X4 hx (pc' := 57) (hb hby dj52_16_17) (by decide) (by decide) (by decide) ?_
  show Gs p e below _ T4 m 57 #[rv aC, iv (0 : Int32), iv (2 : Int32), rv b1, iv (2 : Int32), .unset] []
  refine galoadN X4 hx (hb hby dj52_16_57) rfl rfl ?_
  show Gs p e below _ T4 m 58 #[rv aC, iv (0 : Int32), iv (2 : Int32), rv b1, iv (2 : Int32), .unset] [(.ref b1)]
  refine Goes.retA X4 hx hret rfl rfl rfl (hb hby dj52_16_58) (lvN X4 hlk (vsome hret) ?_ (by decide) (by decide))
  exact ⟨b1, cA1, _, rfl, N4, KK5, sz_b1, lo_b1, V4⟩
theorem ef_Cl22 (m : MethodId) (x0 : Addr) (x1 : Int32) : entryFrame m #[(.ref x0), (.int x1)] 2 = mkF m 0 #[rv x0, iv x1] [] := by first | (simp [entryFrame, mkF, argsToLocals, Value.category]; done) | rfl
def QCl22 (Z : State) (aB : Addr) (kB : ClassId) (vs : List Value) (h0 : Heap) (n0 : Nat) (v : Option Value) (h : Heap) (L : List Loc) : Prop := v = some (.int (0 : Int32)) ∧ Fr n0 L ∧ h = h0
set_option maxRecDepth 65536 in
set_option maxHeartbeats 40000000 in
theorem rmCl22 (l : Launch) (Z : State) (a0 : Array Value) (hw : ∀ d ∈ tables_1, d.before a0 Z = true) (ws : List Jvm.Cond) (aB : Addr) (kB : ClassId) (vs : List Value) (h0 : Heap) (n0 : Nat) (Z0 : n0 ≤ h0.size) (VB : Arv Z h0 aB kB .byte (2 : Int32) vs (.int (0 : Int32))) :
    MetFree l mN7 (head1 (Jvm.Cond.code mN7 jdk_52_method_15_code 2 (some .byte) :: ws) ({ frames := 0, cells := 0, slots := 0, locals := 0 } : Room)) (fun aa U => aa = #[(.ref aB), (.int (2 : Int32))] ∧ Z.Warmed39 U.vm ∧ U.heap = h0) (fun _ _ _ _ _ => True) (fun _ u1_ o_ u2_ => ∃ v_ l_, o_ = .returned v_ ∧ QCl22 Z aB kB vs h0 n0 v_ u2_.heap l_ ∧ FrameEnd u1_ o_ u2_ l_ ({ frames := 0, cells := 0, slots := 0, locals := 0 } : Room).cells ({ frames := 0, cells := 0, slots := 0, locals := 0 } : Room).slots) := by
  refine MetFree.of_bodySF (plainFor_of_name pn_java_lang_StringUTF16) hisR ?_
  intro p e s m args below meth c s₁ Bd hml0 hP hK
  obtain ⟨rfl, hZ, hh⟩ := hP
  have hx := Bd.exec
  have hby := Bd.bytes
  have hlk := BodyLoose.notSynchronized Bd
  have hret := Bd.returns
  have hml : c.maxLocals = 2 := hml0
  have hown : s.vm.findClass "java/lang/StringUTF16" = some m.cls := findClass_of_methodNamed Bd.named
  have hnm := (name_of_methodNamed Bd.named Bd.method).1
  have X0 : Stand p l e ({ frames := 0, cells := 0, slots := 0, locals := 0 } : Room) s m #[(.ref aB), (.int (2 : Int32))] below meth c s₁ [] 0 0 := Stand.of_body Bd
  have e0 : s₁.heap = h0 := by rw [← hh, Bd.state]; rfl
  have N0 := Fr.nil n0
  refine Goes.st (E := (EN s (QCl22 Z aB kB vs h0 n0) ({ frames := 0, cells := 0, slots := 0, locals := 0 } : Room).cells ({ frames := 0, cells := 0, slots := 0, locals := 0 } : Room).slots)) (fun tg kg => castTop (ef_Cl22 m aB (2 : Int32)) kg) ?_
  show Gs p e below _ s₁ m 0 #[rv aB, iv (2 : Int32)] []
  refine giloadN X0 hx (hb hby dj52_15_0) rfl ?_
  refine galoadN X0 hx (hb hby dj52_15_1) rfl rfl ?_
  show Gs p e below _ s₁ m 2 #[rv aB, iv (2 : Int32)] [(.ref aB), (.int (2 : Int32))]
  obtain ⟨cl1, Ar1, qk1, Sz1, qz1, Ha1, Gf1⟩ := id VB
  refine Goes.st (fun tg kg => X0.arraylength hx (cell := cl1) (by rw [e0]; exact Ar1.1) (State.isArrayOf_alike hZ.alike Ar1.2.1) (g := (mkF m 2 #[rv aB, iv (2 : Int32)] [(.ref aB), (.int (2 : Int32))])) rfl (rest := [(.int (2 : Int32))]) rfl (hb hby dj52_15_2) tg kg) ?_
  rw [len_of Sz1 qz1]
  show Gs p e below _ s₁ m 3 #[rv aB, iv (2 : Int32)] [(.int (2 : Int32)), (.int (2 : Int32))]
  refine gisub X0 hx (hb hby dj52_15_3) trivial ?_
  show Gs p e below _ s₁ m 4 #[rv aB, iv (2 : Int32)] [(.int ((2 : Int32) - (2 : Int32)))]
  rw [show ((2 : Int32) - (2 : Int32)) = (0 : Int32) from by decide]
  show Gs p e below _ s₁ m 4 #[rv aB, iv (2 : Int32)] [(.int (0 : Int32))]
  refine Goes.st (fun tg kg => XS.bipush X0.here hx rfl (hb hby dj52_15_4) kg) ?_
  show Gs p e below _ s₁ m 6 #[rv aB, iv (2 : Int32)] [(.int (31 : Int32)), (.int (0 : Int32))]
  refine Goes.st (fun tg kg => XT.iushr X0.here hx rfl (hb hby dj52_15_6) rfl kg) ?_
  show Gs p e below _ s₁ m 7 #[rv aB, iv (2 : Int32)] [(.int (XT.ushr (0 : Int32) (31 : Int32)))]
  rw [show (XT.ushr (0 : Int32) (31 : Int32)) = (0 : Int32) from by decide]
  show Gs p e below _ s₁ m 7 #[rv aB, iv (2 : Int32)] [(.int (0 : Int32))]
  refine Goes.st (fun tg kg => XT.i2b X0.here hx rfl (hb hby dj52_15_7) rfl kg) ?_
  show Gs p e below _ s₁ m 8 #[rv aB, iv (2 : Int32)] [(.int ((0 : Int32)).toInt8.toInt32)]
  rw [show ((0 : Int32)).toInt8.toInt32 = (0 : Int32) from by decide]
  show Gs p e below _ s₁ m 8 #[rv aB, iv (2 : Int32)] [(.int (0 : Int32))]
  refine Goes.retN X0 hx hret (by simp) (hb hby dj52_15_8) (by decide) (lvN X0 hlk (vsome hret) ?_ (by decide) (by decide))
  rw [e0]
  exact ⟨rfl, N0, rfl⟩
theorem ef_Iv22 (m : MethodId) (x0 : Addr) (x1 : Addr) (x2 : Int32) (x3 : Int32) : entryFrame m #[(.ref x0), (.ref x1), (.int x2), (.int x3), .null] 6 = mkF m 0 #[rv x0, rv x1, iv x2, iv x3, .val .null, .unset] [] := by first | (simp [entryFrame, mkF, argsToLocals, Value.category]; done) | rfl
def QIv22 (Z : State) (a : Addr) (cs : Int32) (aC : Addr) (kC : ClassId) (c0 c1 : Int32) (h0 : Heap) (n0 : Nat) (v : Option Value) (h : Heap) (L : List Loc) : Prop := v = none ∧ Fr n0 L ∧ Keep h0 h [a]
set_option maxRecDepth 65536 in
set_option maxHeartbeats 40000000 in
theorem rmIv22 (l : Launch) (Z : State) (a0 : Array Value) (hw : ∀ d ∈ tables_1, d.before a0 Z = true) (ws : List Jvm.Cond) (a : Addr) (cs : Int32) (aC : Addr) (kC : ClassId) (c0 c1 : Int32) (h0 : Heap) (n0 : Nat) (Z0 : n0 ≤ h0.size) (Scs : Sta Z h0 "java/lang/String" "COMPACT_STRINGS" "Z" (.int cs)) (hcs : ¬ cs = (0 : Int32)) (Sd : Sta Z h0 "java/lang/StringUTF16" "$assertionsDisabled" "Z" (.int (1 : Int32))) (Sh : Sta Z h0 "java/lang/StringUTF16" "HI_BYTE_SHIFT" "I" (.int (0 : Int32))) (Sl : Sta Z h0 "java/lang/StringUTF16" "LO_BYTE_SHIFT" "I" (.int (8 : Int32))) (Ea : Exa Z h0 a "java/lang/String") (ga : n0 ≤ a) (Fv : Fld Z h0 a "java/lang/String" "value" "[B" .null) (Fc : Fld Z h0 a "java/lang/String" "coder" "B" (.int (0 : Int32))) (VC : Arv Z h0 aC kC .char (2 : Int32) [(.int c0), (.int c1)] (.int (0 : Int32))) (naC : a ≠ aC) (hc0 : ¬ (255 : Int32) < c0) (hc1 : ¬ (255 : Int32) < c1) :
    MetFree l mN8 (head1 (Jvm.Cond.code mN8 jdk_42_method_149_code 6 none :: ws) ({ frames := 2, cells := 1, slots := 2, locals := 35 } : Room)) (fun aa U => aa = #[(.ref a), (.ref aC), (.int (0 : Int32)), (.int (2 : Int32)), .null] ∧ Z.Warmed39 U.vm ∧ U.heap = h0) (fun _ _ _ _ _ => True) (fun _ u1_ o_ u2_ => ∃ v_ l_, o_ = .returned v_ ∧ QIv22 Z a cs aC kC c0 c1 h0 n0 v_ u2_.heap l_ ∧ FrameEnd u1_ o_ u2_ l_ ({ frames := 2, cells := 1, slots := 2, locals := 35 } : Room).cells ({ frames := 2, cells := 1, slots := 2, locals := 35 } : Room).slots) := by
  refine MetFree.of_bodySF (plainFor_of_name pn_java_lang_String) hisR ?_
  intro p e s m args below meth c s₁ Bd hml0 hP hK
  obtain ⟨rfl, hZ, hh⟩ := hP
  have hx := Bd.exec
  have hby := Bd.bytes
  have hlk := BodyLoose.notSynchronized Bd
  have hret := Bd.returns
  have hml : c.maxLocals = 6 := hml0
  have hown : s.vm.findClass "java/lang/String" = some m.cls := findClass_of_methodNamed Bd.named
  have hnm := (name_of_methodNamed Bd.named Bd.method).1
  have X0 : Stand p l e ({ frames := 2, cells := 1, slots := 2, locals := 35 } : Room) s m #[(.ref a), (.ref aC), (.int (0 : Int32)), (.int (2 : Int32)), .null] below meth c s₁ [] 0 0 := Stand.of_body Bd
  have e0 : s₁.heap = h0 := by rw [← hh, Bd.state]; rfl
  have N0 := Fr.nil n0
  refine Goes.st (E := (EN s (QIv22 Z a cs aC kC c0 c1 h0 n0) ({ frames := 2, cells := 1, slots := 2, locals := 35 } : Room).cells ({ frames := 2, cells := 1, slots := 2, locals := 35 } : Room).slots)) (fun tg kg => castTop (ef_Iv22 m a aC (0 : Int32) (2 : Int32)) kg) ?_
  have K0 : Keep h0 h0 [a] := Keep.refl _ _
  show Gs p e below _ s₁ m 0 #[rv a, rv aC, iv (0 : Int32), iv (2 : Int32), .val .null, .unset] []
  refine galoadN X0 hx (hb hby dj42_149_0) rfl rfl ?_
  obtain ⟨T1, X1, e1, st1⟩ := initO X0 hx hZ hown (hwk hw 15 rfl) (hwk hw 16 rfl) (hwk hw 17 rfl) e0 (g := (mkF m 1 #[rv a, rv aC, iv (0 : Int32), iv (2 : Int32), .val .null, .unset] [(.ref a)])) rfl (by rw [hml]; rfl) rfl (hb hby dj42_149_1) (by decide) (W := 0) (by show 2 * 0 + _ ≤ _; exact Nat.le_of_eq rfl) (by decide)
  refine Goes.st st1 ?_
  show Gs p e below _ T1 m 4 #[rv a, rv aC, iv (0 : Int32), iv (2 : Int32), .val .null, .unset] []
  refine giloadN X1 hx (hb hby dj42_149_4) rfl ?_
  show Gs p e below _ T1 m 5 #[rv a, rv aC, iv (0 : Int32), iv (2 : Int32), .val .null, .unset] [(.int (2 : Int32))]
  refine gifYes X1 hx (pc' := 27) (hb hby dj42_149_5) (by decide) (by decide) (by decide) ?_
  show Gs p e below _ T1 m 27 #[rv a, rv aC, iv (0 : Int32), iv (2 : Int32), .val .null, .unset] []
  obtain ⟨T2, X2, e2, st2⟩ := getS X1 hx hZ hown (host := "") (hwk hw 18 rfl) Via.refl e1 Scs (g := (mkF m 27 #[rv a, rv aC, iv (0 : Int32), iv (2 : Int32), .val .null, .unset] [])) rfl (hb hby dj42_149_27)
  refine Goes.st st2 ?_
  show Gs p e below _ T2 m 30 #[rv a, rv aC, iv (0 : Int32), iv (2 : Int32), .val .null, .unset] [(.int cs)]
  refine gifNo X2 hx (hb hby dj42_149_30) ((if0 _ _).trans (feq hcs).1) ?_
  show Gs p e below _ T2 m 33 #[rv a, rv aC, iv (0 : Int32), iv (2 : Int32), .val .null, .unset] []
  refine galoadN X2 hx (hb hby dj42_149_33) rfl rfl ?_
  refine giloadN X2 hx (hb hby dj42_149_34) rfl ?_
  refine giloadN X2 hx (hb hby dj42_149_35) rfl ?_
  have lt3 : a < h0.size := Ea.lt
  have lt4 : aC < h0.size := VC.lt
  obtain ⟨_, _, ⟨T5, L5, k5, n5⟩, -, X5, ⟨Lc5, hQ5, l5, y5, z5⟩, st5⟩ := Jvm.LawKit.callS X2 hx (y := mN6) hown (mvT hZ (hwk hw 19 rfl)) (mvT hZ (hwk hw 20 rfl)) (mvT hZ (hwk hw 21 rfl)) (mvT hZ (hwk hw 22 rfl)) (by decide) (backOf (W := 0) (rmCx22 l Z a0 hw [] aC kC c0 c1 h0 n0 Z0 Sd Sh Sl VC hc0 hc1) hZ (hwk hw 22 rfl) (hwk hw 21 rfl) (by decide) (by decide)) (g := (mkF m 36 #[rv a, rv aC, iv (0 : Int32), iv (2 : Int32), .val .null, .unset] [(.int (2 : Int32)), (.int (0 : Int32)), (.ref aC)])) rfl (by rw [hml]; rfl) (argsL := [(.ref aC), (.int (0 : Int32)), (.int (2 : Int32))]) (rest := []) (lenOf pd___CII__B_166f rfl) rfl (by show 2 * 0 + _ ≤ _; exact Nat.le_of_eq rfl) (hb hby dj42_149_36) (fun _ _ => ⟨rfl, e2, (by decide : 0 + 1 ≤ 1), (by decide : 0 + 2 ≤ 2)⟩)
  dsimp only [Pt.U, Pt.locs, Pt.cells, Pt.slots] at X5 l5 y5 z5 st5 hQ5
  subst l5 y5 z5
  obtain ⟨b5, kB5, vs5, rfl, N5q, K5, szq5, loq5, V5⟩ := hQ5
  have KK6 := K0.trans K5 all0
  have ne_a_b5 : a ≠ b5 := Nat.ne_of_lt (Nat.lt_of_lt_of_le lt3 szq5)
  have ne_aC_b5 : aC ≠ b5 := Nat.ne_of_lt (Nat.lt_of_lt_of_le lt4 szq5)
  have sz_b5 : h0.size ≤ b5 := by have := KK6.1; have := szq5; omega
  have Z5 : n0 ≤ T5.heap.size := Nat.le_trans Z0 K5.1
  have N5 := Fr.app N0 N5q
  refine Goes.st st5 ?_
  show Gs p e below _ T5 m 39 #[rv a, rv aC, iv (0 : Int32), iv (2 : Int32), .val .null, .unset] [(.ref b5)]
  refine gastore X5 hx (hb hby dj42_149_39) trivial rfl (l' := #[rv a, rv aC, iv (0 : Int32), iv (2 : Int32), .val .null, rv b5]) rfl ?_
  refine galoadN X5 hx (hb hby dj42_149_41) rfl rfl ?_
  refine gaload X5 hx (hb hby dj42_149_42) rfl rfl ?_
  refine giloadN X5 hx (hb hby dj42_149_44) rfl ?_
  obtain ⟨_, _, ⟨T7, L7, k7, n7⟩, -, X7, ⟨Lc7, hQ7, l7, y7, z7⟩, st7⟩ := Jvm.LawKit.callS X5 hx (y := mN7) hown (mvT hZ (hwk hw 27 rfl)) (mvT hZ (hwk hw 28 rfl)) (mvT hZ (hwk hw 21 rfl)) (mvT hZ (hwk hw 29 rfl)) (by decide) (backOf (W := 1) (rmCl22 l Z a0 hw [] b5 kB5 vs5 T5.heap n0 Z5 V5) hZ (hwk hw 29 rfl) (hwk hw 21 rfl) (by decide) (by decide)) (g := (mkF m 45 #[rv a, rv aC, iv (0 : Int32), iv (2 : Int32), .val .null, rv b5] [(.int (2 : Int32)), (.ref b5), (.ref a)])) rfl (by rw [hml]; rfl) (argsL := [(.ref b5), (.int (2 : Int32))]) (rest := [(.ref a)]) (lenOf pd___BI_B_df7 rfl) rfl (by show 2 * 0 + _ ≤ _; exact Nat.le_of_eq rfl) (hb hby dj42_149_45) (fun _ _ => ⟨rfl, rfl, (by decide : 1 + 0 ≤ 1), (by decide : 2 + 0 ≤ 2)⟩)
  dsimp only [Pt.U, Pt.locs, Pt.cells, Pt.slots] at X7 l7 y7 z7 st7 hQ7
  subst l7 y7 z7
  obtain ⟨rfl, N7q, eh7⟩ := hQ7
  have N7 := Fr.app N5 N7q
  refine Goes.st st7 ?_
  show Gs p e below _ T7 m 48 #[rv a, rv aC, iv (0 : Int32), iv (2 : Int32), .val .null, rv b5] [(.int (0 : Int32)), (.ref a)]
  have f9 := (Fc.keep K5 nin0)
  have f10 := (Ea.keep K5)
  obtain ⟨T8, h8, X8, e8, W8, st8⟩ := putFN X7 hx hZ hown (hwk hw 30 rfl) Via.refl eh7 f9 f10 (Or.inr ⟨(hwk hw 31 rfl), rfl, hnm⟩) (hwk hw 5 rfl) (ty := .byte) (v' := (.int (0 : Int32))) (by decide) rfl (by decide) (g := (mkF m 48 #[rv a, rv aC, iv (0 : Int32), iv (2 : Int32), .val .null, rv b5] [(.int (0 : Int32)), (.ref a)])) rfl rfl (hb hby dj42_149_48)
  have N8 := Fr.snoc X8 N7 ga
  have G8 := f9.same W8
  refine Goes.st st8 ?_
  have KK11 := KK6.wr W8 (Or.inl (List.mem_of_getElem? (i := 0) rfl))
  have Z8 : n0 ≤ h8.size := by have := W8.size; have := Z5; omega
  show Gs p e below _ T8 m 51 #[rv a, rv aC, iv (0 : Int32), iv (2 : Int32), .val .null, rv b5] []
  refine galoadN X8 hx (hb hby dj42_149_51) rfl rfl ?_
  refine gaload X8 hx (hb hby dj42_149_52) rfl rfl ?_
  have f13 := ((Fv.keep K5 nin0).other W8 (Or.inr (slot_ne (Or.inr (hwk hw 33 rfl)) (Or.inr (hwk hw 31 rfl)) (by decide) (t := (.array .byte)) (t' := .byte) (by decide) (by decide))))
  have f14 := (f10.wr W8)
  obtain ⟨T12, h12, X12, e12, W12, st12⟩ := putF X8 hx hZ hown (host := "") (Or.inl (hwk hw 32 rfl)) Via.refl e8 f13 f14 (Or.inr ⟨(hwk hw 33 rfl), rfl, hnm⟩) (hwk hw 5 rfl) (ty := (.array .byte)) (by decide) rfl rfl (g := (mkF m 54 #[rv a, rv aC, iv (0 : Int32), iv (2 : Int32), .val .null, rv b5] [(.ref b5), (.ref a)])) rfl rfl (hb hby dj42_149_54)
  have N12 := Fr.snoc X12 N8 ga
  have G12 := f13.same W12
  refine Goes.st st12 ?_
  have KK15 := KK11.wr W12 (Or.inl (List.mem_of_getElem? (i := 0) rfl))
  have Z12 : n0 ≤ h12.size := by have := W12.size; have := Z8; omega
  show Gs p e below _ T12 m 57 #[rv a, rv aC, iv (0 : Int32), iv (2 : Int32), .val .null, rv b5] []
  refine Goes.retV X12 hx hret (hb hby dj42_149_57) (lvN X12 hlk (fun _ => rfl) ?_ (by decide) (by decide))
  rw [e12]
  exact ⟨rfl, N12, KK15⟩
theorem ef_Ic22 (m : MethodId) (x0 : Addr) (x1 : Addr) : entryFrame m #[(.ref x0), (.ref x1)] 2 = mkF m 0 #[rv x0, rv x1] [] := by first | (simp [entryFrame, mkF, argsToLocals, Value.category]; done) | rfl
def QIc22 (Z : State) (a : Addr) (cs : Int32) (aC : Addr) (kC : ClassId) (c0 c1 : Int32) (h0 : Heap) (n0 : Nat) (v : Option Value) (h : Heap) (L : List Loc) : Prop := v = none ∧ Fr n0 L ∧ Keep h0 h [a]
set_option maxRecDepth 65536 in
set_option maxHeartbeats 40000000 in
theorem rmIc22 (l : Launch) (Z : State) (a0 : Array Value) (hw : ∀ d ∈ tables_1, d.before a0 Z = true) (ws : List Jvm.Cond) (a : Addr) (cs : Int32) (aC : Addr) (kC : ClassId) (c0 c1 : Int32) (h0 : Heap) (n0 : Nat) (Z0 : n0 ≤ h0.size) (Scs : Sta Z h0 "java/lang/String" "COMPACT_STRINGS" "Z" (.int cs)) (hcs : ¬ cs = (0 : Int32)) (Sd : Sta Z h0 "java/lang/StringUTF16" "$assertionsDisabled" "Z" (.int (1 : Int32))) (Sh : Sta Z h0 "java/lang/StringUTF16" "HI_BYTE_SHIFT" "I" (.int (0 : Int32))) (Sl : Sta Z h0 "java/lang/StringUTF16" "LO_BYTE_SHIFT" "I" (.int (8 : Int32))) (Ea : Exa Z h0 a "java/lang/String") (ga : n0 ≤ a) (Fv : Fld Z h0 a "java/lang/String" "value" "[B" .null) (Fc : Fld Z h0 a "java/lang/String" "coder" "B" (.int (0 : Int32))) (VC : Arv Z h0 aC kC .char (2 : Int32) [(.int c0), (.int c1)] (.int (0 : Int32))) (naC : a ≠ aC) (hc0 : ¬ (255 : Int32) < c0) (hc1 : ¬ (255 : Int32) < c1) :
    MetFree l mN9 (head1 (Jvm.Cond.code mN9 jdk_42_method_3_code 2 none :: ws) ({ frames := 3, cells := 1, slots := 2, locals := 52 } : Room)) (fun aa U => aa = #[(.ref a), (.ref aC)] ∧ Z.Warmed39 U.vm ∧ U.heap = h0) (fun _ _ _ _ _ => True) (fun _ u1_ o_ u2_ => ∃ v_ l_, o_ = .returned v_ ∧ QIc22 Z a cs aC kC c0 c1 h0 n0 v_ u2_.heap l_ ∧ FrameEnd u1_ o_ u2_ l_ ({ frames := 3, cells := 1, slots := 2, locals := 52 } : Room).cells ({ frames := 3, cells := 1, slots := 2, locals := 52 } : Room).slots) := by
  refine MetFree.of_bodySF (plainFor_of_name pn_java_lang_String) hisR ?_
  intro p e s m args below meth c s₁ Bd hml0 hP hK
  obtain ⟨rfl, hZ, hh⟩ := hP
  have hx := Bd.exec
  have hby := Bd.bytes
  have hlk := BodyLoose.notSynchronized Bd
  have hret := Bd.returns
  have hml : c.maxLocals = 2 := hml0
  have hown : s.vm.findClass "java/lang/String" = some m.cls := findClass_of_methodNamed Bd.named
  have hnm := (name_of_methodNamed Bd.named Bd.method).1
  have X0 : Stand p l e ({ frames := 3, cells := 1, slots := 2, locals := 52 } : Room) s m #[(.ref a), (.ref aC)] below meth c s₁ [] 0 0 := Stand.of_body Bd
  have e0 : s₁.heap = h0 := by rw [← hh, Bd.state]; rfl
  have N0 := Fr.nil n0
  refine Goes.st (E := (EN s (QIc22 Z a cs aC kC c0 c1 h0 n0) ({ frames := 3, cells := 1, slots := 2, locals := 52 } : Room).cells ({ frames := 3, cells := 1, slots := 2, locals := 52 } : Room).slots)) (fun tg kg => castTop (ef_Ic22 m a aC) kg) ?_
  have K0 : Keep h0 h0 [a] := Keep.refl _ _
  show Gs p e below _ s₁ m 0 #[rv a, rv aC] []
  refine galoadN X0 hx (hb hby dj42_3_0) rfl rfl ?_
  refine galoadN X0 hx (hb hby dj42_3_1) rfl rfl ?_
  refine giconst X0 hx (hb hby dj42_3_2) ?_
  refine galoadN X0 hx (hb hby dj42_3_3) rfl rfl ?_
  show Gs p e below _ s₁ m 4 #[rv a, rv aC] [(.ref aC), (.int (0 : Int32)), (.ref aC), (.ref a)]
  obtain ⟨cl1, Ar1, qk1, Sz1, qz1, Ha1, Gf1⟩ := id VC
  refine Goes.st (fun tg kg => X0.arraylength hx (cell := cl1) (by rw [e0]; exact Ar1.1) (State.isArrayOf_alike hZ.alike Ar1.2.1) (g := (mkF m 4 #[rv a, rv aC] [(.ref aC), (.int (0 : Int32)), (.ref aC), (.ref a)])) rfl (rest := [(.int (0 : Int32)), (.ref aC), (.ref a)]) rfl (hb hby dj42_3_4) tg kg) ?_
  rw [len_of Sz1 qz1]
  show Gs p e below _ s₁ m 5 #[rv a, rv aC] [(.int (2 : Int32)), (.int (0 : Int32)), (.ref aC), (.ref a)]
  refine Goes.st (fun tg kg => XS.aconstNull X0.here hx rfl (hb hby dj42_3_5) kg) ?_
  obtain ⟨_, _, ⟨T2, L2, k2, n2⟩, -, X2, ⟨Lc2, hQ2, l2, y2, z2⟩, st2⟩ := X0.specialBack hx (y := mN8) rfl hown (mvT hZ (hwk hw 11 rfl)) (mvT hZ (hwk hw 12 rfl)) (mvT hZ (hwk hw 14 rfl)) (by decide) (backOf (W := 0) (rmIv22 l Z a0 hw [] a cs aC kC c0 c1 h0 n0 Z0 Scs hcs Sd Sh Sl Ea ga Fv Fc VC naC hc0 hc1) hZ (hwk hw 14 rfl) (hwk hw 6 rfl) (by decide) (by decide)) (g := (mkF m 6 #[rv a, rv aC] [.null, (.int (2 : Int32)), (.int (0 : Int32)), (.ref aC), (.ref a)])) rfl (by rw [hml]; rfl) (Steps.refl _) (a := a) (argsL := [(.ref aC), (.int (0 : Int32)), (.int (2 : Int32)), .null]) (rest := []) (lenOf pd___CIILjava_lang_Void__V_897f rfl) rfl (by show 2 * 0 + _ ≤ _; exact Nat.le_of_eq rfl) (hb hby dj42_3_6) (fun _ _ => ⟨rfl, e0, (by decide : 0 + 1 ≤ 1), (by decide : 0 + 2 ≤ 2)⟩)
  dsimp only [Pt.U, Pt.locs, Pt.cells, Pt.slots] at X2 l2 y2 z2 st2 hQ2
  subst l2 y2 z2
  obtain ⟨rfl, N2q, K2⟩ := hQ2
  have KK3 := K0.trans K2 (allS (Or.inl (List.mem_of_getElem? (i := 0) rfl)) all0)
  have Z2 : n0 ≤ T2.heap.size := Nat.le_trans Z0 K2.1
  have N2 := Fr.app N0 N2q
  refine Goes.sts st2 ?_
  show Gs p e below _ T2 m 9 #[rv a, rv aC] []
  refine Goes.retV X2 hx hret (hb hby dj42_3_9) (lvN X2 hlk (fun _ => rfl) ?_ (by decide) (by decide))
  exact ⟨rfl, N2, KK3⟩
theorem ef_Nl3 (m : MethodId) (x0 : Int32) : entryFrame m #[(.int x0)] 1 = mkF m 0 #[iv x0] [] := by first | (simp [entryFrame, mkF, argsToLocals, Value.category]; done) | rfl
def QNl3 (Z : State) (zz : Unit) (h0 : Heap) (n0 : Nat) (v : Option Value) (h : Heap) (L : List Loc) : Prop := v = some (.int (6 : Int32)) ∧ Fr n0 L ∧ h = h0
set_option maxRecDepth 65536 in
set_option maxHeartbeats 40000000 in
theorem rmNl3 (l : Launch) (Z : State) (a0 : Array Value) (hw : ∀ d ∈ tables_1, d.before a0 Z = true) (ws : List Jvm.Cond) (zz : Unit) (h0 : Heap) (n0 : Nat) (Z0 : n0 ≤ h0.size)  :
    MetFree l mN0 (head1 (Jvm.Cond.code mN0 jdk_52_method_3_code 1 (some .int) :: ws) ({ frames := 0, cells := 0, slots := 0, locals := 0 } : Room)) (fun aa U => aa = #[(.int (3 : Int32))] ∧ Z.Warmed39 U.vm ∧ U.heap = h0) (fun _ _ _ _ _ => True) (fun _ u1_ o_ u2_ => ∃ v_ l_, o_ = .returned v_ ∧ QNl3 Z zz h0 n0 v_ u2_.heap l_ ∧ FrameEnd u1_ o_ u2_ l_ ({ frames := 0, cells := 0, slots := 0, locals := 0 } : Room).cells ({ frames := 0, cells := 0, slots := 0, locals := 0 } : Room).slots) := by
  refine MetFree.of_bodySF (plainFor_of_name pn_java_lang_StringUTF16) hisR ?_
  intro p e s m args below meth c s₁ Bd hml0 hP hK
  obtain ⟨rfl, hZ, hh⟩ := hP
  have hx := Bd.exec
  have hby := Bd.bytes
  have hlk := BodyLoose.notSynchronized Bd
  have hret := Bd.returns
  have hml : c.maxLocals = 1 := hml0
  have hown : s.vm.findClass "java/lang/StringUTF16" = some m.cls := findClass_of_methodNamed Bd.named
  have hnm := (name_of_methodNamed Bd.named Bd.method).1
  have X0 : Stand p l e ({ frames := 0, cells := 0, slots := 0, locals := 0 } : Room) s m #[(.int (3 : Int32))] below meth c s₁ [] 0 0 := Stand.of_body Bd
  have e0 : s₁.heap = h0 := by rw [← hh, Bd.state]; rfl
  have N0 := Fr.nil n0
  refine Goes.st (E := (EN s (QNl3 Z zz h0 n0) ({ frames := 0, cells := 0, slots := 0, locals := 0 } : Room).cells ({ frames := 0, cells := 0, slots := 0, locals := 0 } : Room).slots)) (fun tg kg => castTop (ef_Nl3 m (3 : Int32)) kg) ?_
  show Gs p e below _ s₁ m 0 #[iv (3 : Int32)] []
  refine giloadN X0 hx (hb hby dj52_3_0) rfl ?_
  show Gs p e below _ s₁ m 1 #[iv (3 : Int32)] [(.int (3 : Int32))]
  refine gifYes X0 hx (pc' := 12) (hb hby dj52_3_1) (by decide) (by decide) (by decide) ?_
  show Gs p e below _ s₁ m 12 #[iv (3 : Int32)] []
  refine giloadN X0 hx (hb hby dj52_3_12) rfl ?_
  show Gs p e below _ s₁ m 13 #[iv (3 : Int32)] [(.int (3 : Int32))]
  refine Goes.st (fun tg kg => X0.ldcInt hx hown (mvT hZ (hwk hw 84 rfl)) (g := (mkF m 13 #[iv (3 : Int32)] [(.int (3 : Int32))])) rfl (hb hby dj52_3_13) tg kg) ?_
  show Gs p e below _ s₁ m 15 #[iv (3 : Int32)] [(.int (1073741823 : Int32)), (.int (3 : Int32))]
  refine gicmpYes X0 hx (pc' := 55) (hb hby dj52_3_15) (by decide) (by decide) (by decide) ?_
  show Gs p e below _ s₁ m 55 #[iv (3 : Int32)] []
  refine giloadN X0 hx (hb hby dj52_3_55) rfl ?_
  refine giconst X0 hx (hb hby dj52_3_56) ?_
  show Gs p e below _ s₁ m 57 #[iv (3 : Int32)] [(.int (1 : Int32)), (.int (3 : Int32))]
  refine Goes.st (fun tg kg => XT.ishl X0.here hx rfl (hb hby dj52_3_57) rfl kg) ?_
  show Gs p e below _ s₁ m 58 #[iv (3 : Int32)] [(.int ((3 : Int32) <<< ((1 : Int32) &&& 31)))]
  rw [show ((3 : Int32) <<< ((1 : Int32) &&& 31)) = (6 : Int32) from by decide]
  show Gs p e below _ s₁ m 58 #[iv (3 : Int32)] [(.int (6 : Int32))]
  refine Goes.retI X0 hx hret (hb hby dj52_3_58) (lvN X0 hlk (vsome hret) ?_ (by decide) (by decide))
  rw [e0]
  exact ⟨rfl, N0, rfl⟩
theorem ef_Nf3 (m : MethodId) (x0 : Int32) : entryFrame m #[(.int x0)] 1 = mkF m 0 #[iv x0] [] := by first | (simp [entryFrame, mkF, argsToLocals, Value.category]; done) | rfl
def QNf3 (Z : State) (zz : Unit) (h0 : Heap) (n0 : Nat) (v : Option Value) (h : Heap) (L : List Loc) : Prop := ∃ (b : Addr) (kB : ClassId), v = some (.ref b) ∧ Fr n0 L ∧ Keep h0 h [] ∧ h0.size ≤ b ∧ n0 ≤ b ∧ Arv Z h b kB .byte (6 : Int32) [(.int (0 : Int32)), (.int (0 : Int32)), (.int (0 : Int32)), (.int (0 : Int32)), (.int (0 : Int32)), (.int (0 : Int32))] (.int (0 : Int32))
set_option maxRecDepth 65536 in
set_option maxHeartbeats 40000000 in
theorem rmNf3 (l : Launch) (Z : State) (a0 : Array Value) (hw : ∀ d ∈ tables_1, d.before a0 Z = true) (ws : List Jvm.Cond) (zz : Unit) (h0 : Heap) (n0 : Nat) (Z0 : n0 ≤ h0.size)  :
    MetFree l mN1 (head1 (Jvm.Cond.code mN1 jdk_52_method_2_code 1 (some (.array .byte)) :: ws) ({ frames := 1, cells := 1, slots := 6, locals := 12 } : Room)) (fun aa U => aa = #[(.int (3 : Int32))] ∧ Z.Warmed39 U.vm ∧ U.heap = h0) (fun _ _ _ _ _ => True) (fun _ u1_ o_ u2_ => ∃ v_ l_, o_ = .returned v_ ∧ QNf3 Z zz h0 n0 v_ u2_.heap l_ ∧ FrameEnd u1_ o_ u2_ l_ ({ frames := 1, cells := 1, slots := 6, locals := 12 } : Room).cells ({ frames := 1, cells := 1, slots := 6, locals := 12 } : Room).slots) := by
  refine MetFree.of_bodySF (plainFor_of_name pn_java_lang_StringUTF16) hisR ?_
  intro p e s m args below meth c s₁ Bd hml0 hP hK
  obtain ⟨rfl, hZ, hh⟩ := hP
  have hx := Bd.exec
  have hby := Bd.bytes
  have hlk := BodyLoose.notSynchronized Bd
  have hret := Bd.returns
  have hml : c.maxLocals = 1 := hml0
  have hown : s.vm.findClass "java/lang/StringUTF16" = some m.cls := findClass_of_methodNamed Bd.named
  have hnm := (name_of_methodNamed Bd.named Bd.method).1
  have X0 : Stand p l e ({ frames := 1, cells := 1, slots := 6, locals := 12 } : Room) s m #[(.int (3 : Int32))] below meth c s₁ [] 0 0 := Stand.of_body Bd
  have e0 : s₁.heap = h0 := by rw [← hh, Bd.state]; rfl
  have N0 := Fr.nil n0
  refine Goes.st (E := (EN s (QNf3 Z zz h0 n0) ({ frames := 1, cells := 1, slots := 6, locals := 12 } : Room).cells ({ frames := 1, cells := 1, slots := 6, locals := 12 } : Room).slots)) (fun tg kg => castTop (ef_Nf3 m (3 : Int32)) kg) ?_
  have K0 : Keep h0 h0 [] := Keep.refl _ _
  show Gs p e below _ s₁ m 0 #[iv (3 : Int32)] []
  refine giloadN X0 hx (hb hby dj52_2_0) rfl ?_
  obtain ⟨_, _, ⟨T1, L1, k1, n1⟩, -, X1, ⟨Lc1, hQ1, l1, y1, z1⟩, st1⟩ := Jvm.LawKit.callS X0 hx (y := mN0) hown (mvT hZ (hwk hw 81 rfl)) (mvT hZ (hwk hw 82 rfl)) (mvT hZ (hwk hw 21 rfl)) (mvT hZ (hwk hw 83 rfl)) (by decide) (backOf (W := 0) (rmNl3 l Z a0 hw [] () h0 n0 Z0 ) hZ (hwk hw 83 rfl) (hwk hw 21 rfl) (by decide) (by decide)) (g := (mkF m 1 #[iv (3 : Int32)] [(.int (3 : Int32))])) rfl (by rw [hml]; rfl) (argsL := [(.int (3 : Int32))]) (rest := []) (lenOf pd__I_I_7ab rfl) rfl (by show 2 * 0 + _ ≤ _; exact Nat.le_of_eq rfl) (hb hby dj52_2_1) (fun _ _ => ⟨rfl, e0, (by decide : 0 + 0 ≤ 1), (by decide : 0 + 0 ≤ 6)⟩)
  dsimp only [Pt.U, Pt.locs, Pt.cells, Pt.slots] at X1 l1 y1 z1 st1 hQ1
  subst l1 y1 z1
  obtain ⟨rfl, N1q, eh1⟩ := hQ1
  have N1 := Fr.app N0 N1q
  refine Goes.st st1 ?_
  show Gs p e below _ T1 m 4 #[iv (3 : Int32)] [(.int (6 : Int32))]
  obtain ⟨T2, h2, cA2, X2, e2, E2, A2, st2⟩ := newP X1 hx hZ (hwk hw 23 rfl) eh1 (g := (mkF m 4 #[iv (3 : Int32)] [(.int (6 : Int32))])) rfl (hb hby dj52_2_4) rfl (by decide) (cap := 6) (by decide) (by decide) (by decide) (by decide)
  obtain ⟨b2, g2⟩ : ∃ z, z = h0.size := ⟨_, rfl⟩
  rw [← g2] at A2 st2
  have lo_b2 : n0 ≤ b2 := by have := Z0; omega
  have sz_b2 : h0.size ≤ b2 := by have := K0.1; omega
  have KK3 := K0.ext E2
  have V2 : Arv Z h2 b2 cA2 .byte (6 : Int32) [(.int (0 : Int32)), (.int (0 : Int32)), (.int (0 : Int32)), (.int (0 : Int32)), (.int (0 : Int32)), (.int (0 : Int32))] (.int (0 : Int32)) := (Arv.new A2 (by decide)).pad (pad_rep [] _ 6)
  refine Goes.st st2 ?_
  have Z2 : n0 ≤ h2.size := Nat.le_trans Z0 E2.1
  show Gs p e below _ T2 m 6 #[iv (3 : Int32)] [(.ref b2)]
  refine Goes.retA X2 hx hret rfl rfl rfl (hb hby dj52_2_6) (lvN X2 hlk (vsome hret) ?_ (by decide) (by decide))
  rw [e2]
  exact ⟨b2, cA2, rfl, N1, KK3, sz_b2, lo_b2, V2⟩
theorem ef_Pc30 (m : MethodId) (x0 : Addr) (x1 : Int32) (x2 : Int32) : entryFrame m #[(.ref x0), (.int x1), (.int x2)] 3 = mkF m 0 #[rv x0, iv x1, iv x2] [] := by first | (simp [entryFrame, mkF, argsToLocals, Value.category]; done) | rfl
def QPc30 (Z : State) (aB : Addr) (kB : ClassId) (cc w0 w1 w2 w3 w4 w5 : Int32) (h0 : Heap) (n0 : Nat) (v : Option Value) (h : Heap) (L : List Loc) : Prop := v = none ∧ Fr n0 L ∧ Keep h0 h [aB] ∧ Arv Z h aB kB .byte (6 : Int32) [(.int (nar .byte (cc >>> ((0 : Int32) &&& 31)).toInt8.toInt32)), (.int (nar .byte (cc >>> ((8 : Int32) &&& 31)).toInt8.toInt32)), (.int w2), (.int w3), (.int w4), (.int w5)] (.int (0 : Int32))
set_option maxRecDepth 65536 in
set_option maxHeartbeats 40000000 in
theorem rmPc30 (l : Launch) (Z : State) (a0 : Array Value) (hw : ∀ d ∈ tables_1, d.before a0 Z = true) (ws : List Jvm.Cond) (aB : Addr) (kB : ClassId) (cc w0 w1 w2 w3 w4 w5 : Int32) (h0 : Heap) (n0 : Nat) (Z0 : n0 ≤ h0.size) (Sd : Sta Z h0 "java/lang/StringUTF16" "$assertionsDisabled" "Z" (.int (1 : Int32))) (Sh : Sta Z h0 "java/lang/StringUTF16" "HI_BYTE_SHIFT" "I" (.int (0 : Int32))) (Sl : Sta Z h0 "java/lang/StringUTF16" "LO_BYTE_SHIFT" "I" (.int (8 : Int32))) (lB : n0 ≤ aB) (VB : Arv Z h0 aB kB .byte (6 : Int32) [(.int w0), (.int w1), (.int w2), (.int w3), (.int w4), (.int w5)] (.int (0 : Int32))) :
    MetFree l mN2 (head1 (Jvm.Cond.code mN2 jdk_52_method_4_code 3 none :: ws) ({ frames := 0, cells := 0, slots := 0, locals := 0 } : Room)) (fun aa U => aa = #[(.ref aB), (.int (0 : Int32)), (.int cc)] ∧ Z.Warmed39 U.vm ∧ U.heap = h0) (fun _ _ _ _ _ => True) (fun _ u1_ o_ u2_ => ∃ v_ l_, o_ = .returned v_ ∧ QPc30 Z aB kB cc w0 w1 w2 w3 w4 w5 h0 n0 v_ u2_.heap l_ ∧ FrameEnd u1_ o_ u2_ l_ ({ frames := 0, cells := 0, slots := 0, locals := 0 } : Room).cells ({ frames := 0, cells := 0, slots := 0, locals := 0 } : Room).slots) := by
  refine MetFree.of_bodySF (plainFor_of_name pn_java_lang_StringUTF16) hisR ?_
  intro p e s m args below meth c s₁ Bd hml0 hP hK
  obtain ⟨rfl, hZ, hh⟩ := hP
  have hx := Bd.exec
  have hby := Bd.bytes
  have hlk := BodyLoose.notSynchronized Bd
  have hret := Bd.returns
  have hml : c.maxLocals = 3 := hml0
  have hown : s.vm.findClass "java/lang/StringUTF16" = some m.cls := findClass_of_methodNamed Bd.named
  have hnm := (name_of_methodNamed Bd.named Bd.method).1
  have X0 : Stand p l e ({ frames := 0, cells := 0, slots := 0, locals := 0 } : Room) s m #[(.ref aB), (.int (0 : Int32)), (.int cc)] below meth c s₁ [] 0 0 := Stand.of_body Bd
  have e0 : s₁.heap = h0 := by rw [← hh, Bd.state]; rfl
  have N0 := Fr.nil n0
  refine Goes.st (E := (EN s (QPc30 Z aB kB cc w0 w1 w2 w3 w4 w5 h0 n0) ({ frames := 0, cells := 0, slots := 0, locals := 0 } : Room).cells ({ frames := 0, cells := 0, slots := 0, locals := 0 } : Room).slots)) (fun tg kg => castTop (ef_Pc30 m aB (0 : Int32) cc) kg) ?_
  have K0 : Keep h0 h0 [aB] := Keep.refl _ _
  show Gs p e below _ s₁ m 0 #[rv aB, iv (0 : Int32), iv cc] []
  obtain ⟨T1, X1, e1, st1⟩ := getS X0 hx hZ hown (host := "") (hwk hw 88 rfl) Via.refl e0 Sd (g := (mkF m 0 #[rv aB, iv (0 : Int32), iv cc] [])) rfl (hb hby dj52_4_0)
  refine Goes.st st1 ?_
  show Gs p e below _ T1 m 3 #[rv aB, iv (0 : Int32), iv cc] [(.int (1 : Int32))]
  refine gifYes X1 hx (pc' := 28) (hb hby dj52_4_3) (by decide) (by decide) (by decide) ?_
  show Gs p e below _ T1 m 28 #[rv aB, iv (0 : Int32), iv cc] []
  refine giloadN X1 hx (hb hby dj52_4_28) rfl ?_
  refine giconst X1 hx (hb hby dj52_4_29) ?_
  show Gs p e below _ T1 m 30 #[rv aB, iv (0 : Int32), iv cc] [(.int (1 : Int32)), (.int (0 : Int32))]
  refine Goes.st (fun tg kg => XT.ishl X1.here hx rfl (hb hby dj52_4_30) rfl kg) ?_
  show Gs p e below _ T1 m 31 #[rv aB, iv (0 : Int32), iv cc] [(.int ((0 : Int32) <<< ((1 : Int32) &&& 31)))]
  rw [show ((0 : Int32) <<< ((1 : Int32) &&& 31)) = (0 : Int32) from by decide]
  show Gs p e below _ T1 m 31 #[rv aB, iv (0 : Int32), iv cc] [(.int (0 : Int32))]
  refine gistoreN X1 hx (hb hby dj52_4_31) trivial (l' := #[rv aB, iv (0 : Int32), iv cc]) rfl ?_
  refine galoadN X1 hx (hb hby dj52_4_32) rfl rfl ?_
  refine giloadN X1 hx (hb hby dj52_4_33) rfl ?_
  refine Goes.st (fun tg kg => XS.iinc X1.here hx rfl (hb hby dj52_4_34) rfl (l' := #[rv aB, iv (1 : Int32), iv cc]) rfl kg) ?_
  refine giloadN X1 hx (hb hby dj52_4_37) rfl ?_
  show Gs p e below _ T1 m 38 #[rv aB, iv (1 : Int32), iv cc] [(.int cc), (.int (0 : Int32)), (.ref aB)]
  obtain ⟨T2, X2, e2, st2⟩ := getS X1 hx hZ hown (host := "") (hwk hw 89 rfl) Via.refl e1 Sh (g := (mkF m 38 #[rv aB, iv (1 : Int32), iv cc] [(.int cc), (.int (0 : Int32)), (.ref aB)])) rfl (hb hby dj52_4_38)
  refine Goes.st st2 ?_
  show Gs p e below _ T2 m 41 #[rv aB, iv (1 : Int32), iv cc] [(.int (0 : Int32)), (.int cc), (.int (0 : Int32)), (.ref aB)]
  refine Goes.st (fun tg kg => XT.ishr X2.here hx rfl (hb hby dj52_4_41) rfl kg) ?_
  show Gs p e below _ T2 m 42 #[rv aB, iv (1 : Int32), iv cc] [(.int (cc >>> ((0 : Int32) &&& 31))), (.int (0 : Int32)), (.ref aB)]
  refine Goes.st (fun tg kg => XT.i2b X2.here hx rfl (hb hby dj52_4_42) rfl kg) ?_
  show Gs p e below _ T2 m 43 #[rv aB, iv (1 : Int32), iv cc] [(.int ((cc >>> ((0 : Int32) &&& 31))).toInt8.toInt32), (.int (0 : Int32)), (.ref aB)]
  obtain ⟨cl3, Ar3, qk3, Sz3, qz3, Ha3, Gf3⟩ := id VB
  obtain ⟨T3, h3, X3, e3, W3, st3⟩ := stB X2 hx hZ e2 Ar3 (inb_of Sz3 ⟨by decide, by decide⟩) (g := (mkF m 43 #[rv aB, iv (1 : Int32), iv cc] [(.int ((cc >>> ((0 : Int32) &&& 31))).toInt8.toInt32), (.int (0 : Int32)), (.ref aB)])) rfl rfl (hb hby dj52_4_43)
  have N3 := Fr.snoc X3 N0 lB
  have V3 : Arv Z h3 aB kB .byte (6 : Int32) [(.int (nar .byte ((cc >>> ((0 : Int32) &&& 31))).toInt8.toInt32)), (.int w1), (.int w2), (.int w3), (.int w4), (.int w5)] (.int (0 : Int32)) := Arv.set Ar3 qk3 Sz3 qz3 Ha3 Gf3 (fits_nar_byte _) W3 0 (by decide) (by simp)
  refine Goes.st st3 ?_
  have KK4 := K0.wr W3 (Or.inl (List.mem_of_getElem? (i := 0) rfl))
  have Z3 : n0 ≤ h3.size := by have := W3.size; have := Z0; omega
  show Gs p e below _ T3 m 44 #[rv aB, iv (1 : Int32), iv cc] []
  refine galoadN X3 hx (hb hby dj52_4_44) rfl rfl ?_
  refine giloadN X3 hx (hb hby dj52_4_45) rfl ?_
  refine giloadN X3 hx (hb hby dj52_4_46) rfl ?_
  have f6 := (Sl.wr W3)
  obtain ⟨T5, X5, e5, st5⟩ := getS X3 hx hZ hown (host := "") (hwk hw 90 rfl) Via.refl e3 f6 (g := (mkF m 47 #[rv aB, iv (1 : Int32), iv cc] [(.int cc), (.int (1 : Int32)), (.ref aB)])) rfl (hb hby dj52_4_47)
  refine Goes.st st5 ?_
  show Gs p e below _ T5 m 50 #[rv aB, iv (1 : Int32), iv cc] [(.int (8 : Int32)), (.int cc), (.int (1 : Int32)), (.ref aB)]
  refine Goes.st (fun tg kg => XT.ishr X5.here hx rfl (hb hby dj52_4_50) rfl kg) ?_
  show Gs p e below _ T5 m 51 #[rv aB, iv (1 : Int32), iv cc] [(.int (cc >>> ((8 : Int32) &&& 31))), (.int (1 : Int32)), (.ref aB)]
  refine Goes.st (fun tg kg => XT.i2b X5.here hx rfl (hb hby dj52_4_51) rfl kg) ?_
  show Gs p e below _ T5 m 52 #[rv aB, iv (1 : Int32), iv cc] [(.int ((cc >>> ((8 : Int32) &&& 31))).toInt8.toInt32), (.int (1 : Int32)), (.ref aB)]
  obtain ⟨cl7, Ar7, qk7, Sz7, qz7, Ha7, Gf7⟩ := id V3
  obtain ⟨T7, h7, X7, e7, W7, st7⟩ := stB X5 hx hZ e5 Ar7 (inb_of Sz7 ⟨by decide, by decide⟩) (g := (mkF m 52 #[rv aB, iv (1 : Int32), iv cc] [(.int ((cc >>> ((8 : Int32) &&& 31))).toInt8.toInt32), (.int (1 : Int32)), (.ref aB)])) rfl rfl (hb hby dj52_4_52)
  have N7 := Fr.snoc X7 N3 lB
  have V7 : Arv Z h7 aB kB .byte (6 : Int32) [(.int (nar .byte ((cc >>> ((0 : Int32) &&& 31))).toInt8.toInt32)), (.int (nar .byte ((cc >>> ((8 : Int32) &&& 31))).toInt8.toInt32)), (.int w2), (.int w3), (.int w4), (.int w5)] (.int (0 : Int32)) := Arv.set Ar7 qk7 Sz7 qz7 Ha7 Gf7 (fits_nar_byte _) W7 1 (by decide) (by simp)
  refine Goes.st st7 ?_
  have KK8 := KK4.wr W7 (Or.inl (List.mem_of_getElem? (i := 0) rfl))
  have Z7 : n0 ≤ h7.size := by have := W7.size; have := Z3; omega
  show Gs p e below _ T7 m 53 #[rv aB, iv (1 : Int32), iv cc] []
  refine Goes.retV X7 hx hret (hb hby dj52_4_53) (lvN X7 hlk (fun _ => rfl) ?_ (by decide) (by decide))
  rw [e7]
  exact ⟨rfl, N7, KK8, V7⟩
theorem ef_Gc30 (m : MethodId) (x0 : Addr) (x1 : Int32) : entryFrame m #[(.ref x0), (.int x1)] 2 = mkF m 0 #[rv x0, iv x1] [] := by first | (simp [entryFrame, mkF, argsToLocals, Value.category]; done) | rfl
def QGc30 (Z : State) (aB : Addr) (kB : ClassId) (w0 w1 w2 w3 w4 w5 : Int32) (h0 : Heap) (n0 : Nat) (v : Option Value) (h : Heap) (L : List Loc) : Prop := v = some (.int (gC w0 w1)) ∧ Fr n0 L ∧ h = h0
set_option maxRecDepth 65536 in
set_option maxHeartbeats 40000000 in
theorem rmGc30 (l : Launch) (Z : State) (a0 : Array Value) (hw : ∀ d ∈ tables_1, d.before a0 Z = true) (ws : List Jvm.Cond) (aB : Addr) (kB : ClassId) (w0 w1 w2 w3 w4 w5 : Int32) (h0 : Heap) (n0 : Nat) (Z0 : n0 ≤ h0.size) (Sd : Sta Z h0 "java/lang/StringUTF16" "$assertionsDisabled" "Z" (.int (1 : Int32))) (Sh : Sta Z h0 "java/lang/StringUTF16" "HI_BYTE_SHIFT" "I" (.int (0 : Int32))) (Sl : Sta Z h0 "java/lang/StringUTF16" "LO_BYTE_SHIFT" "I" (.int (8 : Int32))) (VB : Arv Z h0 aB kB .byte (6 : Int32) [(.int w0), (.int w1), (.int w2), (.int w3), (.int w4), (.int w5)] (.int (0 : Int32))) :
    MetFree l mN3 (head1 (Jvm.Cond.code mN3 jdk_52_method_5_code 2 (some .char) :: ws) ({ frames := 0, cells := 0, slots := 0, locals := 0 } : Room)) (fun aa U => aa = #[(.ref aB), (.int (0 : Int32))] ∧ Z.Warmed39 U.vm ∧ U.heap = h0) (fun _ _ _ _ _ => True) (fun _ u1_ o_ u2_ => ∃ v_ l_, o_ = .returned v_ ∧ QGc30 Z aB kB w0 w1 w2 w3 w4 w5 h0 n0 v_ u2_.heap l_ ∧ FrameEnd u1_ o_ u2_ l_ ({ frames := 0, cells := 0, slots := 0, locals := 0 } : Room).cells ({ frames := 0, cells := 0, slots := 0, locals := 0 } : Room).slots) := by
  refine MetFree.of_bodySF (plainFor_of_name pn_java_lang_StringUTF16) hisR ?_
  intro p e s m args below meth c s₁ Bd hml0 hP hK
  obtain ⟨rfl, hZ, hh⟩ := hP
  have hx := Bd.exec
  have hby := Bd.bytes
  have hlk := BodyLoose.notSynchronized Bd
  have hret := Bd.returns
  have hml : c.maxLocals = 2 := hml0
  have hown : s.vm.findClass "java/lang/StringUTF16" = some m.cls := findClass_of_methodNamed Bd.named
  have hnm := (name_of_methodNamed Bd.named Bd.method).1
  have X0 : Stand p l e ({ frames := 0, cells := 0, slots := 0, locals := 0 } : Room) s m #[(.ref aB), (.int (0 : Int32))] below meth c s₁ [] 0 0 := Stand.of_body Bd
  have e0 : s₁.heap = h0 := by rw [← hh, Bd.state]; rfl
  have N0 := Fr.nil n0
  refine Goes.st (E := (EN s (QGc30 Z aB kB w0 w1 w2 w3 w4 w5 h0 n0) ({ frames := 0, cells := 0, slots := 0, locals := 0 } : Room).cells ({ frames := 0, cells := 0, slots := 0, locals := 0 } : Room).slots)) (fun tg kg => castTop (ef_Gc30 m aB (0 : Int32)) kg) ?_
  show Gs p e below _ s₁ m 0 #[rv aB, iv (0 : Int32)] []
  obtain ⟨T1, X1, e1, st1⟩ := getS X0 hx hZ hown (host := "") (hwk hw 88 rfl) Via.refl e0 Sd (g := (mkF m 0 #[rv aB, iv (0 : Int32)] [])) rfl (hb hby dj52_5_0)
  refine Goes.st st1 ?_
  show Gs p e below _ T1 m 3 #[rv aB, iv (0 : Int32)] [(.int (1 : Int32))]
  refine gifYes X1 hx (pc' := 28) (hb hby dj52_5_3) (by decide) (by decide) (by decide) ?_
  show Gs p e below _ T1 m 28 #[rv aB, iv (0 : Int32)] []
  refine giloadN X1 hx (hb hby dj52_5_28) rfl ?_
  refine giconst X1 hx (hb hby dj52_5_29) ?_
  show Gs p e below _ T1 m 30 #[rv aB, iv (0 : Int32)] [(.int (1 : Int32)), (.int (0 : Int32))]
  refine Goes.st (fun tg kg => XT.ishl X1.here hx rfl (hb hby dj52_5_30) rfl kg) ?_
  show Gs p e below _ T1 m 31 #[rv aB, iv (0 : Int32)] [(.int ((0 : Int32) <<< ((1 : Int32) &&& 31)))]
  rw [show ((0 : Int32) <<< ((1 : Int32) &&& 31)) = (0 : Int32) from by decide]
  show Gs p e below _ T1 m 31 #[rv aB, iv (0 : Int32)] [(.int (0 : Int32))]
  refine gistoreN X1 hx (hb hby dj52_5_31) trivial (l' := #[rv aB, iv (0 : Int32)]) rfl ?_
  refine galoadN X1 hx (hb hby dj52_5_32) rfl rfl ?_
  refine giloadN X1 hx (hb hby dj52_5_33) rfl ?_
  refine Goes.st (fun tg kg => XS.iinc X1.here hx rfl (hb hby dj52_5_34) rfl (l' := #[rv aB, iv (1 : Int32)]) rfl kg) ?_
  show Gs p e below _ T1 m 37 #[rv aB, iv (1 : Int32)] [(.int (0 : Int32)), (.ref aB)]
  obtain ⟨cl2, Ar2, qk2, Sz2, qz2, Ha2, Gf2⟩ := id VB
  have in2 := inb_of (j := (0 : Int32)) Sz2 ⟨by decide, by decide⟩
  refine Goes.st (fun tg kg => X1.baloadBytes hx (j := (0 : Int32)) (v := (.int w0)) (by rw [e1]; exact Ar2.1) (State.isArrayOf_alike hZ.alike Ar2.2.1) Ar2.2.2 in2 (Ha2.at in2 rfl) (g := (mkF m 37 #[rv aB, iv (1 : Int32)] [(.int (0 : Int32)), (.ref aB)])) rfl rfl (hb hby dj52_5_37) tg kg) ?_
  show Gs p e below _ T1 m 38 #[rv aB, iv (1 : Int32)] [(.int w0)]
  refine Goes.st (fun tg kg => XS.sipush X1.here hx rfl (hb hby dj52_5_38) kg) ?_
  refine giand X1 hx (hb hby dj52_5_41) trivial ?_
  obtain ⟨T3, X3, e3, st3⟩ := getS X1 hx hZ hown (host := "") (hwk hw 89 rfl) Via.refl e1 Sh (g := (mkF m 42 #[rv aB, iv (1 : Int32)] [(.int (w0 &&& (255 : Int32)))])) rfl (hb hby dj52_5_42)
  refine Goes.st st3 ?_
  show Gs p e below _ T3 m 45 #[rv aB, iv (1 : Int32)] [(.int (0 : Int32)), (.int (w0 &&& (255 : Int32)))]
  refine Goes.st (fun tg kg => XT.ishl X3.here hx rfl (hb hby dj52_5_45) rfl kg) ?_
  show Gs p e below _ T3 m 46 #[rv aB, iv (1 : Int32)] [(.int ((w0 &&& (255 : Int32)) <<< ((0 : Int32) &&& 31)))]
  refine galoadN X3 hx (hb hby dj52_5_46) rfl rfl ?_
  refine giloadN X3 hx (hb hby dj52_5_47) rfl ?_
  show Gs p e below _ T3 m 48 #[rv aB, iv (1 : Int32)] [(.int (1 : Int32)), (.ref aB), (.int ((w0 &&& (255 : Int32)) <<< ((0 : Int32) &&& 31)))]
  obtain ⟨cl4, Ar4, qk4, Sz4, qz4, Ha4, Gf4⟩ := id VB
  have in4 := inb_of (j := (1 : Int32)) Sz4 ⟨by decide, by decide⟩
  refine Goes.st (fun tg kg => X3.baloadBytes hx (j := (1 : Int32)) (v := (.int w1)) (by rw [e3]; exact Ar4.1) (State.isArrayOf_alike hZ.alike Ar4.2.1) Ar4.2.2 in4 (Ha4.at in4 rfl) (g := (mkF m 48 #[rv aB, iv (1 : Int32)] [(.int (1 : Int32)), (.ref aB), (.int ((w0 &&& (255 : Int32)) <<< ((0 : Int32) &&& 31)))])) rfl rfl (hb hby dj52_5_48) tg kg) ?_
  show Gs p e below _ T3 m 49 #[rv aB, iv (1 : Int32)] [(.int w1), (.int ((w0 &&& (255 : Int32)) <<< ((0 : Int32) &&& 31)))]
  refine Goes.st (fun tg kg => XS.sipush X3.here hx rfl (hb hby dj52_5_49) kg) ?_
  refine giand X3 hx (hb hby dj52_5_52) trivial ?_
  obtain ⟨T5, X5, e5, st5⟩ := getS X3 hx hZ hown (host := "") (hwk hw 90 rfl) Via.refl e3 Sl (g := (mkF m 53 #[rv aB, iv (1 : Int32)] [(.int (w1 &&& (255 : Int32))), (.int ((w0 &&& (255 : Int32)) <<< ((0 : Int32) &&& 31)))])) rfl (hb hby dj52_5_53)
  refine Goes.st st5 ?_
  show Gs p e below _ T5 m 56 #[rv aB, iv (1 : Int32)] [(.int (8 : Int32)), (.int (w1 &&& (255 : Int32))), (.int ((w0 &&& (255 : Int32)) <<< ((0 : Int32) &&& 31)))]
  refine Goes.st (fun tg kg => XT.ishl X5.here hx rfl (hb hby dj52_5_56) rfl kg) ?_
  show Gs p e below _ T5 m 57 #[rv aB, iv (1 : Int32)] [(.int ((w1 &&& (255 : Int32)) <<< ((8 : Int32) &&& 31))), (.int ((w0 &&& (255 : Int32)) <<< ((0 : Int32) &&& 31)))]
  refine Goes.st (fun tg kg => XT.ior X5.here hx rfl (hb hby dj52_5_57) rfl kg) ?_
  show Gs p e below _ T5 m 58 #[rv aB, iv (1 : Int32)] [(.int (((w0 &&& (255 : Int32)) <<< ((0 : Int32) &&& 31)) ||| ((w1 &&& (255 : Int32)) <<< ((8 : Int32) &&& 31))))]
  refine Goes.st (fun tg kg => XT.i2c X5.here hx rfl (hb hby dj52_5_58) rfl kg) ?_
  show Gs p e below _ T5 m 59 #[rv aB, iv (1 : Int32)] [(.int ((((w0 &&& (255 : Int32)) <<< ((0 : Int32) &&& 31)) ||| ((w1 &&& (255 : Int32)) <<< ((8 : Int32) &&& 31)))).toUInt32.toUInt16.toUInt32.toInt32)]
  refine Goes.retN X5 hx hret (by simp) (hb hby dj52_5_59) (own_idem _) (lvN X5 hlk (vsome hret) ?_ (by decide) (by decide))
  rw [e5]
  exact ⟨rfl, N0, rfl⟩
theorem ef_Pc31 (m : MethodId) (x0 : Addr) (x1 : Int32) (x2 : Int32) : entryFrame m #[(.ref x0), (.int x1), (.int x2)] 3 = mkF m 0 #[rv x0, iv x1, iv x2] [] := by first | (simp [entryFrame, mkF, argsToLocals, Value.category]; done) | rfl
def QPc31 (Z : State) (aB : Addr) (kB : ClassId) (cc w0 w1 w2 w3 w4 w5 : Int32) (h0 : Heap) (n0 : Nat) (v : Option Value) (h : Heap) (L : List Loc) : Prop := v = none ∧ Fr n0 L ∧ Keep h0 h [aB] ∧ Arv Z h aB kB .byte (6 : Int32) [(.int w0), (.int w1), (.int (nar .byte (cc >>> ((0 : Int32) &&& 31)).toInt8.toInt32)), (.int (nar .byte (cc >>> ((8 : Int32) &&& 31)).toInt8.toInt32)), (.int w4), (.int w5)] (.int (0 : Int32))
set_option maxRecDepth 65536 in
set_option maxHeartbeats 40000000 in
theorem rmPc31 (l : Launch) (Z : State) (a0 : Array Value) (hw : ∀ d ∈ tables_1, d.before a0 Z = true) (ws : List Jvm.Cond) (aB : Addr) (kB : ClassId) (cc w0 w1 w2 w3 w4 w5 : Int32) (h0 : Heap) (n0 : Nat) (Z0 : n0 ≤ h0.size) (Sd : Sta Z h0 "java/lang/StringUTF16" "$assertionsDisabled" "Z" (.int (1 : Int32))) (Sh : Sta Z h0 "java/lang/StringUTF16" "HI_BYTE_SHIFT" "I" (.int (0 : Int32))) (Sl : Sta Z h0 "java/lang/StringUTF16" "LO_BYTE_SHIFT" "I" (.int (8 : Int32))) (lB : n0 ≤ aB) (VB : Arv Z h0 aB kB .byte (6 : Int32) [(.int w0), (.int w1), (.int w2), (.int w3), (.int w4), (.int w5)] (.int (0 : Int32))) :
    MetFree l mN2 (head1 (Jvm.Cond.code mN2 jdk_52_method_4_code 3 none :: ws) ({ frames := 0, cells := 0, slots := 0, locals := 0 } : Room)) (fun aa U => aa = #[(.ref aB), (.int (1 : Int32)), (.int cc)] ∧ Z.Warmed39 U.vm ∧ U.heap = h0) (fun _ _ _ _ _ => True) (fun _ u1_ o_ u2_ => ∃ v_ l_, o_ = .returned v_ ∧ QPc31 Z aB kB cc w0 w1 w2 w3 w4 w5 h0 n0 v_ u2_.heap l_ ∧ FrameEnd u1_ o_ u2_ l_ ({ frames := 0, cells := 0, slots := 0, locals := 0 } : Room).cells ({ frames := 0, cells := 0, slots := 0, locals := 0 } : Room).slots) := by
  refine MetFree.of_bodySF (plainFor_of_name pn_java_lang_StringUTF16) hisR ?_
  intro p e s m args below meth c s₁ Bd hml0 hP hK
  obtain ⟨rfl, hZ, hh⟩ := hP
  have hx := Bd.exec
  have hby := Bd.bytes
  have hlk := BodyLoose.notSynchronized Bd
  have hret := Bd.returns
  have hml : c.maxLocals = 3 := hml0
  have hown : s.vm.findClass "java/lang/StringUTF16" = some m.cls := findClass_of_methodNamed Bd.named
  have hnm := (name_of_methodNamed Bd.named Bd.method).1
  have X0 : Stand p l e ({ frames := 0, cells := 0, slots := 0, locals := 0 } : Room) s m #[(.ref aB), (.int (1 : Int32)), (.int cc)] below meth c s₁ [] 0 0 := Stand.of_body Bd
  have e0 : s₁.heap = h0 := by rw [← hh, Bd.state]; rfl
  have N0 := Fr.nil n0
  refine Goes.st (E := (EN s (QPc31 Z aB kB cc w0 w1 w2 w3 w4 w5 h0 n0) ({ frames := 0, cells := 0, slots := 0, locals := 0 } : Room).cells ({ frames := 0, cells := 0, slots := 0, locals := 0 } : Room).slots)) (fun tg kg => castTop (ef_Pc31 m aB (1 : Int32) cc) kg) ?_
  have K0 : Keep h0 h0 [aB] := Keep.refl _ _
  show Gs p e below _ s₁ m 0 #[rv aB, iv (1 : Int32), iv cc] []
  obtain ⟨T1, X1, e1, st1⟩ := getS X0 hx hZ hown (host := "") (hwk hw 88 rfl) Via.refl e0 Sd (g := (mkF m 0 #[rv aB, iv (1 : Int32), iv cc] [])) rfl (hb hby dj52_4_0)
  refine Goes.st st1 ?_
  show Gs p e below _ T1 m 3 #[rv aB, iv (1 : Int32), iv cc] [(.int (1 : Int32))]
  refine gifYes X1 hx (pc' := 28) (hb hby dj52_4_3) (by decide) (by decide) (by decide) ?_
  show Gs p e below _ T1 m 28 #[rv aB, iv (1 : Int32), iv cc] []
  refine giloadN X1 hx (hb hby dj52_4_28) rfl ?_
  refine giconst X1 hx (hb hby dj52_4_29) ?_
  show Gs p e below _ T1 m 30 #[rv aB, iv (1 : Int32), iv cc] [(.int (1 : Int32)), (.int (1 : Int32))]
  refine Goes.st (fun tg kg => XT.ishl X1.here hx rfl (hb hby dj52_4_30) rfl kg) ?_
  show Gs p e below _ T1 m 31 #[rv aB, iv (1 : Int32), iv cc] [(.int ((1 : Int32) <<< ((1 : Int32) &&& 31)))]
  rw [show ((1 : Int32) <<< ((1 : Int32) &&& 31)) = (2 : Int32) from by decide]
  show Gs p e below _ T1 m 31 #[rv aB, iv (1 : Int32), iv cc] [(.int (2 : Int32))]
  refine gistoreN X1 hx (hb hby dj52_4_31) trivial (l' := #[rv aB, iv (2 : Int32), iv cc]) rfl ?_
  refine galoadN X1 hx (hb hby dj52_4_32) rfl rfl ?_
  refine giloadN X1 hx (hb hby dj52_4_33) rfl ?_
  refine Goes.st (fun tg kg => XS.iinc X1.here hx rfl (hb hby dj52_4_34) rfl (l' := #[rv aB, iv (3 : Int32), iv cc]) rfl kg) ?_
  refine giloadN X1 hx (hb hby dj52_4_37) rfl ?_
  show Gs p e below _ T1 m 38 #[rv aB, iv (3 : Int32), iv cc] [(.int cc), (.int (2 : Int32)), (.ref aB)]
  obtain ⟨T2, X2, e2, st2⟩ := getS X1 hx hZ hown (host := "") (hwk hw 89 rfl) Via.refl e1 Sh (g := (mkF m 38 #[rv aB, iv (3 : Int32), iv cc] [(.int cc), (.int (2 : Int32)), (.ref aB)])) rfl (hb hby dj52_4_38)
  refine Goes.st st2 ?_
  show Gs p e below _ T2 m 41 #[rv aB, iv (3 : Int32), iv cc] [(.int (0 : Int32)), (.int cc), (.int (2 : Int32)), (.ref aB)]
  refine Goes.st (fun tg kg => XT.ishr X2.here hx rfl (hb hby dj52_4_41) rfl kg) ?_
  show Gs p e below _ T2 m 42 #[rv aB, iv (3 : Int32), iv cc] [(.int (cc >>> ((0 : Int32) &&& 31))), (.int (2 : Int32)), (.ref aB)]
  refine Goes.st (fun tg kg => XT.i2b X2.here hx rfl (hb hby dj52_4_42) rfl kg) ?_
  show Gs p e below _ T2 m 43 #[rv aB, iv (3 : Int32), iv cc] [(.int ((cc >>> ((0 : Int32) &&& 31))).toInt8.toInt32), (.int (2 : Int32)), (.ref aB)]
  obtain ⟨cl3, Ar3, qk3, Sz3, qz3, Ha3, Gf3⟩ := id VB
  obtain ⟨T3, h3, X3, e3, W3, st3⟩ := stB X2 hx hZ e2 Ar3 (inb_of Sz3 ⟨by decide, by decide⟩) (g := (mkF m 43 #[rv aB, iv (3 : Int32), iv cc] [(.int ((cc >>> ((0 : Int32) &&& 31))).toInt8.toInt32), (.int (2 : Int32)), (.ref aB)])) rfl rfl (hb hby dj52_4_43)
  have N3 := Fr.snoc X3 N0 lB
  have V3 : Arv Z h3 aB kB .byte (6 : Int32) [(.int w0), (.int w1), (.int (nar .byte ((cc >>> ((0 : Int32) &&& 31))).toInt8.toInt32)), (.int w3), (.int w4), (.int w5)] (.int (0 : Int32)) := Arv.set Ar3 qk3 Sz3 qz3 Ha3 Gf3 (fits_nar_byte _) W3 2 (by decide) (by simp)
  refine Goes.st st3 ?_
  have KK4 := K0.wr W3 (Or.inl (List.mem_of_getElem? (i := 0) rfl))
  have Z3 : n0 ≤ h3.size := by have := W3.size; have := Z0; omega
  show Gs p e below _ T3 m 44 #[rv aB, iv (3 : Int32), iv cc] []
  refine galoadN X3 hx (hb hby dj52_4_44) rfl rfl ?_
  refine giloadN X3 hx (hb hby dj52_4_45) rfl ?_
  refine giloadN X3 hx (hb hby dj52_4_46) rfl ?_
  have f6 := (Sl.wr W3)
  obtain ⟨T5, X5, e5, st5⟩ := getS X3 hx hZ hown (host := "") (hwk hw 90 rfl) Via.refl e3 f6 (g := (mkF m 47 #[rv aB, iv (3 : Int32), iv cc] [(.int cc), (.int (3 : Int32)), (.ref aB)])) rfl (hb hby dj52_4_47)
  refine Goes.st st5 ?_
  show Gs p e below _ T5 m 50 #[rv aB, iv (3 : Int32), iv cc] [(.int (8 : Int32)), (.int cc), (.int (3 : Int32)), (.ref aB)]
  refine Goes.st (fun tg kg => XT.ishr X5.here hx rfl (hb hby dj52_4_50) rfl kg) ?_
  show Gs p e below _ T5 m 51 #[rv aB, iv (3 : Int32), iv cc] [(.int (cc >>> ((8 : Int32) &&& 31))), (.int (3 : Int32)), (.ref aB)]
  refine Goes.st (fun tg kg => XT.i2b X5.here hx rfl (hb hby dj52_4_51) rfl kg) ?_
  show Gs p e below _ T5 m 52 #[rv aB, iv (3 : Int32), iv cc] [(.int ((cc >>> ((8 : Int32) &&& 31))).toInt8.toInt32), (.int (3 : Int32)), (.ref aB)]
  obtain ⟨cl7, Ar7, qk7, Sz7, qz7, Ha7, Gf7⟩ := id V3
  obtain ⟨T7, h7, X7, e7, W7, st7⟩ := stB X5 hx hZ e5 Ar7 (inb_of Sz7 ⟨by decide, by decide⟩) (g := (mkF m 52 #[rv aB, iv (3 : Int32), iv cc] [(.int ((cc >>> ((8 : Int32) &&& 31))).toInt8.toInt32), (.int (3 : Int32)), (.ref aB)])) rfl rfl (hb hby dj52_4_52)
  have N7 := Fr.snoc X7 N3 lB
  have V7 : Arv Z h7 aB kB .byte (6 : Int32) [(.int w0), (.int w1), (.int (nar .byte ((cc >>> ((0 : Int32) &&& 31))).toInt8.toInt32)), (.int (nar .byte ((cc >>> ((8 : Int32) &&& 31))).toInt8.toInt32)), (.int w4), (.int w5)] (.int (0 : Int32)) := Arv.set Ar7 qk7 Sz7 qz7 Ha7 Gf7 (fits_nar_byte _) W7 3 (by decide) (by simp)
  refine Goes.st st7 ?_
  have KK8 := KK4.wr W7 (Or.inl (List.mem_of_getElem? (i := 0) rfl))
  have Z7 : n0 ≤ h7.size := by have := W7.size; have := Z3; omega
  show Gs p e below _ T7 m 53 #[rv aB, iv (3 : Int32), iv cc] []
  refine Goes.retV X7 hx hret (hb hby dj52_4_53) (lvN X7 hlk (fun _ => rfl) ?_ (by decide) (by decide))
  rw [e7]
  exact ⟨rfl, N7, KK8, V7⟩
theorem ef_Gc31 (m : MethodId) (x0 : Addr) (x1 : Int32) : entryFrame m #[(.ref x0), (.int x1)] 2 = mkF m 0 #[rv x0, iv x1] [] := by first | (simp [entryFrame, mkF, argsToLocals, Value.category]; done) | rfl
def QGc31 (Z : State) (aB : Addr) (kB : ClassId) (w0 w1 w2 w3 w4 w5 : Int32) (h0 : Heap) (n0 : Nat) (v : Option Value) (h : Heap) (L : List Loc) : Prop := v = some (.int (gC w2 w3)) ∧ Fr n0 L ∧ h = h0
set_option maxRecDepth 65536 in
set_option maxHeartbeats 40000000 in
theorem rmGc31 (l : Launch) (Z : State) (a0 : Array Value) (hw : ∀ d ∈ tables_1, d.before a0 Z = true) (ws : List Jvm.Cond) (aB : Addr) (kB : ClassId) (w0 w1 w2 w3 w4 w5 : Int32) (h0 : Heap) (n0 : Nat) (Z0 : n0 ≤ h0.size) (Sd : Sta Z h0 "java/lang/StringUTF16" "$assertionsDisabled" "Z" (.int (1 : Int32))) (Sh : Sta Z h0 "java/lang/StringUTF16" "HI_BYTE_SHIFT" "I" (.int (0 : Int32))) (Sl : Sta Z h0 "java/lang/StringUTF16" "LO_BYTE_SHIFT" "I" (.int (8 : Int32))) (VB : Arv Z h0 aB kB .byte (6 : Int32) [(.int w0), (.int w1), (.int w2), (.int w3), (.int w4), (.int w5)] (.int (0 : Int32))) :
    MetFree l mN3 (head1 (Jvm.Cond.code mN3 jdk_52_method_5_code 2 (some .char) :: ws) ({ frames := 0, cells := 0, slots := 0, locals := 0 } : Room)) (fun aa U => aa = #[(.ref aB), (.int (1 : Int32))] ∧ Z.Warmed39 U.vm ∧ U.heap = h0) (fun _ _ _ _ _ => True) (fun _ u1_ o_ u2_ => ∃ v_ l_, o_ = .returned v_ ∧ QGc31 Z aB kB w0 w1 w2 w3 w4 w5 h0 n0 v_ u2_.heap l_ ∧ FrameEnd u1_ o_ u2_ l_ ({ frames := 0, cells := 0, slots := 0, locals := 0 } : Room).cells ({ frames := 0, cells := 0, slots := 0, locals := 0 } : Room).slots) := by
  refine MetFree.of_bodySF (plainFor_of_name pn_java_lang_StringUTF16) hisR ?_
  intro p e s m args below meth c s₁ Bd hml0 hP hK
  obtain ⟨rfl, hZ, hh⟩ := hP
  have hx := Bd.exec
  have hby := Bd.bytes
  have hlk := BodyLoose.notSynchronized Bd
  have hret := Bd.returns
  have hml : c.maxLocals = 2 := hml0
  have hown : s.vm.findClass "java/lang/StringUTF16" = some m.cls := findClass_of_methodNamed Bd.named
  have hnm := (name_of_methodNamed Bd.named Bd.method).1
  have X0 : Stand p l e ({ frames := 0, cells := 0, slots := 0, locals := 0 } : Room) s m #[(.ref aB), (.int (1 : Int32))] below meth c s₁ [] 0 0 := Stand.of_body Bd
  have e0 : s₁.heap = h0 := by rw [← hh, Bd.state]; rfl
  have N0 := Fr.nil n0
  refine Goes.st (E := (EN s (QGc31 Z aB kB w0 w1 w2 w3 w4 w5 h0 n0) ({ frames := 0, cells := 0, slots := 0, locals := 0 } : Room).cells ({ frames := 0, cells := 0, slots := 0, locals := 0 } : Room).slots)) (fun tg kg => castTop (ef_Gc31 m aB (1 : Int32)) kg) ?_
  show Gs p e below _ s₁ m 0 #[rv aB, iv (1 : Int32)] []
  obtain ⟨T1, X1, e1, st1⟩ := getS X0 hx hZ hown (host := "") (hwk hw 88 rfl) Via.refl e0 Sd (g := (mkF m 0 #[rv aB, iv (1 : Int32)] [])) rfl (hb hby dj52_5_0)
  refine Goes.st st1 ?_
  show Gs p e below _ T1 m 3 #[rv aB, iv (1 : Int32)] [(.int (1 : Int32))]
  refine gifYes X1 hx (pc' := 28) (hb hby dj52_5_3) (by decide) (by decide) (by decide) ?_
  show Gs p e below _ T1 m 28 #[rv aB, iv (1 : Int32)] []
  refine giloadN X1 hx (hb hby dj52_5_28) rfl ?_
  refine giconst X1 hx (hb hby dj52_5_29) ?_
  show Gs p e below _ T1 m 30 #[rv aB, iv (1 : Int32)] [(.int (1 : Int32)), (.int (1 : Int32))]
  refine Goes.st (fun tg kg => XT.ishl X1.here hx rfl (hb hby dj52_5_30) rfl kg) ?_
  show Gs p e below _ T1 m 31 #[rv aB, iv (1 : Int32)] [(.int ((1 : Int32) <<< ((1 : Int32) &&& 31)))]
  rw [show ((1 : Int32) <<< ((1 : Int32) &&& 31)) = (2 : Int32) from by decide]
  show Gs p e below _ T1 m 31 #[rv aB, iv (1 : Int32)] [(.int (2 : Int32))]
  refine gistoreN X1 hx (hb hby dj52_5_31) trivial (l' := #[rv aB, iv (2 : Int32)]) rfl ?_
  refine galoadN X1 hx (hb hby dj52_5_32) rfl rfl ?_
  refine giloadN X1 hx (hb hby dj52_5_33) rfl ?_
  refine Goes.st (fun tg kg => XS.iinc X1.here hx rfl (hb hby dj52_5_34) rfl (l' := #[rv aB, iv (3 : Int32)]) rfl kg) ?_
  show Gs p e below _ T1 m 37 #[rv aB, iv (3 : Int32)] [(.int (2 : Int32)), (.ref aB)]
  obtain ⟨cl2, Ar2, qk2, Sz2, qz2, Ha2, Gf2⟩ := id VB
  have in2 := inb_of (j := (2 : Int32)) Sz2 ⟨by decide, by decide⟩
  refine Goes.st (fun tg kg => X1.baloadBytes hx (j := (2 : Int32)) (v := (.int w2)) (by rw [e1]; exact Ar2.1) (State.isArrayOf_alike hZ.alike Ar2.2.1) Ar2.2.2 in2 (Ha2.at in2 rfl) (g := (mkF m 37 #[rv aB, iv (3 : Int32)] [(.int (2 : Int32)), (.ref aB)])) rfl rfl (hb hby dj52_5_37) tg kg) ?_
  show Gs p e below _ T1 m 38 #[rv aB, iv (3 : Int32)] [(.int w2)]
  refine Goes.st (fun tg kg => XS.sipush X1.here hx rfl (hb hby dj52_5_38) kg) ?_
  refine giand X1 hx (hb hby dj52_5_41) trivial ?_
  obtain ⟨T3, X3, e3, st3⟩ := getS X1 hx hZ hown (host := "") (hwk hw 89 rfl) Via.refl e1 Sh (g := (mkF m 42 #[rv aB, iv (3 : Int32)] [(.int (w2 &&& (255 : Int32)))])) rfl (hb hby dj52_5_42)
  refine Goes.st st3 ?_
  show Gs p e below _ T3 m 45 #[rv aB, iv (3 : Int32)] [(.int (0 : Int32)), (.int (w2 &&& (255 : Int32)))]
  refine Goes.st (fun tg kg => XT.ishl X3.here hx rfl (hb hby dj52_5_45) rfl kg) ?_
  show Gs p e below _ T3 m 46 #[rv aB, iv (3 : Int32)] [(.int ((w2 &&& (255 : Int32)) <<< ((0 : Int32) &&& 31)))]
  refine galoadN X3 hx (hb hby dj52_5_46) rfl rfl ?_
  refine giloadN X3 hx (hb hby dj52_5_47) rfl ?_
  show Gs p e below _ T3 m 48 #[rv aB, iv (3 : Int32)] [(.int (3 : Int32)), (.ref aB), (.int ((w2 &&& (255 : Int32)) <<< ((0 : Int32) &&& 31)))]
  obtain ⟨cl4, Ar4, qk4, Sz4, qz4, Ha4, Gf4⟩ := id VB
  have in4 := inb_of (j := (3 : Int32)) Sz4 ⟨by decide, by decide⟩
  refine Goes.st (fun tg kg => X3.baloadBytes hx (j := (3 : Int32)) (v := (.int w3)) (by rw [e3]; exact Ar4.1) (State.isArrayOf_alike hZ.alike Ar4.2.1) Ar4.2.2 in4 (Ha4.at in4 rfl) (g := (mkF m 48 #[rv aB, iv (3 : Int32)] [(.int (3 : Int32)), (.ref aB), (.int ((w2 &&& (255 : Int32)) <<< ((0 : Int32) &&& 31)))])) rfl rfl (hb hby dj52_5_48) tg kg) ?_
  show Gs p e below _ T3 m 49 #[rv aB, iv (3 : Int32)] [(.int w3), (.int ((w2 &&& (255 : Int32)) <<< ((0 : Int32) &&& 31)))]
  refine Goes.st (fun tg kg => XS.sipush X3.here hx rfl (hb hby dj52_5_49) kg) ?_
  refine giand X3 hx (hb hby dj52_5_52) trivial ?_
  obtain ⟨T5, X5, e5, st5⟩ := getS X3 hx hZ hown (host := "") (hwk hw 90 rfl) Via.refl e3 Sl (g := (mkF m 53 #[rv aB, iv (3 : Int32)] [(.int (w3 &&& (255 : Int32))), (.int ((w2 &&& (255 : Int32)) <<< ((0 : Int32) &&& 31)))])) rfl (hb hby dj52_5_53)
  refine Goes.st st5 ?_
  show Gs p e below _ T5 m 56 #[rv aB, iv (3 : Int32)] [(.int (8 : Int32)), (.int (w3 &&& (255 : Int32))), (.int ((w2 &&& (255 : Int32)) <<< ((0 : Int32) &&& 31)))]
  refine Goes.st (fun tg kg => XT.ishl X5.here hx rfl (hb hby dj52_5_56) rfl kg) ?_
  show Gs p e below _ T5 m 57 #[rv aB, iv (3 : Int32)] [(.int ((w3 &&& (255 : Int32)) <<< ((8 : Int32) &&& 31))), (.int ((w2 &&& (255 : Int32)) <<< ((0 : Int32) &&& 31)))]
  refine Goes.st (fun tg kg => XT.ior X5.here hx rfl (hb hby dj52_5_57) rfl kg) ?_
  show Gs p e below _ T5 m 58 #[rv aB, iv (3 : Int32)] [(.int (((w2 &&& (255 : Int32)) <<< ((0 : Int32) &&& 31)) ||| ((w3 &&& (255 : Int32)) <<< ((8 : Int32) &&& 31))))]
  refine Goes.st (fun tg kg => XT.i2c X5.here hx rfl (hb hby dj52_5_58) rfl kg) ?_
  show Gs p e below _ T5 m 59 #[rv aB, iv (3 : Int32)] [(.int ((((w2 &&& (255 : Int32)) <<< ((0 : Int32) &&& 31)) ||| ((w3 &&& (255 : Int32)) <<< ((8 : Int32) &&& 31)))).toUInt32.toUInt16.toUInt32.toInt32)]
  refine Goes.retN X5 hx hret (by simp) (hb hby dj52_5_59) (own_idem _) (lvN X5 hlk (vsome hret) ?_ (by decide) (by decide))
  rw [e5]
  exact ⟨rfl, N0, rfl⟩
theorem ef_Pc32 (m : MethodId) (x0 : Addr) (x1 : Int32) (x2 : Int32) : entryFrame m #[(.ref x0), (.int x1), (.int x2)] 3 = mkF m 0 #[rv x0, iv x1, iv x2] [] := by first | (simp [entryFrame, mkF, argsToLocals, Value.category]; done) | rfl
def QPc32 (Z : State) (aB : Addr) (kB : ClassId) (cc w0 w1 w2 w3 w4 w5 : Int32) (h0 : Heap) (n0 : Nat) (v : Option Value) (h : Heap) (L : List Loc) : Prop := v = none ∧ Fr n0 L ∧ Keep h0 h [aB] ∧ Arv Z h aB kB .byte (6 : Int32) [(.int w0), (.int w1), (.int w2), (.int w3), (.int (nar .byte (cc >>> ((0 : Int32) &&& 31)).toInt8.toInt32)), (.int (nar .byte (cc >>> ((8 : Int32) &&& 31)).toInt8.toInt32))] (.int (0 : Int32))
set_option maxRecDepth 65536 in
set_option maxHeartbeats 40000000 in
theorem rmPc32 (l : Launch) (Z : State) (a0 : Array Value) (hw : ∀ d ∈ tables_1, d.before a0 Z = true) (ws : List Jvm.Cond) (aB : Addr) (kB : ClassId) (cc w0 w1 w2 w3 w4 w5 : Int32) (h0 : Heap) (n0 : Nat) (Z0 : n0 ≤ h0.size) (Sd : Sta Z h0 "java/lang/StringUTF16" "$assertionsDisabled" "Z" (.int (1 : Int32))) (Sh : Sta Z h0 "java/lang/StringUTF16" "HI_BYTE_SHIFT" "I" (.int (0 : Int32))) (Sl : Sta Z h0 "java/lang/StringUTF16" "LO_BYTE_SHIFT" "I" (.int (8 : Int32))) (lB : n0 ≤ aB) (VB : Arv Z h0 aB kB .byte (6 : Int32) [(.int w0), (.int w1), (.int w2), (.int w3), (.int w4), (.int w5)] (.int (0 : Int32))) :
    MetFree l mN2 (head1 (Jvm.Cond.code mN2 jdk_52_method_4_code 3 none :: ws) ({ frames := 0, cells := 0, slots := 0, locals := 0 } : Room)) (fun aa U => aa = #[(.ref aB), (.int (2 : Int32)), (.int cc)] ∧ Z.Warmed39 U.vm ∧ U.heap = h0) (fun _ _ _ _ _ => True) (fun _ u1_ o_ u2_ => ∃ v_ l_, o_ = .returned v_ ∧ QPc32 Z aB kB cc w0 w1 w2 w3 w4 w5 h0 n0 v_ u2_.heap l_ ∧ FrameEnd u1_ o_ u2_ l_ ({ frames := 0, cells := 0, slots := 0, locals := 0 } : Room).cells ({ frames := 0, cells := 0, slots := 0, locals := 0 } : Room).slots) := by
  refine MetFree.of_bodySF (plainFor_of_name pn_java_lang_StringUTF16) hisR ?_
  intro p e s m args below meth c s₁ Bd hml0 hP hK
  obtain ⟨rfl, hZ, hh⟩ := hP
  have hx := Bd.exec
  have hby := Bd.bytes
  have hlk := BodyLoose.notSynchronized Bd
  have hret := Bd.returns
  have hml : c.maxLocals = 3 := hml0
  have hown : s.vm.findClass "java/lang/StringUTF16" = some m.cls := findClass_of_methodNamed Bd.named
  have hnm := (name_of_methodNamed Bd.named Bd.method).1
  have X0 : Stand p l e ({ frames := 0, cells := 0, slots := 0, locals := 0 } : Room) s m #[(.ref aB), (.int (2 : Int32)), (.int cc)] below meth c s₁ [] 0 0 := Stand.of_body Bd
  have e0 : s₁.heap = h0 := by rw [← hh, Bd.state]; rfl
  have N0 := Fr.nil n0
  refine Goes.st (E := (EN s (QPc32 Z aB kB cc w0 w1 w2 w3 w4 w5 h0 n0) ({ frames := 0, cells := 0, slots := 0, locals := 0 } : Room).cells ({ frames := 0, cells := 0, slots := 0, locals := 0 } : Room).slots)) (fun tg kg => castTop (ef_Pc32 m aB (2 : Int32) cc) kg) ?_
  have K0 : Keep h0 h0 [aB] := Keep.refl _ _
  show Gs p e below _ s₁ m 0 #[rv aB, iv (2 : Int32), iv cc] []
  obtain ⟨T1, X1, e1, st1⟩ := getS X0 hx hZ hown (host := "") (hwk hw 88 rfl) Via.refl e0 Sd (g := (mkF m 0 #[rv aB, iv (2 : Int32), iv cc] [])) rfl (hb hby dj52_4_0)
  refine Goes.st st1 ?_
  show Gs p e below _ T1 m 3 #[rv aB, iv (2 : Int32), iv cc] [(.int (1 : Int32))]
  refine gifYes X1 hx (pc' := 28) (hb hby dj52_4_3) (by decide) (by decide) (by decide) ?_
  show Gs p e below _ T1 m 28 #[rv aB, iv (2 : Int32), iv cc] []
  refine giloadN X1 hx (hb hby dj52_4_28) rfl ?_
  refine giconst X1 hx (hb hby dj52_4_29) ?_
  show Gs p e below _ T1 m 30 #[rv aB, iv (2 : Int32), iv cc] [(.int (1 : Int32)), (.int (2 : Int32))]
  refine Goes.st (fun tg kg => XT.ishl X1.here hx rfl (hb hby dj52_4_30) rfl kg) ?_
  show Gs p e below _ T1 m 31 #[rv aB, iv (2 : Int32), iv cc] [(.int ((2 : Int32) <<< ((1 : Int32) &&& 31)))]
  rw [show ((2 : Int32) <<< ((1 : Int32) &&& 31)) = (4 : Int32) from by decide]
  show Gs p e below _ T1 m 31 #[rv aB, iv (2 : Int32), iv cc] [(.int (4 : Int32))]
  refine gistoreN X1 hx (hb hby dj52_4_31) trivial (l' := #[rv aB, iv (4 : Int32), iv cc]) rfl ?_
  refine galoadN X1 hx (hb hby dj52_4_32) rfl rfl ?_
  refine giloadN X1 hx (hb hby dj52_4_33) rfl ?_
  refine Goes.st (fun tg kg => XS.iinc X1.here hx rfl (hb hby dj52_4_34) rfl (l' := #[rv aB, iv (5 : Int32), iv cc]) rfl kg) ?_
  refine giloadN X1 hx (hb hby dj52_4_37) rfl ?_
  show Gs p e below _ T1 m 38 #[rv aB, iv (5 : Int32), iv cc] [(.int cc), (.int (4 : Int32)), (.ref aB)]
  obtain ⟨T2, X2, e2, st2⟩ := getS X1 hx hZ hown (host := "") (hwk hw 89 rfl) Via.refl e1 Sh (g := (mkF m 38 #[rv aB, iv (5 : Int32), iv cc] [(.int cc), (.int (4 : Int32)), (.ref aB)])) rfl (hb hby dj52_4_38)
  refine Goes.st st2 ?_
  show Gs p e below _ T2 m 41 #[rv aB, iv (5 : Int32), iv cc] [(.int (0 : Int32)), (.int cc), (.int (4 : Int32)), (.ref aB)]
  refine Goes.st (fun tg kg => XT.ishr X2.here hx rfl (hb hby dj52_4_41) rfl kg) ?_
  show Gs p e below _ T2 m 42 #[rv aB, iv (5 : Int32), iv cc] [(.int (cc >>> ((0 : Int32) &&& 31))), (.int (4 : Int32)), (.ref aB)]
  refine Goes.st (fun tg kg => XT.i2b X2.here hx rfl (hb hby dj52_4_42) rfl kg) ?_
  show Gs p e below _ T2 m 43 #[rv aB, iv (5 : Int32), iv cc] [(.int ((cc >>> ((0 : Int32) &&& 31))).toInt8.toInt32), (.int (4 : Int32)), (.ref aB)]
  obtain ⟨cl3, Ar3, qk3, Sz3, qz3, Ha3, Gf3⟩ := id VB
  obtain ⟨T3, h3, X3, e3, W3, st3⟩ := stB X2 hx hZ e2 Ar3 (inb_of Sz3 ⟨by decide, by decide⟩) (g := (mkF m 43 #[rv aB, iv (5 : Int32), iv cc] [(.int ((cc >>> ((0 : Int32) &&& 31))).toInt8.toInt32), (.int (4 : Int32)), (.ref aB)])) rfl rfl (hb hby dj52_4_43)
  have N3 := Fr.snoc X3 N0 lB
  have V3 : Arv Z h3 aB kB .byte (6 : Int32) [(.int w0), (.int w1), (.int w2), (.int w3), (.int (nar .byte ((cc >>> ((0 : Int32) &&& 31))).toInt8.toInt32)), (.int w5)] (.int (0 : Int32)) := Arv.set Ar3 qk3 Sz3 qz3 Ha3 Gf3 (fits_nar_byte _) W3 4 (by decide) (by simp)
  refine Goes.st st3 ?_
  have KK4 := K0.wr W3 (Or.inl (List.mem_of_getElem? (i := 0) rfl))
  have Z3 : n0 ≤ h3.size := by have := W3.size; have := Z0; omega
  show Gs p e below _ T3 m 44 #[rv aB, iv (5 : Int32), iv cc] []
  refine galoadN X3 hx (hb hby dj52_4_44) rfl rfl ?_
  refine giloadN X3 hx (hb hby dj52_4_45) rfl ?_
  refine giloadN X3 hx (hb hby dj52_4_46) rfl ?_
  have f6 := (Sl.wr W3)
  obtain ⟨T5, X5, e5, st5⟩ := getS X3 hx hZ hown (host := "") (hwk hw 90 rfl) Via.refl e3 f6 (g := (mkF m 47 #[rv aB, iv (5 : Int32), iv cc] [(.int cc), (.int (5 : Int32)), (.ref aB)])) rfl (hb hby dj52_4_47)
  refine Goes.st st5 ?_
  show Gs p e below _ T5 m 50 #[rv aB, iv (5 : Int32), iv cc] [(.int (8 : Int32)), (.int cc), (.int (5 : Int32)), (.ref aB)]
  refine Goes.st (fun tg kg => XT.ishr X5.here hx rfl (hb hby dj52_4_50) rfl kg) ?_
  show Gs p e below _ T5 m 51 #[rv aB, iv (5 : Int32), iv cc] [(.int (cc >>> ((8 : Int32) &&& 31))), (.int (5 : Int32)), (.ref aB)]
  refine Goes.st (fun tg kg => XT.i2b X5.here hx rfl (hb hby dj52_4_51) rfl kg) ?_
  show Gs p e below _ T5 m 52 #[rv aB, iv (5 : Int32), iv cc] [(.int ((cc >>> ((8 : Int32) &&& 31))).toInt8.toInt32), (.int (5 : Int32)), (.ref aB)]
  obtain ⟨cl7, Ar7, qk7, Sz7, qz7, Ha7, Gf7⟩ := id V3
  obtain ⟨T7, h7, X7, e7, W7, st7⟩ := stB X5 hx hZ e5 Ar7 (inb_of Sz7 ⟨by decide, by decide⟩) (g := (mkF m 52 #[rv aB, iv (5 : Int32), iv cc] [(.int ((cc >>> ((8 : Int32) &&& 31))).toInt8.toInt32), (.int (5 : Int32)), (.ref aB)])) rfl rfl (hb hby dj52_4_52)
  have N7 := Fr.snoc X7 N3 lB
  have V7 : Arv Z h7 aB kB .byte (6 : Int32) [(.int w0), (.int w1), (.int w2), (.int w3), (.int (nar .byte ((cc >>> ((0 : Int32) &&& 31))).toInt8.toInt32)), (.int (nar .byte ((cc >>> ((8 : Int32) &&& 31))).toInt8.toInt32))] (.int (0 : Int32)) := Arv.set Ar7 qk7 Sz7 qz7 Ha7 Gf7 (fits_nar_byte _) W7 5 (by decide) (by simp)
  refine Goes.st st7 ?_
  have KK8 := KK4.wr W7 (Or.inl (List.mem_of_getElem? (i := 0) rfl))
  have Z7 : n0 ≤ h7.size := by have := W7.size; have := Z3; omega
  show Gs p e below _ T7 m 53 #[rv aB, iv (5 : Int32), iv cc] []
  refine Goes.retV X7 hx hret (hb hby dj52_4_53) (lvN X7 hlk (fun _ => rfl) ?_ (by decide) (by decide))
  rw [e7]
  exact ⟨rfl, N7, KK8, V7⟩
theorem ef_Gc32 (m : MethodId) (x0 : Addr) (x1 : Int32) : entryFrame m #[(.ref x0), (.int x1)] 2 = mkF m 0 #[rv x0, iv x1] [] := by first | (simp [entryFrame, mkF, argsToLocals, Value.category]; done) | rfl
def QGc32 (Z : State) (aB : Addr) (kB : ClassId) (w0 w1 w2 w3 w4 w5 : Int32) (h0 : Heap) (n0 : Nat) (v : Option Value) (h : Heap) (L : List Loc) : Prop := v = some (.int (gC w4 w5)) ∧ Fr n0 L ∧ h = h0
set_option maxRecDepth 65536 in
set_option maxHeartbeats 40000000 in
theorem rmGc32 (l : Launch) (Z : State) (a0 : Array Value) (hw : ∀ d ∈ tables_1, d.before a0 Z = true) (ws : List Jvm.Cond) (aB : Addr) (kB : ClassId) (w0 w1 w2 w3 w4 w5 : Int32) (h0 : Heap) (n0 : Nat) (Z0 : n0 ≤ h0.size) (Sd : Sta Z h0 "java/lang/StringUTF16" "$assertionsDisabled" "Z" (.int (1 : Int32))) (Sh : Sta Z h0 "java/lang/StringUTF16" "HI_BYTE_SHIFT" "I" (.int (0 : Int32))) (Sl : Sta Z h0 "java/lang/StringUTF16" "LO_BYTE_SHIFT" "I" (.int (8 : Int32))) (VB : Arv Z h0 aB kB .byte (6 : Int32) [(.int w0), (.int w1), (.int w2), (.int w3), (.int w4), (.int w5)] (.int (0 : Int32))) :
    MetFree l mN3 (head1 (Jvm.Cond.code mN3 jdk_52_method_5_code 2 (some .char) :: ws) ({ frames := 0, cells := 0, slots := 0, locals := 0 } : Room)) (fun aa U => aa = #[(.ref aB), (.int (2 : Int32))] ∧ Z.Warmed39 U.vm ∧ U.heap = h0) (fun _ _ _ _ _ => True) (fun _ u1_ o_ u2_ => ∃ v_ l_, o_ = .returned v_ ∧ QGc32 Z aB kB w0 w1 w2 w3 w4 w5 h0 n0 v_ u2_.heap l_ ∧ FrameEnd u1_ o_ u2_ l_ ({ frames := 0, cells := 0, slots := 0, locals := 0 } : Room).cells ({ frames := 0, cells := 0, slots := 0, locals := 0 } : Room).slots) := by
  refine MetFree.of_bodySF (plainFor_of_name pn_java_lang_StringUTF16) hisR ?_
  intro p e s m args below meth c s₁ Bd hml0 hP hK
  obtain ⟨rfl, hZ, hh⟩ := hP
  have hx := Bd.exec
  have hby := Bd.bytes
  have hlk := BodyLoose.notSynchronized Bd
  have hret := Bd.returns
  have hml : c.maxLocals = 2 := hml0
  have hown : s.vm.findClass "java/lang/StringUTF16" = some m.cls := findClass_of_methodNamed Bd.named
  have hnm := (name_of_methodNamed Bd.named Bd.method).1
  have X0 : Stand p l e ({ frames := 0, cells := 0, slots := 0, locals := 0 } : Room) s m #[(.ref aB), (.int (2 : Int32))] below meth c s₁ [] 0 0 := Stand.of_body Bd
  have e0 : s₁.heap = h0 := by rw [← hh, Bd.state]; rfl
  have N0 := Fr.nil n0
  refine Goes.st (E := (EN s (QGc32 Z aB kB w0 w1 w2 w3 w4 w5 h0 n0) ({ frames := 0, cells := 0, slots := 0, locals := 0 } : Room).cells ({ frames := 0, cells := 0, slots := 0, locals := 0 } : Room).slots)) (fun tg kg => castTop (ef_Gc32 m aB (2 : Int32)) kg) ?_
  show Gs p e below _ s₁ m 0 #[rv aB, iv (2 : Int32)] []
  obtain ⟨T1, X1, e1, st1⟩ := getS X0 hx hZ hown (host := "") (hwk hw 88 rfl) Via.refl e0 Sd (g := (mkF m 0 #[rv aB, iv (2 : Int32)] [])) rfl (hb hby dj52_5_0)
  refine Goes.st st1 ?_
  show Gs p e below _ T1 m 3 #[rv aB, iv (2 : Int32)] [(.int (1 : Int32))]
  refine gifYes X1 hx (pc' := 28) (hb hby dj52_5_3) (by decide) (by decide) (by decide) ?_
  show Gs p e below _ T1 m 28 #[rv aB, iv (2 : Int32)] []
  refine giloadN X1 hx (hb hby dj52_5_28) rfl ?_
  refine giconst X1 hx (hb hby dj52_5_29) ?_
  show Gs p e below _ T1 m 30 #[rv aB, iv (2 : Int32)] [(.int (1 : Int32)), (.int (2 : Int32))]
  refine Goes.st (fun tg kg => XT.ishl X1.here hx rfl (hb hby dj52_5_30) rfl kg) ?_
  show Gs p e below _ T1 m 31 #[rv aB, iv (2 : Int32)] [(.int ((2 : Int32) <<< ((1 : Int32) &&& 31)))]
  rw [show ((2 : Int32) <<< ((1 : Int32) &&& 31)) = (4 : Int32) from by decide]
  show Gs p e below _ T1 m 31 #[rv aB, iv (2 : Int32)] [(.int (4 : Int32))]
  refine gistoreN X1 hx (hb hby dj52_5_31) trivial (l' := #[rv aB, iv (4 : Int32)]) rfl ?_
  refine galoadN X1 hx (hb hby dj52_5_32) rfl rfl ?_
  refine giloadN X1 hx (hb hby dj52_5_33) rfl ?_
  refine Goes.st (fun tg kg => XS.iinc X1.here hx rfl (hb hby dj52_5_34) rfl (l' := #[rv aB, iv (5 : Int32)]) rfl kg) ?_
  show Gs p e below _ T1 m 37 #[rv aB, iv (5 : Int32)] [(.int (4 : Int32)), (.ref aB)]
  obtain ⟨cl2, Ar2, qk2, Sz2, qz2, Ha2, Gf2⟩ := id VB
  have in2 := inb_of (j := (4 : Int32)) Sz2 ⟨by decide, by decide⟩
  refine Goes.st (fun tg kg => X1.baloadBytes hx (j := (4 : Int32)) (v := (.int w4)) (by rw [e1]; exact Ar2.1) (State.isArrayOf_alike hZ.alike Ar2.2.1) Ar2.2.2 in2 (Ha2.at in2 rfl) (g := (mkF m 37 #[rv aB, iv (5 : Int32)] [(.int (4 : Int32)), (.ref aB)])) rfl rfl (hb hby dj52_5_37) tg kg) ?_
  show Gs p e below _ T1 m 38 #[rv aB, iv (5 : Int32)] [(.int w4)]
  refine Goes.st (fun tg kg => XS.sipush X1.here hx rfl (hb hby dj52_5_38) kg) ?_
  refine giand X1 hx (hb hby dj52_5_41) trivial ?_
  obtain ⟨T3, X3, e3, st3⟩ := getS X1 hx hZ hown (host := "") (hwk hw 89 rfl) Via.refl e1 Sh (g := (mkF m 42 #[rv aB, iv (5 : Int32)] [(.int (w4 &&& (255 : Int32)))])) rfl (hb hby dj52_5_42)
  refine Goes.st st3 ?_
  show Gs p e below _ T3 m 45 #[rv aB, iv (5 : Int32)] [(.int (0 : Int32)), (.int (w4 &&& (255 : Int32)))]
  refine Goes.st (fun tg kg => XT.ishl X3.here hx rfl (hb hby dj52_5_45) rfl kg) ?_
  show Gs p e below _ T3 m 46 #[rv aB, iv (5 : Int32)] [(.int ((w4 &&& (255 : Int32)) <<< ((0 : Int32) &&& 31)))]
  refine galoadN X3 hx (hb hby dj52_5_46) rfl rfl ?_
  refine giloadN X3 hx (hb hby dj52_5_47) rfl ?_
  show Gs p e below _ T3 m 48 #[rv aB, iv (5 : Int32)] [(.int (5 : Int32)), (.ref aB), (.int ((w4 &&& (255 : Int32)) <<< ((0 : Int32) &&& 31)))]
  obtain ⟨cl4, Ar4, qk4, Sz4, qz4, Ha4, Gf4⟩ := id VB
  have in4 := inb_of (j := (5 : Int32)) Sz4 ⟨by decide, by decide⟩
  refine Goes.st (fun tg kg => X3.baloadBytes hx (j := (5 : Int32)) (v := (.int w5)) (by rw [e3]; exact Ar4.1) (State.isArrayOf_alike hZ.alike Ar4.2.1) Ar4.2.2 in4 (Ha4.at in4 rfl) (g := (mkF m 48 #[rv aB, iv (5 : Int32)] [(.int (5 : Int32)), (.ref aB), (.int ((w4 &&& (255 : Int32)) <<< ((0 : Int32) &&& 31)))])) rfl rfl (hb hby dj52_5_48) tg kg) ?_
  show Gs p e below _ T3 m 49 #[rv aB, iv (5 : Int32)] [(.int w5), (.int ((w4 &&& (255 : Int32)) <<< ((0 : Int32) &&& 31)))]
  refine Goes.st (fun tg kg => XS.sipush X3.here hx rfl (hb hby dj52_5_49) kg) ?_
  refine giand X3 hx (hb hby dj52_5_52) trivial ?_
  obtain ⟨T5, X5, e5, st5⟩ := getS X3 hx hZ hown (host := "") (hwk hw 90 rfl) Via.refl e3 Sl (g := (mkF m 53 #[rv aB, iv (5 : Int32)] [(.int (w5 &&& (255 : Int32))), (.int ((w4 &&& (255 : Int32)) <<< ((0 : Int32) &&& 31)))])) rfl (hb hby dj52_5_53)
  refine Goes.st st5 ?_
  show Gs p e below _ T5 m 56 #[rv aB, iv (5 : Int32)] [(.int (8 : Int32)), (.int (w5 &&& (255 : Int32))), (.int ((w4 &&& (255 : Int32)) <<< ((0 : Int32) &&& 31)))]
  refine Goes.st (fun tg kg => XT.ishl X5.here hx rfl (hb hby dj52_5_56) rfl kg) ?_
  show Gs p e below _ T5 m 57 #[rv aB, iv (5 : Int32)] [(.int ((w5 &&& (255 : Int32)) <<< ((8 : Int32) &&& 31))), (.int ((w4 &&& (255 : Int32)) <<< ((0 : Int32) &&& 31)))]
  refine Goes.st (fun tg kg => XT.ior X5.here hx rfl (hb hby dj52_5_57) rfl kg) ?_
  show Gs p e below _ T5 m 58 #[rv aB, iv (5 : Int32)] [(.int (((w4 &&& (255 : Int32)) <<< ((0 : Int32) &&& 31)) ||| ((w5 &&& (255 : Int32)) <<< ((8 : Int32) &&& 31))))]
  refine Goes.st (fun tg kg => XT.i2c X5.here hx rfl (hb hby dj52_5_58) rfl kg) ?_
  show Gs p e below _ T5 m 59 #[rv aB, iv (5 : Int32)] [(.int ((((w4 &&& (255 : Int32)) <<< ((0 : Int32) &&& 31)) ||| ((w5 &&& (255 : Int32)) <<< ((8 : Int32) &&& 31)))).toUInt32.toUInt16.toUInt32.toInt32)]
  refine Goes.retN X5 hx hret (by simp) (hb hby dj52_5_59) (own_idem _) (lvN X5 hlk (vsome hret) ?_ (by decide) (by decide))
  rw [e5]
  exact ⟨rfl, N0, rfl⟩
theorem ef_By3 (m : MethodId) (x0 : Addr) (x1 : Int32) (x2 : Int32) : entryFrame m #[(.ref x0), (.int x1), (.int x2)] 5 = mkF m 0 #[rv x0, iv x1, iv x2, .unset, .unset] [] := by first | (simp [entryFrame, mkF, argsToLocals, Value.category]; done) | rfl
def QBy3 (Z : State) (aC : Addr) (kC : ClassId) (c0 c1 c2 : Int32) (h0 : Heap) (n0 : Nat) (v : Option Value) (h : Heap) (L : List Loc) : Prop := ∃ (b : Addr) (kB : ClassId), v = some (.ref b) ∧ Fr n0 L ∧ Keep h0 h [] ∧ h0.size ≤ b ∧ n0 ≤ b ∧ Arv Z h b kB .byte (6 : Int32) [(.int (nar .byte (c0 >>> ((0 : Int32) &&& 31)).toInt8.toInt32)), (.int (nar .byte (c0 >>> ((8 : Int32) &&& 31)).toInt8.toInt32)), (.int (nar .byte (c1 >>> ((0 : Int32) &&& 31)).toInt8.toInt32)), (.int (nar .byte (c1 >>> ((8 : Int32) &&& 31)).toInt8.toInt32)), (.int (nar .byte (c2 >>> ((0 : Int32) &&& 31)).toInt8.toInt32)), (.int (nar .byte (c2 >>> ((8 : Int32) &&& 31)).toInt8.toInt32))] (.int (0 : Int32))
set_option maxRecDepth 65536 in
set_option maxHeartbeats 40000000 in
theorem rmBy3 (l : Launch) (Z : State) (a0 : Array Value) (hw : ∀ d ∈ tables_1, d.before a0 Z = true) (ws : List Jvm.Cond) (aC : Addr) (kC : ClassId) (c0 c1 c2 : Int32) (h0 : Heap) (n0 : Nat) (Z0 : n0 ≤ h0.size) (Sd : Sta Z h0 "java/lang/StringUTF16" "$assertionsDisabled" "Z" (.int (1 : Int32))) (Sh : Sta Z h0 "java/lang/StringUTF16" "HI_BYTE_SHIFT" "I" (.int (0 : Int32))) (Sl : Sta Z h0 "java/lang/StringUTF16" "LO_BYTE_SHIFT" "I" (.int (8 : Int32))) (VC : Arv Z h0 aC kC .char (3 : Int32) [(.int c0), (.int c1), (.int c2)] (.int (0 : Int32))) :
    MetFree l mN4 (head1 (Jvm.Cond.code mN4 jdk_52_method_14_code 5 (some (.array .byte)) :: ws) ({ frames := 2, cells := 1, slots := 6, locals := 24 } : Room)) (fun aa U => aa = #[(.ref aC), (.int (0 : Int32)), (.int (3 : Int32))] ∧ Z.Warmed39 U.vm ∧ U.heap = h0) (fun _ _ _ _ _ => True) (fun _ u1_ o_ u2_ => ∃ v_ l_, o_ = .returned v_ ∧ QBy3 Z aC kC c0 c1 c2 h0 n0 v_ u2_.heap l_ ∧ FrameEnd u1_ o_ u2_ l_ ({ frames := 2, cells := 1, slots := 6, locals := 24 } : Room).cells ({ frames := 2, cells := 1, slots := 6, locals := 24 } : Room).slots) := by
  refine MetFree.of_bodySF (plainFor_of_name pn_java_lang_StringUTF16) hisR ?_
  intro p e s m args below meth c s₁ Bd hml0 hP hK
  obtain ⟨rfl, hZ, hh⟩ := hP
  have hx := Bd.exec
  have hby := Bd.bytes
  have hlk := BodyLoose.notSynchronized Bd
  have hret := Bd.returns
  have hml : c.maxLocals = 5 := hml0
  have hown : s.vm.findClass "java/lang/StringUTF16" = some m.cls := findClass_of_methodNamed Bd.named
  have hnm := (name_of_methodNamed Bd.named Bd.method).1
  have X0 : Stand p l e ({ frames := 2, cells := 1, slots := 6, locals := 24 } : Room) s m #[(.ref aC), (.int (0 : Int32)), (.int (3 : Int32))] below meth c s₁ [] 0 0 := Stand.of_body Bd
  have e0 : s₁.heap = h0 := by rw [← hh, Bd.state]; rfl
  have N0 := Fr.nil n0
  refine Goes.st (E := (EN s (QBy3 Z aC kC c0 c1 c2 h0 n0) ({ frames := 2, cells := 1, slots := 6, locals := 24 } : Room).cells ({ frames := 2, cells := 1, slots := 6, locals := 24 } : Room).slots)) (fun tg kg => castTop (ef_By3 m aC (0 : Int32) (3 : Int32)) kg) ?_
  have K0 : Keep h0 h0 [] := Keep.refl _ _
  show Gs p e below _ s₁ m 0 #[rv aC, iv (0 : Int32), iv (3 : Int32), .unset, .unset] []
  refine giloadN X0 hx (hb hby dj52_14_0) rfl ?_
  have lt1 : aC < h0.size := VC.lt
  obtain ⟨_, _, ⟨T2, L2, k2, n2⟩, -, X2, ⟨Lc2, hQ2, l2, y2, z2⟩, st2⟩ := Jvm.LawKit.callS X0 hx (y := mN1) hown (mvT hZ (hwk hw 78 rfl)) (mvT hZ (hwk hw 79 rfl)) (mvT hZ (hwk hw 21 rfl)) (mvT hZ (hwk hw 80 rfl)) (by decide) (backOf (W := 0) (rmNf3 l Z a0 hw [] () h0 n0 Z0 ) hZ (hwk hw 80 rfl) (hwk hw 21 rfl) (by decide) (by decide)) (g := (mkF m 1 #[rv aC, iv (0 : Int32), iv (3 : Int32), .unset, .unset] [(.int (3 : Int32))])) rfl (by rw [hml]; rfl) (argsL := [(.int (3 : Int32))]) (rest := []) (lenOf pd__I__B_b35 rfl) rfl (by show 2 * 0 + _ ≤ _; exact Nat.le_of_eq rfl) (hb hby dj52_14_1) (fun _ _ => ⟨rfl, e0, (by decide : 0 + 1 ≤ 1), (by decide : 0 + 6 ≤ 6)⟩)
  dsimp only [Pt.U, Pt.locs, Pt.cells, Pt.slots] at X2 l2 y2 z2 st2 hQ2
  subst l2 y2 z2
  obtain ⟨b2, kB2, rfl, N2q, K2, szq2, loq2, V2⟩ := hQ2
  have KK3 := K0.trans K2 all0
  have ne_aC_b2 : aC ≠ b2 := Nat.ne_of_lt (Nat.lt_of_lt_of_le lt1 szq2)
  have sz_b2 : h0.size ≤ b2 := by have := KK3.1; have := szq2; omega
  have Z2 : n0 ≤ T2.heap.size := Nat.le_trans Z0 K2.1
  have N2 := Fr.app N0 N2q
  refine Goes.st st2 ?_
  show Gs p e below _ T2 m 4 #[rv aC, iv (0 : Int32), iv (3 : Int32), .unset, .unset] [(.ref b2)]
  refine gastoreN X2 hx (hb hby dj52_14_4) trivial rfl (l' := #[rv aC, iv (0 : Int32), iv (3 : Int32), rv b2, .unset]) rfl ?_
  refine giconst X2 hx (hb hby dj52_14_5) ?_
  refine gistore X2 hx (hb hby dj52_14_6) trivial (l' := #[rv aC, iv (0 : Int32), iv (3 : Int32), rv b2, iv (0 : Int32)]) rfl ?_
  refine giload X2 hx (hb hby dj52_14_8) rfl ?_
  refine giloadN X2 hx (hb hby dj52_14_10) rfl ?_
  show Gs p e below _ T2 m 11 #[rv aC, iv (0 : Int32), iv (3 : Int32), rv b2, iv (0 : Int32)] [(.int (3 : Int32)), (.int (0 : Int32))]
  refine gicmpNo X2 hx (hb hby dj52_14_11) (by decide) ?_
  show Gs p e below _ T2 m 14 #[rv aC, iv (0 : Int32), iv (3 : Int32), rv b2, iv (0 : Int32)] []
  refine galoadN X2 hx (hb hby dj52_14_14) rfl rfl ?_
  refine giload X2 hx (hb hby dj52_14_15) rfl ?_
  refine galoadN X2 hx (hb hby dj52_14_17) rfl rfl ?_
  refine giloadN X2 hx (hb hby dj52_14_18) rfl ?_
  show Gs p e below _ T2 m 19 #[rv aC, iv (0 : Int32), iv (3 : Int32), rv b2, iv (0 : Int32)] [(.int (0 : Int32)), (.ref aC), (.int (0 : Int32)), (.ref b2)]
  have f4 := (VC.keep K2 nin0)
  obtain ⟨cl5, Ar5, qk5, Sz5, qz5, Ha5, Gf5⟩ := id f4
  have in5 := inb_of (j := (0 : Int32)) Sz5 ⟨by decide, by decide⟩
  refine Goes.st (fun tg kg => X2.caload hx (j := (0 : Int32)) (v := (.int c0)) Ar5.1 (State.isArrayOf_alike hZ.alike Ar5.2.1) Ar5.2.2 in5 (Ha5.at in5 rfl) (g := (mkF m 19 #[rv aC, iv (0 : Int32), iv (3 : Int32), rv b2, iv (0 : Int32)] [(.int (0 : Int32)), (.ref aC), (.int (0 : Int32)), (.ref b2)])) rfl rfl (hb hby dj52_14_19) tg kg) ?_
  show Gs p e below _ T2 m 20 #[rv aC, iv (0 : Int32), iv (3 : Int32), rv b2, iv (0 : Int32)] [(.int c0), (.int (0 : Int32)), (.ref b2)]
  have f6 := (Sd.kept K2 ns0)
  have f7 := (Sh.kept K2 ns0)
  have f8 := (Sl.kept K2 ns0)
  obtain ⟨_, _, ⟨T9, L9, k9, n9⟩, -, X9, ⟨Lc9, hQ9, l9, y9, z9⟩, st9⟩ := Jvm.LawKit.callS X2 hx (y := mN2) hown (mvT hZ (hwk hw 85 rfl)) (mvT hZ (hwk hw 86 rfl)) (mvT hZ (hwk hw 21 rfl)) (mvT hZ (hwk hw 87 rfl)) (by decide) (backOf (W := 0) (rmPc30 l Z a0 hw [] b2 kB2 c0 (0 : Int32) (0 : Int32) (0 : Int32) (0 : Int32) (0 : Int32) (0 : Int32) T2.heap n0 Z2 f6 f7 f8 loq2 V2) hZ (hwk hw 87 rfl) (hwk hw 21 rfl) (by decide) (by decide)) (g := (mkF m 20 #[rv aC, iv (0 : Int32), iv (3 : Int32), rv b2, iv (0 : Int32)] [(.int c0), (.int (0 : Int32)), (.ref b2)])) rfl (by rw [hml]; rfl) (argsL := [(.ref b2), (.int (0 : Int32)), (.int c0)]) (rest := []) (lenOf pd___BII_V_1289 rfl) rfl (by show 2 * 0 + _ ≤ _; exact Nat.le_of_eq rfl) (hb hby dj52_14_20) (fun _ _ => ⟨rfl, rfl, (by decide : 1 + 0 ≤ 1), (by decide : 6 + 0 ≤ 6)⟩)
  dsimp only [Pt.U, Pt.locs, Pt.cells, Pt.slots] at X9 l9 y9 z9 st9 hQ9
  subst l9 y9 z9
  obtain ⟨rfl, N9q, K9, V9⟩ := hQ9
  have KK10 := KK3.trans K9 (allS (Or.inr sz_b2) all0)
  have Z9 : n0 ≤ T9.heap.size := Nat.le_trans Z2 K9.1
  have N9 := Fr.app N2 N9q
  refine Goes.st st9 ?_
  show Gs p e below _ T9 m 23 #[rv aC, iv (0 : Int32), iv (3 : Int32), rv b2, iv (0 : Int32)] []
  refine Goes.st (fun tg kg => XS.iinc X9.here hx rfl (hb hby dj52_14_23) rfl (l' := #[rv aC, iv (1 : Int32), iv (3 : Int32), rv b2, iv (0 : Int32)]) rfl kg) ?_
  refine Goes.st (fun tg kg => XS.iinc X9.here hx rfl (hb hby dj52_14_26) rfl (l' := #[rv aC, iv (1 : Int32), iv (3 : Int32), rv b2, iv (1 : Int32)]) rfl kg) ?_
  show Gs p e below _ T9 m 29 #[rv aC, iv (1 : Int32), iv (3 : Int32), rv b2, iv (1 : Int32)] []
  refine ggoto X9 hx (pc' := 8) (hb hby dj52_14_29) (by decide) (by decide) ?_
  show Gs p e below _ T9 m 8 #[rv aC, iv (1 : Int32), iv (3 : Int32), rv b2, iv (1 : Int32)] []
  refine giload X9 hx (hb hby dj52_14_8) rfl ?_
  refine giloadN X9 hx (hb hby dj52_14_10) rfl ?_
  show Gs p e below _ T9 m 11 #[rv aC, iv (1 : Int32), iv (3 : Int32), rv b2, iv (1 : Int32)] [(.int (3 : Int32)), (.int (1 : Int32))]
  refine gicmpNo X9 hx (hb hby dj52_14_11) (by decide) ?_
  show Gs p e below _ T9 m 14 #[rv aC, iv (1 : Int32), iv (3 : Int32), rv b2, iv (1 : Int32)] []
  refine galoadN X9 hx (hb hby dj52_14_14) rfl rfl ?_
  refine giload X9 hx (hb hby dj52_14_15) rfl ?_
  refine galoadN X9 hx (hb hby dj52_14_17) rfl rfl ?_
  refine giloadN X9 hx (hb hby dj52_14_18) rfl ?_
  show Gs p e below _ T9 m 19 #[rv aC, iv (1 : Int32), iv (3 : Int32), rv b2, iv (1 : Int32)] [(.int (1 : Int32)), (.ref aC), (.int (1 : Int32)), (.ref b2)]
  have f11 := (f4.keep K9 (ninS ne_aC_b2 nin0))
  obtain ⟨cl12, Ar12, qk12, Sz12, qz12, Ha12, Gf12⟩ := id f11
  have in12 := inb_of (j := (1 : Int32)) Sz12 ⟨by decide, by decide⟩
  refine Goes.st (fun tg kg => X9.caload hx (j := (1 : Int32)) (v := (.int c1)) Ar12.1 (State.isArrayOf_alike hZ.alike Ar12.2.1) Ar12.2.2 in12 (Ha12.at in12 rfl) (g := (mkF m 19 #[rv aC, iv (1 : Int32), iv (3 : Int32), rv b2, iv (1 : Int32)] [(.int (1 : Int32)), (.ref aC), (.int (1 : Int32)), (.ref b2)])) rfl rfl (hb hby dj52_14_19) tg kg) ?_
  show Gs p e below _ T9 m 20 #[rv aC, iv (1 : Int32), iv (3 : Int32), rv b2, iv (1 : Int32)] [(.int c1), (.int (1 : Int32)), (.ref b2)]
  have f13 := (f6.kept K9 (nsS (Arv.nostat V2) ns0))
  have f14 := (f7.kept K9 (nsS (Arv.nostat V2) ns0))
  have f15 := (f8.kept K9 (nsS (Arv.nostat V2) ns0))
  obtain ⟨_, _, ⟨T16, L16, k16, n16⟩, -, X16, ⟨Lc16, hQ16, l16, y16, z16⟩, st16⟩ := Jvm.LawKit.callS X9 hx (y := mN2) hown (mvT hZ (hwk hw 85 rfl)) (mvT hZ (hwk hw 86 rfl)) (mvT hZ (hwk hw 21 rfl)) (mvT hZ (hwk hw 87 rfl)) (by decide) (backOf (W := 0) (rmPc31 l Z a0 hw [] b2 kB2 c1 (nar .byte (c0 >>> ((0 : Int32) &&& 31)).toInt8.toInt32) (nar .byte (c0 >>> ((8 : Int32) &&& 31)).toInt8.toInt32) (0 : Int32) (0 : Int32) (0 : Int32) (0 : Int32) T9.heap n0 Z9 f13 f14 f15 loq2 V9) hZ (hwk hw 87 rfl) (hwk hw 21 rfl) (by decide) (by decide)) (g := (mkF m 20 #[rv aC, iv (1 : Int32), iv (3 : Int32), rv b2, iv (1 : Int32)] [(.int c1), (.int (1 : Int32)), (.ref b2)])) rfl (by rw [hml]; rfl) (argsL := [(.ref b2), (.int (1 : Int32)), (.int c1)]) (rest := []) (lenOf pd___BII_V_1289 rfl) rfl (by show 2 * 0 + _ ≤ _; exact Nat.le_of_eq rfl) (hb hby dj52_14_20) (fun _ _ => ⟨rfl, rfl, (by decide : 1 + 0 ≤ 1), (by decide : 6 + 0 ≤ 6)⟩)
  dsimp only [Pt.U, Pt.locs, Pt.cells, Pt.slots] at X16 l16 y16 z16 st16 hQ16
  subst l16 y16 z16
  obtain ⟨rfl, N16q, K16, V16⟩ := hQ16
  have KK17 := KK10.trans K16 (allS (Or.inr sz_b2) all0)
  have Z16 : n0 ≤ T16.heap.size := Nat.le_trans Z9 K16.1
  have N16 := Fr.app N9 N16q
  refine Goes.st st16 ?_
  show Gs p e below _ T16 m 23 #[rv aC, iv (1 : Int32), iv (3 : Int32), rv b2, iv (1 : Int32)] []
  refine Goes.st (fun tg kg => XS.iinc X16.here hx rfl (hb hby dj52_14_23) rfl (l' := #[rv aC, iv (2 : Int32), iv (3 : Int32), rv b2, iv (1 : Int32)]) rfl kg) ?_
  refine Goes.st (fun tg kg => XS.iinc X16.here hx rfl (hb hby dj52_14_26) rfl (l' := #[rv aC, iv (2 : Int32), iv (3 : Int32), rv b2, iv (2 : Int32)]) rfl kg) ?_
  show Gs p e below _ T16 m 29 #[rv aC, iv (2 : Int32), iv (3 : Int32), rv b2, iv (2 : Int32)] []
  refine ggoto X16 hx (pc' := 8) (hb hby dj52_14_29) (by decide) (by decide) ?_
  show Gs p e below _ T16 m 8 #[rv aC, iv (2 : Int32), iv (3 : Int32), rv b2, iv (2 : Int32)] []
  refine giload X16 hx (hb hby dj52_14_8) rfl ?_
  refine giloadN X16 hx (hb hby dj52_14_10) rfl ?_
  show Gs p e below _ T16 m 11 #[rv aC, iv (2 : Int32), iv (3 : Int32), rv b2, iv (2 : Int32)] [(.int (3 : Int32)), (.int (2 : Int32))]
  refine gicmpNo X16 hx (hb hby dj52_14_11) (by decide) ?_
  show Gs p e below _ T16 m 14 #[rv aC, iv (2 : Int32), iv (3 : Int32), rv b2, iv (2 : Int32)] []
  refine galoadN X16 hx (hb hby dj52_14_14) rfl rfl ?_
  refine giload X16 hx (hb hby dj52_14_15) rfl ?_
  refine galoadN X16 hx (hb hby dj52_14_17) rfl rfl ?_
  refine giloadN X16 hx (hb hby dj52_14_18) rfl ?_
  show Gs p e below _ T16 m 19 #[rv aC, iv (2 : Int32), iv (3 : Int32), rv b2, iv (2 : Int32)] [(.int (2 : Int32)), (.ref aC), (.int (2 : Int32)), (.ref b2)]
  have f18 := (f11.keep K16 (ninS ne_aC_b2 nin0))
  obtain ⟨cl19, Ar19, qk19, Sz19, qz19, Ha19, Gf19⟩ := id f18
  have in19 := inb_of (j := (2 : Int32)) Sz19 ⟨by decide, by decide⟩
  refine Goes.st (fun tg kg => X16.caload hx (j := (2 : Int32)) (v := (.int c2)) Ar19.1 (State.isArrayOf_alike hZ.alike Ar19.2.1) Ar19.2.2 in19 (Ha19.at in19 rfl) (g := (mkF m 19 #[rv aC, iv (2 : Int32), iv (3 : Int32), rv b2, iv (2 : Int32)] [(.int (2 : Int32)), (.ref aC), (.int (2 : Int32)), (.ref b2)])) rfl rfl (hb hby dj52_14_19) tg kg) ?_
  show Gs p e below _ T16 m 20 #[rv aC, iv (2 : Int32), iv (3 : Int32), rv b2, iv (2 : Int32)] [(.int c2), (.int (2 : Int32)), (.ref b2)]
  have f20 := (f13.kept K16 (nsS (Arv.nostat V9) ns0))
  have f21 := (f14.kept K16 (nsS (Arv.nostat V9) ns0))
  have f22 := (f15.kept K16 (nsS (Arv.nostat V9) ns0))
  obtain ⟨_, _, ⟨T23, L23, k23, n23⟩, -, X23, ⟨Lc23, hQ23, l23, y23, z23⟩, st23⟩ := Jvm.LawKit.callS X16 hx (y := mN2) hown (mvT hZ (hwk hw 85 rfl)) (mvT hZ (hwk hw 86 rfl)) (mvT hZ (hwk hw 21 rfl)) (mvT hZ (hwk hw 87 rfl)) (by decide) (backOf (W := 0) (rmPc32 l Z a0 hw [] b2 kB2 c2 (nar .byte (c0 >>> ((0 : Int32) &&& 31)).toInt8.toInt32) (nar .byte (c0 >>> ((8 : Int32) &&& 31)).toInt8.toInt32) (nar .byte (c1 >>> ((0 : Int32) &&& 31)).toInt8.toInt32) (nar .byte (c1 >>> ((8 : Int32) &&& 31)).toInt8.toInt32) (0 : Int32) (0 : Int32) T16.heap n0 Z16 f20 f21 f22 loq2 V16) hZ (hwk hw 87 rfl) (hwk hw 21 rfl) (by decide) (by decide)) (g := (mkF m 20 #[rv aC, iv (2 : Int32), iv (3 : Int32), rv b2, iv (2 : Int32)] [(.int c2), (.int (2 : Int32)), (.ref b2)])) rfl (by rw [hml]; rfl) (argsL := [(.ref b2), (.int (2 : Int32)), (.int c2)]) (rest := []) (lenOf pd___BII_V_1289 rfl) rfl (by show 2 * 0 + _ ≤ _; exact Nat.le_of_eq rfl) (hb hby dj52_14_20) (fun _ _ => ⟨rfl, rfl, (by decide : 1 + 0 ≤ 1), (by decide : 6 + 0 ≤ 6)⟩)
  dsimp only [Pt.U, Pt.locs, Pt.cells, Pt.slots] at X23 l23 y23 z23 st23 hQ23
  subst l23 y23 z23
  obtain ⟨rfl, N23q, K23, V23⟩ := hQ23
  have KK24 := KK17.trans K23 (allS (Or.inr sz_b2) all0)
  have Z23 : n0 ≤ T23.heap.size := Nat.le_trans Z16 K23.1
  have N23 := Fr.app N16 N23q
  refine Goes.st st23 ?_
  show Gs p e below _ T23 m 23 #[rv aC, iv (2 : Int32), iv (3 : Int32), rv b2, iv (2 : Int32)] []
  refine Goes.st (fun tg kg => XS.iinc X23.here hx rfl (hb hby dj52_14_23) rfl (l' := #[rv aC, iv (3 : Int32), iv (3 : Int32), rv b2, iv (2 : Int32)]) rfl kg) ?_
  refine Goes.st (fun tg kg => XS.iinc X23.here hx rfl (hb hby dj52_14_26) rfl (l' := #[rv aC, iv (3 : Int32), iv (3 : Int32), rv b2, iv (3 : Int32)]) rfl kg) ?_
  show Gs p e below _ T23 m 29 #[rv aC, iv (3 : Int32), iv (3 : Int32), rv b2, iv (3 : Int32)] []
  refine ggoto X23 hx (pc' := 8) (hb hby dj52_14_29) (by decide) (by decide) ?_
  show Gs p e below _ T23 m 8 #[rv aC, iv (3 : Int32), iv (3 : Int32), rv b2, iv (3 : Int32)] []
  refine giload X23 hx (hb hby dj52_14_8) rfl ?_
  refine giloadN X23 hx (hb hby dj52_14_10) rfl ?_
  show Gs p e below _ T23 m 11 #[rv aC, iv (3 : Int32), iv (3 : Int32), rv b2, iv (3 : Int32)] [(.int (3 : Int32)), (.int (3 : Int32))]
  refine gicmpYes X23 hx (pc' := 32) (hb hby dj52_14_11) (by decide) (by decide) (by decide) ?_
  show Gs p e below _ T23 m 32 #[rv aC, iv (3 : Int32), iv (3 : Int32), rv b2, iv (3 : Int32)] []
  refine galoadN X23 hx (hb hby dj52_14_32) rfl rfl ?_
  show Gs p e below _ T23 m 33 #[rv aC, iv (3 : Int32), iv (3 : Int32), rv b2, iv (3 : Int32)] [(.ref b2)]
  refine Goes.retA X23 hx hret rfl rfl rfl (hb hby dj52_14_33) (lvN X23 hlk (vsome hret) ?_ (by decide) (by decide))
  exact ⟨b2, kB2, rfl, N23, KK24, sz_b2, loq2, V23⟩
theorem ef_Cm30 (m : MethodId) (x0 : Addr) (x1 : Int32) (x2 : Addr) (x3 : Int32) (x4 : Int32) : entryFrame m #[(.ref x0), (.int x1), (.ref x2), (.int x3), (.int x4)] 7 = mkF m 0 #[rv x0, iv x1, rv x2, iv x3, iv x4, .unset, .unset] [] := by first | (simp [entryFrame, mkF, argsToLocals, Value.category]; done) | rfl
def QCm30 (Z : State) (aC : Addr) (kC : ClassId) (c0 c1 c2 : Int32) (aB : Addr) (kB : ClassId) (h0 : Heap) (n0 : Nat) (v : Option Value) (h : Heap) (L : List Loc) : Prop := ∃ (vs : List Value), v = some (.int (0 : Int32)) ∧ Fr n0 L ∧ Keep h0 h [aB] ∧ Arv Z h aB kB .byte (3 : Int32) vs (.int (0 : Int32))
set_option maxRecDepth 65536 in
set_option maxHeartbeats 40000000 in
theorem rmCm30 (l : Launch) (Z : State) (a0 : Array Value) (hw : ∀ d ∈ tables_1, d.before a0 Z = true) (ws : List Jvm.Cond) (aC : Addr) (kC : ClassId) (c0 c1 c2 : Int32) (aB : Addr) (kB : ClassId) (h0 : Heap) (n0 : Nat) (Z0 : n0 ≤ h0.size) (VC : Arv Z h0 aC kC .char (3 : Int32) [(.int c0), (.int c1), (.int c2)] (.int (0 : Int32))) (VB : Arv Z h0 aB kB .byte (3 : Int32) [(.int (0 : Int32)), (.int (0 : Int32)), (.int (0 : Int32))] (.int (0 : Int32))) (lB : n0 ≤ aB) (nCB : aC ≠ aB) (hc0 : (255 : Int32) < c0) (hr0 : 0 ≤ c0.toInt ∧ c0.toInt < 65536) :
    MetFree l mN5 (head1 (Jvm.Cond.code mN5 jdk_52_method_21_code 7 (some .int) :: ws) ({ frames := 0, cells := 0, slots := 0, locals := 0 } : Room)) (fun aa U => aa = #[(.ref aC), (.int (0 : Int32)), (.ref aB), (.int (0 : Int32)), (.int (3 : Int32))] ∧ Z.Warmed39 U.vm ∧ U.heap = h0) (fun _ _ _ _ _ => True) (fun _ u1_ o_ u2_ => ∃ v_ l_, o_ = .returned v_ ∧ QCm30 Z aC kC c0 c1 c2 aB kB h0 n0 v_ u2_.heap l_ ∧ FrameEnd u1_ o_ u2_ l_ ({ frames := 0, cells := 0, slots := 0, locals := 0 } : Room).cells ({ frames := 0, cells := 0, slots := 0, locals := 0 } : Room).slots) := by
  refine MetFree.of_bodySF (plainFor_of_name pn_java_lang_StringUTF16) hisR ?_
  intro p e s m args below meth c s₁ Bd hml0 hP hK
  obtain ⟨rfl, hZ, hh⟩ := hP
  have hx := Bd.exec
  have hby := Bd.bytes
  have hlk := BodyLoose.notSynchronized Bd
  have hret := Bd.returns
  have hml : c.maxLocals = 7 := hml0
  have hown : s.vm.findClass "java/lang/StringUTF16" = some m.cls := findClass_of_methodNamed Bd.named
  have hnm := (name_of_methodNamed Bd.named Bd.method).1
  have X0 : Stand p l e ({ frames := 0, cells := 0, slots := 0, locals := 0 } : Room) s m #[(.ref aC), (.int (0 : Int32)), (.ref aB), (.int (0 : Int32)), (.int (3 : Int32))] below meth c s₁ [] 0 0 := Stand.of_body Bd
  have e0 : s₁.heap = h0 := by rw [← hh, Bd.state]; rfl
  have N0 := Fr.nil n0
  refine Goes.st (E := (EN s (QCm30 Z aC kC c0 c1 c2 aB kB h0 n0) ({ frames := 0, cells := 0, slots := 0, locals := 0 } : Room).cells ({ frames := 0, cells := 0, slots := 0, locals := 0 } : Room).slots)) (fun tg kg => castTop (ef_Cm30 m aC (0 : Int32) aB (0 : Int32) (3 : Int32)) kg) ?_
  have K0 : Keep h0 h0 [aB] := Keep.refl _ _
  show Gs p e below _ s₁ m 0 #[rv aC, iv (0 : Int32), rv aB, iv (0 : Int32), iv (3 : Int32), .unset, .unset] []
  refine giconst X0 hx (hb hby dj52_21_0) ?_
  refine gistore X0 hx (hb hby dj52_21_1) trivial (l' := #[rv aC, iv (0 : Int32), rv aB, iv (0 : Int32), iv (3 : Int32), iv (0 : Int32), .unset]) rfl ?_
  refine giload X0 hx (hb hby dj52_21_3) rfl ?_
  refine giload X0 hx (hb hby dj52_21_5) rfl ?_
  show Gs p e below _ s₁ m 7 #[rv aC, iv (0 : Int32), rv aB, iv (0 : Int32), iv (3 : Int32), iv (0 : Int32), .unset] [(.int (3 : Int32)), (.int (0 : Int32))]
  refine gicmpNo X0 hx (hb hby dj52_21_7) (by decide) ?_
  show Gs p e below _ s₁ m 10 #[rv aC, iv (0 : Int32), rv aB, iv (0 : Int32), iv (3 : Int32), iv (0 : Int32), .unset] []
  refine galoadN X0 hx (hb hby dj52_21_10) rfl rfl ?_
  refine giloadN X0 hx (hb hby dj52_21_11) rfl ?_
  show Gs p e below _ s₁ m 12 #[rv aC, iv (0 : Int32), rv aB, iv (0 : Int32), iv (3 : Int32), iv (0 : Int32), .unset] [(.int (0 : Int32)), (.ref aC)]
  obtain ⟨cl1, Ar1, qk1, Sz1, qz1, Ha1, Gf1⟩ := id VC
  have in1 := inb_of (j := (0 : Int32)) Sz1 ⟨by decide, by decide⟩
  refine Goes.st (fun tg kg => X0.caload hx (j := (0 : Int32)) (v := (.int c0)) (by rw [e0]; exact Ar1.1) (State.isArrayOf_alike hZ.alike Ar1.2.1) Ar1.2.2 in1 (Ha1.at in1 rfl) (g := (mkF m 12 #[rv aC, iv (0 : Int32), rv aB, iv (0 : Int32), iv (3 : Int32), iv (0 : Int32), .unset] [(.int (0 : Int32)), (.ref aC)])) rfl rfl (hb hby dj52_21_12) tg kg) ?_
  show Gs p e below _ s₁ m 13 #[rv aC, iv (0 : Int32), rv aB, iv (0 : Int32), iv (3 : Int32), iv (0 : Int32), .unset] [(.int c0)]
  refine gistore X0 hx (hb hby dj52_21_13) trivial (l' := #[rv aC, iv (0 : Int32), rv aB, iv (0 : Int32), iv (3 : Int32), iv (0 : Int32), iv c0]) rfl ?_
  refine giload X0 hx (hb hby dj52_21_15) rfl ?_
  refine Goes.st (fun tg kg => XS.sipush X0.here hx rfl (hb hby dj52_21_17) kg) ?_
  show Gs p e below _ s₁ m 20 #[rv aC, iv (0 : Int32), rv aB, iv (0 : Int32), iv (3 : Int32), iv (0 : Int32), iv c0] [(.int (255 : Int32)), (.int c0)]
  refine gicmpNo X0 hx (hb hby dj52_21_20) (tlt hc0).2.2.2 ?_
  show Gs p e below _ s₁ m 23 #[rv aC, iv (0 : Int32), rv aB, iv (0 : Int32), iv (3 : Int32), iv (0 : Int32), iv c0] []
  refine giload X0 hx (hb hby dj52_21_23) rfl ?_
  show Gs p e below _ s₁ m 25 #[rv aC, iv (0 : Int32), rv aB, iv (0 : Int32), iv (3 : Int32), iv (0 : Int32), iv c0] [(.int (0 : Int32))]
  refine Goes.retI X0 hx hret (hb hby dj52_21_25) (lvN X0 hlk (vsome hret) ?_ (by decide) (by decide))
  rw [e0]
  exact ⟨_, rfl, N0, K0, VB⟩
theorem ef_Cx30 (m : MethodId) (x0 : Addr) (x1 : Int32) (x2 : Int32) : entryFrame m #[(.ref x0), (.int x1), (.int x2)] 6 = mkF m 0 #[rv x0, iv x1, iv x2, .unset, .unset, .unset] [] := by first | (simp [entryFrame, mkF, argsToLocals, Value.category]; done) | rfl
def QCx30 (Z : State) (aC : Addr) (kC : ClassId) (c0 c1 c2 : Int32) (h0 : Heap) (n0 : Nat) (v : Option Value) (h : Heap) (L : List Loc) : Prop := ∃ (b : Addr) (kB : ClassId) (vs : List Value), v = some (.ref b) ∧ Fr n0 L ∧ Keep h0 h [] ∧ h0.size ≤ b ∧ n0 ≤ b ∧ Arv Z h b kB .byte (6 : Int32) vs (.int (0 : Int32))
set_option maxRecDepth 65536 in
set_option maxHeartbeats 40000000 in
theorem rmCx30 (l : Launch) (Z : State) (a0 : Array Value) (hw : ∀ d ∈ tables_1, d.before a0 Z = true) (ws : List Jvm.Cond) (aC : Addr) (kC : ClassId) (c0 c1 c2 : Int32) (h0 : Heap) (n0 : Nat) (Z0 : n0 ≤ h0.size) (Sd : Sta Z h0 "java/lang/StringUTF16" "$assertionsDisabled" "Z" (.int (1 : Int32))) (Sh : Sta Z h0 "java/lang/StringUTF16" "HI_BYTE_SHIFT" "I" (.int (0 : Int32))) (Sl : Sta Z h0 "java/lang/StringUTF16" "LO_BYTE_SHIFT" "I" (.int (8 : Int32))) (VC : Arv Z h0 aC kC .char (3 : Int32) [(.int c0), (.int c1), (.int c2)] (.int (0 : Int32))) (hc0 : (255 : Int32) < c0) (hr0 : 0 ≤ c0.toInt ∧ c0.toInt < 65536) :
    MetFree l mN6 (head1 (Jvm.Cond.code mN6 jdk_52_method_16_code 6 (some (.array .byte)) :: ws) ({ frames := 3, cells := 2, slots := 9, locals := 40 } : Room)) (fun aa U => aa = #[(.ref aC), (.int (0 : Int32)), (.int (3 : Int32))] ∧ Z.Warmed39 U.vm ∧ U.heap = h0) (fun _ _ _ _ _ => True) (fun _ u1_ o_ u2_ => ∃ v_ l_, o_ = .returned v_ ∧ QCx30 Z aC kC c0 c1 c2 h0 n0 v_ u2_.heap l_ ∧ FrameEnd u1_ o_ u2_ l_ ({ frames := 3, cells := 2, slots := 9, locals := 40 } : Room).cells ({ frames := 3, cells := 2, slots := 9, locals := 40 } : Room).slots) := by
  refine MetFree.of_bodySF (plainFor_of_name pn_java_lang_StringUTF16) hisR ?_
  intro p e s m args below meth c s₁ Bd hml0 hP hK
  obtain ⟨rfl, hZ, hh⟩ := hP
  have hx := Bd.exec
  have hby := Bd.bytes
  have hlk := BodyLoose.notSynchronized Bd
  have hret := Bd.returns
  have hml : c.maxLocals = 6 := hml0
  have hown : s.vm.findClass "java/lang/StringUTF16" = some m.cls := findClass_of_methodNamed Bd.named
  have hnm := (name_of_methodNamed Bd.named Bd.method).1
  have X0 : Stand p l e ({ frames := 3, cells := 2, slots := 9, locals := 40 } : Room) s m #[(.ref aC), (.int (0 : Int32)), (.int (3 : Int32))] below meth c s₁ [] 0 0 := Stand.of_body Bd
  have e0 : s₁.heap = h0 := by rw [← hh, Bd.state]; rfl
  have N0 := Fr.nil n0
  refine Goes.st (E := (EN s (QCx30 Z aC kC c0 c1 c2 h0 n0) ({ frames := 3, cells := 2, slots := 9, locals := 40 } : Room).cells ({ frames := 3, cells := 2, slots := 9, locals := 40 } : Room).slots)) (fun tg kg => castTop (ef_Cx30 m aC (0 : Int32) (3 : Int32)) kg) ?_
  have K0 : Keep h0 h0 [] := Keep.refl _ _
  show Gs p e below _ s₁ m 0 #[rv aC, iv (0 : Int32), iv (3 : Int32), .unset, .unset, .unset] []
  refine giloadN X0 hx (hb hby dj52_16_0) rfl ?_
  obtain ⟨T1, h1, cA1, X1, e1, E1, A1, st1⟩ := newP X0 hx hZ (hwk hw 23 rfl) e0 (g := (mkF m 1 #[rv aC, iv (0 : Int32), iv (3 : Int32), .unset, .unset, .unset] [(.int (3 : Int32))])) rfl (hb hby dj52_16_1) rfl (by decide) (cap := 3) (by decide) (by decide) (by decide) (by decide)
  obtain ⟨b1, g1⟩ : ∃ z, z = h0.size := ⟨_, rfl⟩
  rw [← g1] at A1 st1
  have ne_aC_b1 : aC ≠ b1 := Nat.ne_of_lt (Nat.lt_of_lt_of_le VC.lt (Nat.le_of_eq g1.symm))
  have lo_b1 : n0 ≤ b1 := by have := Z0; omega
  have sz_b1 : h0.size ≤ b1 := by have := K0.1; omega
  have KK2 := K0.ext E1
  have V1 : Arv Z h1 b1 cA1 .byte (3 : Int32) [(.int (0 : Int32)), (.int (0 : Int32)), (.int (0 : Int32))] (.int (0 : Int32)) := (Arv.new A1 (by decide)).pad (pad_rep [] _ 3)
  refine Goes.st st1 ?_
  have Z1 : n0 ≤ h1.size := Nat.le_trans Z0 E1.1
  show Gs p e below _ T1 m 3 #[rv aC, iv (0 : Int32), iv (3 : Int32), .unset, .unset, .unset] [(.ref b1)]
  refine gastoreN X1 hx (hb hby dj52_16_3) trivial rfl (l' := #[rv aC, iv (0 : Int32), iv (3 : Int32), rv b1, .unset, .unset]) rfl ?_
  refine galoadN X1 hx (hb hby dj52_16_4) rfl rfl ?_
  refine giloadN X1 hx (hb hby dj52_16_5) rfl ?_
  refine galoadN X1 hx (hb hby dj52_16_6) rfl rfl ?_
  refine giconst X1 hx (hb hby dj52_16_7) ?_
  show Gs p e below _ T1 m 8 #[rv aC, iv (0 : Int32), iv (3 : Int32), rv b1, .unset, .unset] [(.int (0 : Int32)), (.ref b1), (.int (0 : Int32)), (.ref aC)]
  refine giloadN X1 hx (hb hby dj52_16_8) rfl ?_
  have f3 := (VC.ext E1)
  obtain ⟨_, _, ⟨T4, L4, k4, n4⟩, -, X4, ⟨Lc4, hQ4, l4, y4, z4⟩, st4⟩ := Jvm.LawKit.callS X1 hx (y := mN5) hown (mvT hZ (hwk hw 24 rfl)) (mvT hZ (hwk hw 25 rfl)) (mvT hZ (hwk hw 21 rfl)) (mvT hZ (hwk hw 26 rfl)) (by decide) (backOf (W := 0) (rmCm30 l Z a0 hw [] aC kC c0 c1 c2 b1 cA1 h1 n0 Z1 f3 V1 lo_b1 ne_aC_b1 hc0 hr0) hZ (hwk hw 26 rfl) (hwk hw 21 rfl) (by decide) (by decide)) (g := (mkF m 9 #[rv aC, iv (0 : Int32), iv (3 : Int32), rv b1, .unset, .unset] [(.int (3 : Int32)), (.int (0 : Int32)), (.ref b1), (.int (0 : Int32)), (.ref aC)])) rfl (by rw [hml]; rfl) (argsL := [(.ref aC), (.int (0 : Int32)), (.ref b1), (.int (0 : Int32)), (.int (3 : Int32))]) (rest := []) (lenOf pd___CI_BII_I_1ed0 rfl) rfl (by show 2 * 0 + _ ≤ _; exact Nat.le_of_eq rfl) (hb hby dj52_16_9) (fun _ _ => ⟨rfl, e1, (by decide : 1 + 0 ≤ 2), (by decide : 3 + 0 ≤ 9)⟩)
  dsimp only [Pt.U, Pt.locs, Pt.cells, Pt.slots] at X4 l4 y4 z4 st4 hQ4
  subst l4 y4 z4
  obtain ⟨vs4, rfl, N4q, K4, V4⟩ := hQ4
  have KK5 := KK2.trans K4 (allS (Or.inr sz_b1) all0)
  have Z4 : n0 ≤ T4.heap.size := Nat.le_trans Z1 K4.1
  have N4 := Fr.app N0 N4q
  refine Goes.st st4 ?_
  show Gs p e below _ T4 m 12 #[rv aC, iv (0 : Int32), iv (3 : Int32), rv b1, .unset, .unset] [(.int (0 : Int32))]
  refine gistore X4 hx (hb hby dj52_16_12) trivial (l' := #[rv aC, iv (0 : Int32), iv (3 : Int32), rv b1, iv (0 : Int32), .unset]) rfl ?_
  refine giload X4 hx (hb hby dj52_16_14) rfl ?_
  refine giloadN X4 hx (hb hby dj52_16_16) rfl ?_
  show Gs p e below _ T4 m 17 #[rv aC, iv (0 : Int32), iv (3 : Int32), rv b1, iv (0 : Int32), .unset] [(.int (3 : Int32)), (.int (0 : Int32))]
  refine gicmpNo X4 hx (hb hby dj52_16_17) (by decide) ?_
  show Gs p e below _ T4 m 20 #[rv aC, iv (0 : Int32), iv (3 : Int32), rv b1, iv (0 : Int32), .unset] []
  refine galoadN X4 hx (hb hby dj52_16_20) rfl rfl ?_
  refine giloadN X4 hx (hb hby dj52_16_21) rfl ?_
  refine giloadN X4 hx (hb hby dj52_16_22) rfl ?_
  have f6 := (f3.keep K4 (ninS ne_aC_b1 nin0))
  have f7 := ((Sd.ext E1).kept K4 (nsS (Arv.nostat V1) ns0))
  have f8 := ((Sh.ext E1).kept K4 (nsS (Arv.nostat V1) ns0))
  have f9 := ((Sl.ext E1).kept K4 (nsS (Arv.nostat V1) ns0))
  have lt10 : aC < T4.heap.size := f6.lt
  have lt11 : b1 < T4.heap.size := V4.lt
  obtain ⟨_, _, ⟨T12, L12, k12, n12⟩, -, X12, ⟨Lc12, hQ12, l12, y12, z12⟩, st12⟩ := Jvm.LawKit.callS X4 hx (y := mN4) hown (mvT hZ (hwk hw 75 rfl)) (mvT hZ (hwk hw 76 rfl)) (mvT hZ (hwk hw 21 rfl)) (mvT hZ (hwk hw 77 rfl)) (by decide) (backOf (W := 0) (rmBy3 l Z a0 hw [] aC kC c0 c1 c2 T4.heap n0 Z4 f7 f8 f9 f6) hZ (hwk hw 77 rfl) (hwk hw 21 rfl) (by decide) (by decide)) (g := (mkF m 23 #[rv aC, iv (0 : Int32), iv (3 : Int32), rv b1, iv (0 : Int32), .unset] [(.int (3 : Int32)), (.int (0 : Int32)), (.ref aC)])) rfl (by rw [hml]; rfl) (argsL := [(.ref aC), (.int (0 : Int32)), (.int (3 : Int32))]) (rest := []) (lenOf pd___CII__B_166f rfl) rfl (by show 2 * 0 + _ ≤ _; exact Nat.le_of_eq rfl) (hb hby dj52_16_23) (fun _ _ => ⟨rfl, rfl, (by decide : 1 + 1 ≤ 2), (by decide : 3 + 6 ≤ 9)⟩)
  dsimp only [Pt.U, Pt.locs, Pt.cells, Pt.slots] at X12 l12 y12 z12 st12 hQ12
  subst l12 y12 z12
  obtain ⟨b12, kB12, rfl, N12q, K12, szq12, loq12, V12⟩ := hQ12
  have KK13 := KK5.trans K12 all0
  have ne_aC_b12 : aC ≠ b12 := Nat.ne_of_lt (Nat.lt_of_lt_of_le lt10 szq12)
  have ne_b1_b12 : b1 ≠ b12 := Nat.ne_of_lt (Nat.lt_of_lt_of_le lt11 szq12)
  have sz_b12 : h0.size ≤ b12 := by have := KK13.1; have := szq12; omega
  have Z12 : n0 ≤ T12.heap.size := Nat.le_trans Z4 K12.1
  have N12 := Fr.app N4 N12q
  refine Goes.st st12 ?_
  show Gs p e below _ T12 m 26 #[rv aC, iv (0 : Int32), iv (3 : Int32), rv b1, iv (0 : Int32), .unset] [(.ref b12)]
  refine gastore X12 hx (hb hby dj52_16_26) trivial rfl (l' := #[rv aC, iv (0 : Int32), iv (3 : Int32), rv b1, iv (0 : Int32), rv b12]) rfl ?_
  refine gaload X12 hx (hb hby dj52_16_28) rfl rfl ?_
  refine giload X12 hx (hb hby dj52_16_30) rfl ?_
  have f14 := (f7.kept K12 ns0)
  have f15 := (f8.kept K12 ns0)
  have f16 := (f9.kept K12 ns0)
  obtain ⟨_, _, ⟨T17, L17, k17, n17⟩, -, X17, ⟨Lc17, hQ17, l17, y17, z17⟩, st17⟩ := Jvm.LawKit.callS X12 hx (y := mN3) hown (mvT hZ (hwk hw 91 rfl)) (mvT hZ (hwk hw 92 rfl)) (mvT hZ (hwk hw 21 rfl)) (mvT hZ (hwk hw 93 rfl)) (by decide) (backOf (W := 0) (rmGc30 l Z a0 hw [] b12 kB12 (nar .byte (c0 >>> ((0 : Int32) &&& 31)).toInt8.toInt32) (nar .byte (c0 >>> ((8 : Int32) &&& 31)).toInt8.toInt32) (nar .byte (c1 >>> ((0 : Int32) &&& 31)).toInt8.toInt32) (nar .byte (c1 >>> ((8 : Int32) &&& 31)).toInt8.toInt32) (nar .byte (c2 >>> ((0 : Int32) &&& 31)).toInt8.toInt32) (nar .byte (c2 >>> ((8 : Int32) &&& 31)).toInt8.toInt32) T12.heap n0 Z12 f14 f15 f16 V12) hZ (hwk hw 93 rfl) (hwk hw 21 rfl) (by decide) (by decide)) (g := (mkF m 32 #[rv aC, iv (0 : Int32), iv (3 : Int32), rv b1, iv (0 : Int32), rv b12] [(.int (0 : Int32)), (.ref b12)])) rfl (by rw [hml]; rfl) (argsL := [(.ref b12), (.int (0 : Int32))]) (rest := []) (lenOf pd___BI_C_e03 rfl) rfl (by show 2 * 0 + _ ≤ _; exact Nat.le_of_eq rfl) (hb hby dj52_16_32) (fun _ _ => ⟨rfl, rfl, (by decide : 2 + 0 ≤ 2), (by decide : 9 + 0 ≤ 9)⟩)
  dsimp only [Pt.U, Pt.locs, Pt.cells, Pt.slots] at X17 l17 y17 z17 st17 hQ17
  subst l17 y17 z17
  obtain ⟨rfl, N17q, eh17⟩ := hQ17
  rw [own_gc hr0] at st17
  have N17 := Fr.app N12 N17q
  refine Goes.st st17 ?_
  show Gs p e below _ T17 m 35 #[rv aC, iv (0 : Int32), iv (3 : Int32), rv b1, iv (0 : Int32), rv b12] [(.int c0)]
  refine Goes.st (fun tg kg => XS.sipush X17.here hx rfl (hb hby dj52_16_35) kg) ?_
  show Gs p e below _ T17 m 38 #[rv aC, iv (0 : Int32), iv (3 : Int32), rv b1, iv (0 : Int32), rv b12] [(.int (255 : Int32)), (.int c0)]
  refine gicmpYes X17 hx (pc' := 54) (hb hby dj52_16_38) (tlt hc0).2.2.1 (by decide) (by decide) ?_
  show Gs p e below _ T17 m 54 #[rv aC, iv (0 : Int32), iv (3 : Int32), rv b1, iv (0 : Int32), rv b12] []
  refine gaload X17 hx (hb hby dj52_16_54) rfl rfl ?_
  show Gs p e below _ T17 m 56 #[rv aC, iv (0 : Int32), iv (3 : Int32), rv b1, iv (0 : Int32), rv b12] [(.ref b12)]
  refine Goes.retA X17 hx hret rfl rfl rfl (hb hby dj52_16_56) (lvN X17 hlk (vsome hret) ?_ (by decide) (by decide))
  rw [eh17]
  exact ⟨b12, kB12, _, rfl, N17, KK13, sz_b12, loq12, V12⟩
theorem ef_Cl36 (m : MethodId) (x0 : Addr) (x1 : Int32) : entryFrame m #[(.ref x0), (.int x1)] 2 = mkF m 0 #[rv x0, iv x1] [] := by first | (simp [entryFrame, mkF, argsToLocals, Value.category]; done) | rfl
def QCl36 (Z : State) (aB : Addr) (kB : ClassId) (vs : List Value) (h0 : Heap) (n0 : Nat) (v : Option Value) (h : Heap) (L : List Loc) : Prop := v = some (.int (1 : Int32)) ∧ Fr n0 L ∧ h = h0
set_option maxRecDepth 65536 in
set_option maxHeartbeats 40000000 in
theorem rmCl36 (l : Launch) (Z : State) (a0 : Array Value) (hw : ∀ d ∈ tables_1, d.before a0 Z = true) (ws : List Jvm.Cond) (aB : Addr) (kB : ClassId) (vs : List Value) (h0 : Heap) (n0 : Nat) (Z0 : n0 ≤ h0.size) (VB : Arv Z h0 aB kB .byte (6 : Int32) vs (.int (0 : Int32))) :
    MetFree l mN7 (head1 (Jvm.Cond.code mN7 jdk_52_method_15_code 2 (some .byte) :: ws) ({ frames := 0, cells := 0, slots := 0, locals := 0 } : Room)) (fun aa U => aa = #[(.ref aB), (.int (3 : Int32))] ∧ Z.Warmed39 U.vm ∧ U.heap = h0) (fun _ _ _ _ _ => True) (fun _ u1_ o_ u2_ => ∃ v_ l_, o_ = .returned v_ ∧ QCl36 Z aB kB vs h0 n0 v_ u2_.heap l_ ∧ FrameEnd u1_ o_ u2_ l_ ({ frames := 0, cells := 0, slots := 0, locals := 0 } : Room).cells ({ frames := 0, cells := 0, slots := 0, locals := 0 } : Room).slots) := by
  refine MetFree.of_bodySF (plainFor_of_name pn_java_lang_StringUTF16) hisR ?_
  intro p e s m args below meth c s₁ Bd hml0 hP hK
  obtain ⟨rfl, hZ, hh⟩ := hP
  have hx := Bd.exec
  have hby := Bd.bytes
  have hlk := BodyLoose.notSynchronized Bd
  have hret := Bd.returns
  have hml : c.maxLocals = 2 := hml0
  have hown : s.vm.findClass "java/lang/StringUTF16" = some m.cls := findClass_of_methodNamed Bd.named
  have hnm := (name_of_methodNamed Bd.named Bd.method).1
  have X0 : Stand p l e ({ frames := 0, cells := 0, slots := 0, locals := 0 } : Room) s m #[(.ref aB), (.int (3 : Int32))] below meth c s₁ [] 0 0 := Stand.of_body Bd
  have e0 : s₁.heap = h0 := by rw [← hh, Bd.state]; rfl
  have N0 := Fr.nil n0
  refine Goes.st (E := (EN s (QCl36 Z aB kB vs h0 n0) ({ frames := 0, cells := 0, slots := 0, locals := 0 } : Room).cells ({ frames := 0, cells := 0, slots := 0, locals := 0 } : Room).slots)) (fun tg kg => castTop (ef_Cl36 m aB (3 : Int32)) kg) ?_
  show Gs p e below _ s₁ m 0 #[rv aB, iv (3 : Int32)] []
  refine giloadN X0 hx (hb hby dj52_15_0) rfl ?_
  refine galoadN X0 hx (hb hby dj52_15_1) rfl rfl ?_
  show Gs p e below _ s₁ m 2 #[rv aB, iv (3 : Int32)] [(.ref aB), (.int (3 : Int32))]
  obtain ⟨cl1, Ar1, qk1, Sz1, qz1, Ha1, Gf1⟩ := id VB
  refine Goes.st (fun tg kg => X0.arraylength hx (cell := cl1) (by rw [e0]; exact Ar1.1) (State.isArrayOf_alike hZ.alike Ar1.2.1) (g := (mkF m 2 #[rv aB, iv (3 : Int32)] [(.ref aB), (.int (3 : Int32))])) rfl (rest := [(.int (3 : Int32))]) rfl (hb hby dj52_15_2) tg kg) ?_
  rw [len_of Sz1 qz1]
  show Gs p e below _ s₁ m 3 #[rv aB, iv (3 : Int32)] [(.int (6 : Int32)), (.int (3 : Int32))]
  refine gisub X0 hx (hb hby dj52_15_3) trivial ?_
  show Gs p e below _ s₁ m 4 #[rv aB, iv (3 : Int32)] [(.int ((3 : Int32) - (6 : Int32)))]
  rw [show ((3 : Int32) - (6 : Int32)) = (-3 : Int32) from by decide]
  show Gs p e below _ s₁ m 4 #[rv aB, iv (3 : Int32)] [(.int (-3 : Int32))]
  refine Goes.st (fun tg kg => XS.bipush X0.here hx rfl (hb hby dj52_15_4) kg) ?_
  show Gs p e below _ s₁ m 6 #[rv aB, iv (3 : Int32)] [(.int (31 : Int32)), (.int (-3 : Int32))]
  refine Goes.st (fun tg kg => XT.iushr X0.here hx rfl (hb hby dj52_15_6) rfl kg) ?_
  show Gs p e below _ s₁ m 7 #[rv aB, iv (3 : Int32)] [(.int (XT.ushr (-3 : Int32) (31 : Int32)))]
  rw [show (XT.ushr (-3 : Int32) (31 : Int32)) = (1 : Int32) from by decide]
  show Gs p e below _ s₁ m 7 #[rv aB, iv (3 : Int32)] [(.int (1 : Int32))]
  refine Goes.st (fun tg kg => XT.i2b X0.here hx rfl (hb hby dj52_15_7) rfl kg) ?_
  show Gs p e below _ s₁ m 8 #[rv aB, iv (3 : Int32)] [(.int ((1 : Int32)).toInt8.toInt32)]
  rw [show ((1 : Int32)).toInt8.toInt32 = (1 : Int32) from by decide]
  show Gs p e below _ s₁ m 8 #[rv aB, iv (3 : Int32)] [(.int (1 : Int32))]
  refine Goes.retN X0 hx hret (by simp) (hb hby dj52_15_8) (by decide) (lvN X0 hlk (vsome hret) ?_ (by decide) (by decide))
  rw [e0]
  exact ⟨rfl, N0, rfl⟩
theorem ef_Iv30 (m : MethodId) (x0 : Addr) (x1 : Addr) (x2 : Int32) (x3 : Int32) : entryFrame m #[(.ref x0), (.ref x1), (.int x2), (.int x3), .null] 6 = mkF m 0 #[rv x0, rv x1, iv x2, iv x3, .val .null, .unset] [] := by first | (simp [entryFrame, mkF, argsToLocals, Value.category]; done) | rfl
def QIv30 (Z : State) (a : Addr) (cs : Int32) (aC : Addr) (kC : ClassId) (c0 c1 c2 : Int32) (h0 : Heap) (n0 : Nat) (v : Option Value) (h : Heap) (L : List Loc) : Prop := v = none ∧ Fr n0 L ∧ Keep h0 h [a]
set_option maxRecDepth 65536 in
set_option maxHeartbeats 40000000 in
theorem rmIv30 (l : Launch) (Z : State) (a0 : Array Value) (hw : ∀ d ∈ tables_1, d.before a0 Z = true) (ws : List Jvm.Cond) (a : Addr) (cs : Int32) (aC : Addr) (kC : ClassId) (c0 c1 c2 : Int32) (h0 : Heap) (n0 : Nat) (Z0 : n0 ≤ h0.size) (Scs : Sta Z h0 "java/lang/String" "COMPACT_STRINGS" "Z" (.int cs)) (hcs : ¬ cs = (0 : Int32)) (Sd : Sta Z h0 "java/lang/StringUTF16" "$assertionsDisabled" "Z" (.int (1 : Int32))) (Sh : Sta Z h0 "java/lang/StringUTF16" "HI_BYTE_SHIFT" "I" (.int (0 : Int32))) (Sl : Sta Z h0 "java/lang/StringUTF16" "LO_BYTE_SHIFT" "I" (.int (8 : Int32))) (Ea : Exa Z h0 a "java/lang/String") (ga : n0 ≤ a) (Fv : Fld Z h0 a "java/lang/String" "value" "[B" .null) (Fc : Fld Z h0 a "java/lang/String" "coder" "B" (.int (0 : Int32))) (VC : Arv Z h0 aC kC .char (3 : Int32) [(.int c0), (.int c1), (.int c2)] (.int (0 : Int32))) (naC : a ≠ aC) (hc0 : (255 : Int32) < c0) (hr0 : 0 ≤ c0.toInt ∧ c0.toInt < 65536) :
    MetFree l mN8 (head1 (Jvm.Cond.code mN8 jdk_42_method_149_code 6 none :: ws) ({ frames := 4, cells := 2, slots := 9, locals := 57 } : Room)) (fun aa U => aa = #[(.ref a), (.ref aC), (.int (0 : Int32)), (.int (3 : Int32)), .null] ∧ Z.Warmed39 U.vm ∧ U.heap = h0) (fun _ _ _ _ _ => True) (fun _ u1_ o_ u2_ => ∃ v_ l_, o_ = .returned v_ ∧ QIv30 Z a cs aC kC c0 c1 c2 h0 n0 v_ u2_.heap l_ ∧ FrameEnd u1_ o_ u2_ l_ ({ frames := 4, cells := 2, slots := 9, locals := 57 } : Room).cells ({ frames := 4, cells := 2, slots := 9, locals := 57 } : Room).slots) := by
  refine MetFree.of_bodySF (plainFor_of_name pn_java_lang_String) hisR ?_
  intro p e s m args below meth c s₁ Bd hml0 hP hK
  obtain ⟨rfl, hZ, hh⟩ := hP
  have hx := Bd.exec
  have hby := Bd.bytes
  have hlk := BodyLoose.notSynchronized Bd
  have hret := Bd.returns
  have hml : c.maxLocals = 6 := hml0
  have hown : s.vm.findClass "java/lang/String" = some m.cls := findClass_of_methodNamed Bd.named
  have hnm := (name_of_methodNamed Bd.named Bd.method).1
  have X0 : Stand p l e ({ frames := 4, cells := 2, slots := 9, locals := 57 } : Room) s m #[(.ref a), (.ref aC), (.int (0 : Int32)), (.int (3 : Int32)), .null] below meth c s₁ [] 0 0 := Stand.of_body Bd
  have e0 : s₁.heap = h0 := by rw [← hh, Bd.state]; rfl
  have N0 := Fr.nil n0
  refine Goes.st (E := (EN s (QIv30 Z a cs aC kC c0 c1 c2 h0 n0) ({ frames := 4, cells := 2, slots := 9, locals := 57 } : Room).cells ({ frames := 4, cells := 2, slots := 9, locals := 57 } : Room).slots)) (fun tg kg => castTop (ef_Iv30 m a aC (0 : Int32) (3 : Int32)) kg) ?_
  have K0 : Keep h0 h0 [a] := Keep.refl _ _
  show Gs p e below _ s₁ m 0 #[rv a, rv aC, iv (0 : Int32), iv (3 : Int32), .val .null, .unset] []
  refine galoadN X0 hx (hb hby dj42_149_0) rfl rfl ?_
  obtain ⟨T1, X1, e1, st1⟩ := initO X0 hx hZ hown (hwk hw 15 rfl) (hwk hw 16 rfl) (hwk hw 17 rfl) e0 (g := (mkF m 1 #[rv a, rv aC, iv (0 : Int32), iv (3 : Int32), .val .null, .unset] [(.ref a)])) rfl (by rw [hml]; rfl) rfl (hb hby dj42_149_1) (by decide) (W := 0) (by show 2 * 0 + _ ≤ _; exact Nat.le_of_eq rfl) (by decide)
  refine Goes.st st1 ?_
  show Gs p e below _ T1 m 4 #[rv a, rv aC, iv (0 : Int32), iv (3 : Int32), .val .null, .unset] []
  refine giloadN X1 hx (hb hby dj42_149_4) rfl ?_
  show Gs p e below _ T1 m 5 #[rv a, rv aC, iv (0 : Int32), iv (3 : Int32), .val .null, .unset] [(.int (3 : Int32))]
  refine gifYes X1 hx (pc' := 27) (hb hby dj42_149_5) (by decide) (by decide) (by decide) ?_
  show Gs p e below _ T1 m 27 #[rv a, rv aC, iv (0 : Int32), iv (3 : Int32), .val .null, .unset] []
  obtain ⟨T2, X2, e2, st2⟩ := getS X1 hx hZ hown (host := "") (hwk hw 18 rfl) Via.refl e1 Scs (g := (mkF m 27 #[rv a, rv aC, iv (0 : Int32), iv (3 : Int32), .val .null, .unset] [])) rfl (hb hby dj42_149_27)
  refine Goes.st st2 ?_
  show Gs p e below _ T2 m 30 #[rv a, rv aC, iv (0 : Int32), iv (3 : Int32), .val .null, .unset] [(.int cs)]
  refine gifNo X2 hx (hb hby dj42_149_30) ((if0 _ _).trans (feq hcs).1) ?_
  show Gs p e below _ T2 m 33 #[rv a, rv aC, iv (0 : Int32), iv (3 : Int32), .val .null, .unset] []
  refine galoadN X2 hx (hb hby dj42_149_33) rfl rfl ?_
  refine giloadN X2 hx (hb hby dj42_149_34) rfl ?_
  refine giloadN X2 hx (hb hby dj42_149_35) rfl ?_
  have lt3 : a < h0.size := Ea.lt
  have lt4 : aC < h0.size := VC.lt
  obtain ⟨_, _, ⟨T5, L5, k5, n5⟩, -, X5, ⟨Lc5, hQ5, l5, y5, z5⟩, st5⟩ := Jvm.LawKit.callS X2 hx (y := mN6) hown (mvT hZ (hwk hw 19 rfl)) (mvT hZ (hwk hw 20 rfl)) (mvT hZ (hwk hw 21 rfl)) (mvT hZ (hwk hw 22 rfl)) (by decide) (backOf (W := 0) (rmCx30 l Z a0 hw [] aC kC c0 c1 c2 h0 n0 Z0 Sd Sh Sl VC hc0 hr0) hZ (hwk hw 22 rfl) (hwk hw 21 rfl) (by decide) (by decide)) (g := (mkF m 36 #[rv a, rv aC, iv (0 : Int32), iv (3 : Int32), .val .null, .unset] [(.int (3 : Int32)), (.int (0 : Int32)), (.ref aC)])) rfl (by rw [hml]; rfl) (argsL := [(.ref aC), (.int (0 : Int32)), (.int (3 : Int32))]) (rest := []) (lenOf pd___CII__B_166f rfl) rfl (by show 2 * 0 + _ ≤ _; exact Nat.le_of_eq rfl) (hb hby dj42_149_36) (fun _ _ => ⟨rfl, e2, (by decide : 0 + 2 ≤ 2), (by decide : 0 + 9 ≤ 9)⟩)
  dsimp only [Pt.U, Pt.locs, Pt.cells, Pt.slots] at X5 l5 y5 z5 st5 hQ5
  subst l5 y5 z5
  obtain ⟨b5, kB5, vs5, rfl, N5q, K5, szq5, loq5, V5⟩ := hQ5
  have KK6 := K0.trans K5 all0
  have ne_a_b5 : a ≠ b5 := Nat.ne_of_lt (Nat.lt_of_lt_of_le lt3 szq5)
  have ne_aC_b5 : aC ≠ b5 := Nat.ne_of_lt (Nat.lt_of_lt_of_le lt4 szq5)
  have sz_b5 : h0.size ≤ b5 := by have := KK6.1; have := szq5; omega
  have Z5 : n0 ≤ T5.heap.size := Nat.le_trans Z0 K5.1
  have N5 := Fr.app N0 N5q
  refine Goes.st st5 ?_
  show Gs p e below _ T5 m 39 #[rv a, rv aC, iv (0 : Int32), iv (3 : Int32), .val .null, .unset] [(.ref b5)]
  refine gastore X5 hx (hb hby dj42_149_39) trivial rfl (l' := #[rv a, rv aC, iv (0 : Int32), iv (3 : Int32), .val .null, rv b5]) rfl ?_
  refine galoadN X5 hx (hb hby dj42_149_41) rfl rfl ?_
  refine gaload X5 hx (hb hby dj42_149_42) rfl rfl ?_
  refine giloadN X5 hx (hb hby dj42_149_44) rfl ?_
  obtain ⟨_, _, ⟨T7, L7, k7, n7⟩, -, X7, ⟨Lc7, hQ7, l7, y7, z7⟩, st7⟩ := Jvm.LawKit.callS X5 hx (y := mN7) hown (mvT hZ (hwk hw 27 rfl)) (mvT hZ (hwk hw 28 rfl)) (mvT hZ (hwk hw 21 rfl)) (mvT hZ (hwk hw 29 rfl)) (by decide) (backOf (W := 1) (rmCl36 l Z a0 hw [] b5 kB5 vs5 T5.heap n0 Z5 V5) hZ (hwk hw 29 rfl) (hwk hw 21 rfl) (by decide) (by decide)) (g := (mkF m 45 #[rv a, rv aC, iv (0 : Int32), iv (3 : Int32), .val .null, rv b5] [(.int (3 : Int32)), (.ref b5), (.ref a)])) rfl (by rw [hml]; rfl) (argsL := [(.ref b5), (.int (3 : Int32))]) (rest := [(.ref a)]) (lenOf pd___BI_B_df7 rfl) rfl (by show 2 * 0 + _ ≤ _; exact Nat.le_of_eq rfl) (hb hby dj42_149_45) (fun _ _ => ⟨rfl, rfl, (by decide : 2 + 0 ≤ 2), (by decide : 9 + 0 ≤ 9)⟩)
  dsimp only [Pt.U, Pt.locs, Pt.cells, Pt.slots] at X7 l7 y7 z7 st7 hQ7
  subst l7 y7 z7
  obtain ⟨rfl, N7q, eh7⟩ := hQ7
  have N7 := Fr.app N5 N7q
  refine Goes.st st7 ?_
  show Gs p e below _ T7 m 48 #[rv a, rv aC, iv (0 : Int32), iv (3 : Int32), .val .null, rv b5] [(.int (1 : Int32)), (.ref a)]
  have f9 := (Fc.keep K5 nin0)
  have f10 := (Ea.keep K5)
  obtain ⟨T8, h8, X8, e8, W8, st8⟩ := putFN X7 hx hZ hown (hwk hw 30 rfl) Via.refl eh7 f9 f10 (Or.inr ⟨(hwk hw 31 rfl), rfl, hnm⟩) (hwk hw 5 rfl) (ty := .byte) (v' := (.int (1 : Int32))) (by decide) rfl (by decide) (g := (mkF m 48 #[rv a, rv aC, iv (0 : Int32), iv (3 : Int32), .val .null, rv b5] [(.int (1 : Int32)), (.ref a)])) rfl rfl (hb hby dj42_149_48)
  have N8 := Fr.snoc X8 N7 ga
  have G8 := f9.same W8
  refine Goes.st st8 ?_
  have KK11 := KK6.wr W8 (Or.inl (List.mem_of_getElem? (i := 0) rfl))
  have Z8 : n0 ≤ h8.size := by have := W8.size; have := Z5; omega
  show Gs p e below _ T8 m 51 #[rv a, rv aC, iv (0 : Int32), iv (3 : Int32), .val .null, rv b5] []
  refine galoadN X8 hx (hb hby dj42_149_51) rfl rfl ?_
  refine gaload X8 hx (hb hby dj42_149_52) rfl rfl ?_
  have f13 := ((Fv.keep K5 nin0).other W8 (Or.inr (slot_ne (Or.inr (hwk hw 33 rfl)) (Or.inr (hwk hw 31 rfl)) (by decide) (t := (.array .byte)) (t' := .byte) (by decide) (by decide))))
  have f14 := (f10.wr W8)
  obtain ⟨T12, h12, X12, e12, W12, st12⟩ := putF X8 hx hZ hown (host := "") (Or.inl (hwk hw 32 rfl)) Via.refl e8 f13 f14 (Or.inr ⟨(hwk hw 33 rfl), rfl, hnm⟩) (hwk hw 5 rfl) (ty := (.array .byte)) (by decide) rfl rfl (g := (mkF m 54 #[rv a, rv aC, iv (0 : Int32), iv (3 : Int32), .val .null, rv b5] [(.ref b5), (.ref a)])) rfl rfl (hb hby dj42_149_54)
  have N12 := Fr.snoc X12 N8 ga
  have G12 := f13.same W12
  refine Goes.st st12 ?_
  have KK15 := KK11.wr W12 (Or.inl (List.mem_of_getElem? (i := 0) rfl))
  have Z12 : n0 ≤ h12.size := by have := W12.size; have := Z8; omega
  show Gs p e below _ T12 m 57 #[rv a, rv aC, iv (0 : Int32), iv (3 : Int32), .val .null, rv b5] []
  refine Goes.retV X12 hx hret (hb hby dj42_149_57) (lvN X12 hlk (fun _ => rfl) ?_ (by decide) (by decide))
  rw [e12]
  exact ⟨rfl, N12, KK15⟩
theorem ef_Ic30 (m : MethodId) (x0 : Addr) (x1 : Addr) : entryFrame m #[(.ref x0), (.ref x1)] 2 = mkF m 0 #[rv x0, rv x1] [] := by first | (simp [entryFrame, mkF, argsToLocals, Value.category]; done) | rfl
def QIc30 (Z : State) (a : Addr) (cs : Int32) (aC : Addr) (kC : ClassId) (c0 c1 c2 : Int32) (h0 : Heap) (n0 : Nat) (v : Option Value) (h : Heap) (L : List Loc) : Prop := v = none ∧ Fr n0 L ∧ Keep h0 h [a]
set_option maxRecDepth 65536 in
set_option maxHeartbeats 40000000 in
theorem rmIc30 (l : Launch) (Z : State) (a0 : Array Value) (hw : ∀ d ∈ tables_1, d.before a0 Z = true) (ws : List Jvm.Cond) (a : Addr) (cs : Int32) (aC : Addr) (kC : ClassId) (c0 c1 c2 : Int32) (h0 : Heap) (n0 : Nat) (Z0 : n0 ≤ h0.size) (Scs : Sta Z h0 "java/lang/String" "COMPACT_STRINGS" "Z" (.int cs)) (hcs : ¬ cs = (0 : Int32)) (Sd : Sta Z h0 "java/lang/StringUTF16" "$assertionsDisabled" "Z" (.int (1 : Int32))) (Sh : Sta Z h0 "java/lang/StringUTF16" "HI_BYTE_SHIFT" "I" (.int (0 : Int32))) (Sl : Sta Z h0 "java/lang/StringUTF16" "LO_BYTE_SHIFT" "I" (.int (8 : Int32))) (Ea : Exa Z h0 a "java/lang/String") (ga : n0 ≤ a) (Fv : Fld Z h0 a "java/lang/String" "value" "[B" .null) (Fc : Fld Z h0 a "java/lang/String" "coder" "B" (.int (0 : Int32))) (VC : Arv Z h0 aC kC .char (3 : Int32) [(.int c0), (.int c1), (.int c2)] (.int (0 : Int32))) (naC : a ≠ aC) (hc0 : (255 : Int32) < c0) (hr0 : 0 ≤ c0.toInt ∧ c0.toInt < 65536) :
    MetFree l mN9 (head1 (Jvm.Cond.code mN9 jdk_42_method_3_code 2 none :: ws) ({ frames := 5, cells := 2, slots := 9, locals := 74 } : Room)) (fun aa U => aa = #[(.ref a), (.ref aC)] ∧ Z.Warmed39 U.vm ∧ U.heap = h0) (fun _ _ _ _ _ => True) (fun _ u1_ o_ u2_ => ∃ v_ l_, o_ = .returned v_ ∧ QIc30 Z a cs aC kC c0 c1 c2 h0 n0 v_ u2_.heap l_ ∧ FrameEnd u1_ o_ u2_ l_ ({ frames := 5, cells := 2, slots := 9, locals := 74 } : Room).cells ({ frames := 5, cells := 2, slots := 9, locals := 74 } : Room).slots) := by
  refine MetFree.of_bodySF (plainFor_of_name pn_java_lang_String) hisR ?_
  intro p e s m args below meth c s₁ Bd hml0 hP hK
  obtain ⟨rfl, hZ, hh⟩ := hP
  have hx := Bd.exec
  have hby := Bd.bytes
  have hlk := BodyLoose.notSynchronized Bd
  have hret := Bd.returns
  have hml : c.maxLocals = 2 := hml0
  have hown : s.vm.findClass "java/lang/String" = some m.cls := findClass_of_methodNamed Bd.named
  have hnm := (name_of_methodNamed Bd.named Bd.method).1
  have X0 : Stand p l e ({ frames := 5, cells := 2, slots := 9, locals := 74 } : Room) s m #[(.ref a), (.ref aC)] below meth c s₁ [] 0 0 := Stand.of_body Bd
  have e0 : s₁.heap = h0 := by rw [← hh, Bd.state]; rfl
  have N0 := Fr.nil n0
  refine Goes.st (E := (EN s (QIc30 Z a cs aC kC c0 c1 c2 h0 n0) ({ frames := 5, cells := 2, slots := 9, locals := 74 } : Room).cells ({ frames := 5, cells := 2, slots := 9, locals := 74 } : Room).slots)) (fun tg kg => castTop (ef_Ic30 m a aC) kg) ?_
  have K0 : Keep h0 h0 [a] := Keep.refl _ _
  show Gs p e below _ s₁ m 0 #[rv a, rv aC] []
  refine galoadN X0 hx (hb hby dj42_3_0) rfl rfl ?_
  refine galoadN X0 hx (hb hby dj42_3_1) rfl rfl ?_
  refine giconst X0 hx (hb hby dj42_3_2) ?_
  refine galoadN X0 hx (hb hby dj42_3_3) rfl rfl ?_
  show Gs p e below _ s₁ m 4 #[rv a, rv aC] [(.ref aC), (.int (0 : Int32)), (.ref aC), (.ref a)]
  obtain ⟨cl1, Ar1, qk1, Sz1, qz1, Ha1, Gf1⟩ := id VC
  refine Goes.st (fun tg kg => X0.arraylength hx (cell := cl1) (by rw [e0]; exact Ar1.1) (State.isArrayOf_alike hZ.alike Ar1.2.1) (g := (mkF m 4 #[rv a, rv aC] [(.ref aC), (.int (0 : Int32)), (.ref aC), (.ref a)])) rfl (rest := [(.int (0 : Int32)), (.ref aC), (.ref a)]) rfl (hb hby dj42_3_4) tg kg) ?_
  rw [len_of Sz1 qz1]
  show Gs p e below _ s₁ m 5 #[rv a, rv aC] [(.int (3 : Int32)), (.int (0 : Int32)), (.ref aC), (.ref a)]
  refine Goes.st (fun tg kg => XS.aconstNull X0.here hx rfl (hb hby dj42_3_5) kg) ?_
  obtain ⟨_, _, ⟨T2, L2, k2, n2⟩, -, X2, ⟨Lc2, hQ2, l2, y2, z2⟩, st2⟩ := X0.specialBack hx (y := mN8) rfl hown (mvT hZ (hwk hw 11 rfl)) (mvT hZ (hwk hw 12 rfl)) (mvT hZ (hwk hw 14 rfl)) (by decide) (backOf (W := 0) (rmIv30 l Z a0 hw [] a cs aC kC c0 c1 c2 h0 n0 Z0 Scs hcs Sd Sh Sl Ea ga Fv Fc VC naC hc0 hr0) hZ (hwk hw 14 rfl) (hwk hw 6 rfl) (by decide) (by decide)) (g := (mkF m 6 #[rv a, rv aC] [.null, (.int (3 : Int32)), (.int (0 : Int32)), (.ref aC), (.ref a)])) rfl (by rw [hml]; rfl) (Steps.refl _) (a := a) (argsL := [(.ref aC), (.int (0 : Int32)), (.int (3 : Int32)), .null]) (rest := []) (lenOf pd___CIILjava_lang_Void__V_897f rfl) rfl (by show 2 * 0 + _ ≤ _; exact Nat.le_of_eq rfl) (hb hby dj42_3_6) (fun _ _ => ⟨rfl, e0, (by decide : 0 + 2 ≤ 2), (by decide : 0 + 9 ≤ 9)⟩)
  dsimp only [Pt.U, Pt.locs, Pt.cells, Pt.slots] at X2 l2 y2 z2 st2 hQ2
  subst l2 y2 z2
  obtain ⟨rfl, N2q, K2⟩ := hQ2
  have KK3 := K0.trans K2 (allS (Or.inl (List.mem_of_getElem? (i := 0) rfl)) all0)
  have Z2 : n0 ≤ T2.heap.size := Nat.le_trans Z0 K2.1
  have N2 := Fr.app N0 N2q
  refine Goes.sts st2 ?_
  show Gs p e below _ T2 m 9 #[rv a, rv aC] []
  refine Goes.retV X2 hx hret (hb hby dj42_3_9) (lvN X2 hlk (fun _ => rfl) ?_ (by decide) (by decide))
  exact ⟨rfl, N2, KK3⟩
theorem ef_Cm31 (m : MethodId) (x0 : Addr) (x1 : Int32) (x2 : Addr) (x3 : Int32) (x4 : Int32) : entryFrame m #[(.ref x0), (.int x1), (.ref x2), (.int x3), (.int x4)] 7 = mkF m 0 #[rv x0, iv x1, rv x2, iv x3, iv x4, .unset, .unset] [] := by first | (simp [entryFrame, mkF, argsToLocals, Value.category]; done) | rfl
def QCm31 (Z : State) (aC : Addr) (kC : ClassId) (c0 c1 c2 : Int32) (aB : Addr) (kB : ClassId) (h0 : Heap) (n0 : Nat) (v : Option Value) (h : Heap) (L : List Loc) : Prop := ∃ (vs : List Value), v = some (.int (1 : Int32)) ∧ Fr n0 L ∧ Keep h0 h [aB] ∧ Arv Z h aB kB .byte (3 : Int32) vs (.int (0 : Int32))
set_option maxRecDepth 65536 in
set_option maxHeartbeats 40000000 in
theorem rmCm31 (l : Launch) (Z : State) (a0 : Array Value) (hw : ∀ d ∈ tables_1, d.before a0 Z = true) (ws : List Jvm.Cond) (aC : Addr) (kC : ClassId) (c0 c1 c2 : Int32) (aB : Addr) (kB : ClassId) (h0 : Heap) (n0 : Nat) (Z0 : n0 ≤ h0.size) (VC : Arv Z h0 aC kC .char (3 : Int32) [(.int c0), (.int c1), (.int c2)] (.int (0 : Int32))) (VB : Arv Z h0 aB kB .byte (3 : Int32) [(.int (0 : Int32)), (.int (0 : Int32)), (.int (0 : Int32))] (.int (0 : Int32))) (lB : n0 ≤ aB) (nCB : aC ≠ aB) (hc0 : ¬ (255 : Int32) < c0) (hc1 : (255 : Int32) < c1) (hr1 : 0 ≤ c1.toInt ∧ c1.toInt < 65536) :
    MetFree l mN5 (head1 (Jvm.Cond.code mN5 jdk_52_method_21_code 7 (some .int) :: ws) ({ frames := 0, cells := 0, slots := 0, locals := 0 } : Room)) (fun aa U => aa = #[(.ref aC), (.int (0 : Int32)), (.ref aB), (.int (0 : Int32)), (.int (3 : Int32))] ∧ Z.Warmed39 U.vm ∧ U.heap = h0) (fun _ _ _ _ _ => True) (fun _ u1_ o_ u2_ => ∃ v_ l_, o_ = .returned v_ ∧ QCm31 Z aC kC c0 c1 c2 aB kB h0 n0 v_ u2_.heap l_ ∧ FrameEnd u1_ o_ u2_ l_ ({ frames := 0, cells := 0, slots := 0, locals := 0 } : Room).cells ({ frames := 0, cells := 0, slots := 0, locals := 0 } : Room).slots) := by
  refine MetFree.of_bodySF (plainFor_of_name pn_java_lang_StringUTF16) hisR ?_
  intro p e s m args below meth c s₁ Bd hml0 hP hK
  obtain ⟨rfl, hZ, hh⟩ := hP
  have hx := Bd.exec
  have hby := Bd.bytes
  have hlk := BodyLoose.notSynchronized Bd
  have hret := Bd.returns
  have hml : c.maxLocals = 7 := hml0
  have hown : s.vm.findClass "java/lang/StringUTF16" = some m.cls := findClass_of_methodNamed Bd.named
  have hnm := (name_of_methodNamed Bd.named Bd.method).1
  have X0 : Stand p l e ({ frames := 0, cells := 0, slots := 0, locals := 0 } : Room) s m #[(.ref aC), (.int (0 : Int32)), (.ref aB), (.int (0 : Int32)), (.int (3 : Int32))] below meth c s₁ [] 0 0 := Stand.of_body Bd
  have e0 : s₁.heap = h0 := by rw [← hh, Bd.state]; rfl
  have N0 := Fr.nil n0
  refine Goes.st (E := (EN s (QCm31 Z aC kC c0 c1 c2 aB kB h0 n0) ({ frames := 0, cells := 0, slots := 0, locals := 0 } : Room).cells ({ frames := 0, cells := 0, slots := 0, locals := 0 } : Room).slots)) (fun tg kg => castTop (ef_Cm31 m aC (0 : Int32) aB (0 : Int32) (3 : Int32)) kg) ?_
  have K0 : Keep h0 h0 [aB] := Keep.refl _ _
  show Gs p e below _ s₁ m 0 #[rv aC, iv (0 : Int32), rv aB, iv (0 : Int32), iv (3 : Int32), .unset, .unset] []
  refine giconst X0 hx (hb hby dj52_21_0) ?_
  refine gistore X0 hx (hb hby dj52_21_1) trivial (l' := #[rv aC, iv (0 : Int32), rv aB, iv (0 : Int32), iv (3 : Int32), iv (0 : Int32), .unset]) rfl ?_
  refine giload X0 hx (hb hby dj52_21_3) rfl ?_
  refine giload X0 hx (hb hby dj52_21_5) rfl ?_
  show Gs p e below _ s₁ m 7 #[rv aC, iv (0 : Int32), rv aB, iv (0 : Int32), iv (3 : Int32), iv (0 : Int32), .unset] [(.int (3 : Int32)), (.int (0 : Int32))]
  refine gicmpNo X0 hx (hb hby dj52_21_7) (by decide) ?_
  show Gs p e below _ s₁ m 10 #[rv aC, iv (0 : Int32), rv aB, iv (0 : Int32), iv (3 : Int32), iv (0 : Int32), .unset] []
  refine galoadN X0 hx (hb hby dj52_21_10) rfl rfl ?_
  refine giloadN X0 hx (hb hby dj52_21_11) rfl ?_
  show Gs p e below _ s₁ m 12 #[rv aC, iv (0 : Int32), rv aB, iv (0 : Int32), iv (3 : Int32), iv (0 : Int32), .unset] [(.int (0 : Int32)), (.ref aC)]
  obtain ⟨cl1, Ar1, qk1, Sz1, qz1, Ha1, Gf1⟩ := id VC
  have in1 := inb_of (j := (0 : Int32)) Sz1 ⟨by decide, by decide⟩
  refine Goes.st (fun tg kg => X0.caload hx (j := (0 : Int32)) (v := (.int c0)) (by rw [e0]; exact Ar1.1) (State.isArrayOf_alike hZ.alike Ar1.2.1) Ar1.2.2 in1 (Ha1.at in1 rfl) (g := (mkF m 12 #[rv aC, iv (0 : Int32), rv aB, iv (0 : Int32), iv (3 : Int32), iv (0 : Int32), .unset] [(.int (0 : Int32)), (.ref aC)])) rfl rfl (hb hby dj52_21_12) tg kg) ?_
  show Gs p e below _ s₁ m 13 #[rv aC, iv (0 : Int32), rv aB, iv (0 : Int32), iv (3 : Int32), iv (0 : Int32), .unset] [(.int c0)]
  refine gistore X0 hx (hb hby dj52_21_13) trivial (l' := #[rv aC, iv (0 : Int32), rv aB, iv (0 : Int32), iv (3 : Int32), iv (0 : Int32), iv c0]) rfl ?_
  refine giload X0 hx (hb hby dj52_21_15) rfl ?_
  refine Goes.st (fun tg kg => XS.sipush X0.here hx rfl (hb hby dj52_21_17) kg) ?_
  show Gs p e below _ s₁ m 20 #[rv aC, iv (0 : Int32), rv aB, iv (0 : Int32), iv (3 : Int32), iv (0 : Int32), iv c0] [(.int (255 : Int32)), (.int c0)]
  refine gicmpYes X0 hx (pc' := 26) (hb hby dj52_21_20) (flt hc0).2.2.2 (by decide) (by decide) ?_
  show Gs p e below _ s₁ m 26 #[rv aC, iv (0 : Int32), rv aB, iv (0 : Int32), iv (3 : Int32), iv (0 : Int32), iv c0] []
  refine galoadN X0 hx (hb hby dj52_21_26) rfl rfl ?_
  refine giloadN X0 hx (hb hby dj52_21_27) rfl ?_
  refine giload X0 hx (hb hby dj52_21_28) rfl ?_
  show Gs p e below _ s₁ m 30 #[rv aC, iv (0 : Int32), rv aB, iv (0 : Int32), iv (3 : Int32), iv (0 : Int32), iv c0] [(.int c0), (.int (0 : Int32)), (.ref aB)]
  refine Goes.st (fun tg kg => XT.i2b X0.here hx rfl (hb hby dj52_21_30) rfl kg) ?_
  show Gs p e below _ s₁ m 31 #[rv aC, iv (0 : Int32), rv aB, iv (0 : Int32), iv (3 : Int32), iv (0 : Int32), iv c0] [(.int (c0).toInt8.toInt32), (.int (0 : Int32)), (.ref aB)]
  obtain ⟨cl2, Ar2, qk2, Sz2, qz2, Ha2, Gf2⟩ := id VB
  obtain ⟨T2, h2, X2, e2, W2, st2⟩ := stB X0 hx hZ e0 Ar2 (inb_of Sz2 ⟨by decide, by decide⟩) (g := (mkF m 31 #[rv aC, iv (0 : Int32), rv aB, iv (0 : Int32), iv (3 : Int32), iv (0 : Int32), iv c0] [(.int (c0).toInt8.toInt32), (.int (0 : Int32)), (.ref aB)])) rfl rfl (hb hby dj52_21_31)
  have N2 := Fr.snoc X2 N0 lB
  have V2 : Arv Z h2 aB kB .byte (3 : Int32) [(.int (nar .byte (c0).toInt8.toInt32)), (.int (0 : Int32)), (.int (0 : Int32))] (.int (0 : Int32)) := Arv.set Ar2 qk2 Sz2 qz2 Ha2 Gf2 (fits_nar_byte _) W2 0 (by decide) (by simp)
  refine Goes.st st2 ?_
  have KK3 := K0.wr W2 (Or.inl (List.mem_of_getElem? (i := 0) rfl))
  have Z2 : n0 ≤ h2.size := by have := W2.size; have := Z0; omega
  show Gs p e below _ T2 m 32 #[rv aC, iv (0 : Int32), rv aB, iv (0 : Int32), iv (3 : Int32), iv (0 : Int32), iv c0] []
  refine Goes.st (fun tg kg => XS.iinc X2.here hx rfl (hb hby dj52_21_32) rfl (l' := #[rv aC, iv (1 : Int32), rv aB, iv (0 : Int32), iv (3 : Int32), iv (0 : Int32), iv c0]) rfl kg) ?_
  refine Goes.st (fun tg kg => XS.iinc X2.here hx rfl (hb hby dj52_21_35) rfl (l' := #[rv aC, iv (1 : Int32), rv aB, iv (1 : Int32), iv (3 : Int32), iv (0 : Int32), iv c0]) rfl kg) ?_
  refine Goes.st (fun tg kg => XS.iinc X2.here hx rfl (hb hby dj52_21_38) rfl (l' := #[rv aC, iv (1 : Int32), rv aB, iv (1 : Int32), iv (3 : Int32), iv (1 : Int32), iv c0]) rfl kg) ?_
  show Gs p e below _ T2 m 41 #[rv aC, iv (1 : Int32), rv aB, iv (1 : Int32), iv (3 : Int32), iv (1 : Int32), iv c0] []
  refine ggoto X2 hx (pc' := 3) (hb hby dj52_21_41) (by decide) (by decide) ?_
  show Gs p e below _ T2 m 3 #[rv aC, iv (1 : Int32), rv aB, iv (1 : Int32), iv (3 : Int32), iv (1 : Int32), iv c0] []
  refine giload X2 hx (hb hby dj52_21_3) rfl ?_
  refine giload X2 hx (hb hby dj52_21_5) rfl ?_
  show Gs p e below _ T2 m 7 #[rv aC, iv (1 : Int32), rv aB, iv (1 : Int32), iv (3 : Int32), iv (1 : Int32), iv c0] [(.int (3 : Int32)), (.int (1 : Int32))]
  refine gicmpNo X2 hx (hb hby dj52_21_7) (by decide) ?_
  show Gs p e below _ T2 m 10 #[rv aC, iv (1 : Int32), rv aB, iv (1 : Int32), iv (3 : Int32), iv (1 : Int32), iv c0] []
  refine galoadN X2 hx (hb hby dj52_21_10) rfl rfl ?_
  refine giloadN X2 hx (hb hby dj52_21_11) rfl ?_
  show Gs p e below _ T2 m 12 #[rv aC, iv (1 : Int32), rv aB, iv (1 : Int32), iv (3 : Int32), iv (1 : Int32), iv c0] [(.int (1 : Int32)), (.ref aC)]
  have f4 := (VC.other W2 nCB)
  obtain ⟨cl5, Ar5, qk5, Sz5, qz5, Ha5, Gf5⟩ := id f4
  have in5 := inb_of (j := (1 : Int32)) Sz5 ⟨by decide, by decide⟩
  refine Goes.st (fun tg kg => X2.caload hx (j := (1 : Int32)) (v := (.int c1)) (by rw [e2]; exact Ar5.1) (State.isArrayOf_alike hZ.alike Ar5.2.1) Ar5.2.2 in5 (Ha5.at in5 rfl) (g := (mkF m 12 #[rv aC, iv (1 : Int32), rv aB, iv (1 : Int32), iv (3 : Int32), iv (1 : Int32), iv c0] [(.int (1 : Int32)), (.ref aC)])) rfl rfl (hb hby dj52_21_12) tg kg) ?_
  show Gs p e below _ T2 m 13 #[rv aC, iv (1 : Int32), rv aB, iv (1 : Int32), iv (3 : Int32), iv (1 : Int32), iv c0] [(.int c1)]
  refine gistore X2 hx (hb hby dj52_21_13) trivial (l' := #[rv aC, iv (1 : Int32), rv aB, iv (1 : Int32), iv (3 : Int32), iv (1 : Int32), iv c1]) rfl ?_
  refine giload X2 hx (hb hby dj52_21_15) rfl ?_
  refine Goes.st (fun tg kg => XS.sipush X2.here hx rfl (hb hby dj52_21_17) kg) ?_
  show Gs p e below _ T2 m 20 #[rv aC, iv (1 : Int32), rv aB, iv (1 : Int32), iv (3 : Int32), iv (1 : Int32), iv c1] [(.int (255 : Int32)), (.int c1)]
  refine gicmpNo X2 hx (hb hby dj52_21_20) (tlt hc1).2.2.2 ?_
  show Gs p e below _ T2 m 23 #[rv aC, iv (1 : Int32), rv aB, iv (1 : Int32), iv (3 : Int32), iv (1 : Int32), iv c1] []
  refine giload X2 hx (hb hby dj52_21_23) rfl ?_
  show Gs p e below _ T2 m 25 #[rv aC, iv (1 : Int32), rv aB, iv (1 : Int32), iv (3 : Int32), iv (1 : Int32), iv c1] [(.int (1 : Int32))]
  refine Goes.retI X2 hx hret (hb hby dj52_21_25) (lvN X2 hlk (vsome hret) ?_ (by decide) (by decide))
  rw [e2]
  exact ⟨_, rfl, N2, KK3, V2⟩
theorem ef_Cx31 (m : MethodId) (x0 : Addr) (x1 : Int32) (x2 : Int32) : entryFrame m #[(.ref x0), (.int x1), (.int x2)] 6 = mkF m 0 #[rv x0, iv x1, iv x2, .unset, .unset, .unset] [] := by first | (simp [entryFrame, mkF, argsToLocals, Value.category]; done) | rfl
def QCx31 (Z : State) (aC : Addr) (kC : ClassId) (c0 c1 c2 : Int32) (h0 : Heap) (n0 : Nat) (v : Option Value) (h : Heap) (L : List Loc) : Prop := ∃ (b : Addr) (kB : ClassId) (vs : List Value), v = some (.ref b) ∧ Fr n0 L ∧ Keep h0 h [] ∧ h0.size ≤ b ∧ n0 ≤ b ∧ Arv Z h b kB .byte (6 : Int32) vs (.int (0 : Int32))
set_option maxRecDepth 65536 in
set_option maxHeartbeats 40000000 in
theorem rmCx31 (l : Launch) (Z : State) (a0 : Array Value) (hw : ∀ d ∈ tables_1, d.before a0 Z = true) (ws : List Jvm.Cond) (aC : Addr) (kC : ClassId) (c0 c1 c2 : Int32) (h0 : Heap) (n0 : Nat) (Z0 : n0 ≤ h0.size) (Sd : Sta Z h0 "java/lang/StringUTF16" "$assertionsDisabled" "Z" (.int (1 : Int32))) (Sh : Sta Z h0 "java/lang/StringUTF16" "HI_BYTE_SHIFT" "I" (.int (0 : Int32))) (Sl : Sta Z h0 "java/lang/StringUTF16" "LO_BYTE_SHIFT" "I" (.int (8 : Int32))) (VC : Arv Z h0 aC kC .char (3 : Int32) [(.int c0), (.int c1), (.int c2)] (.int (0 : Int32))) (hc0 : ¬ (255 : Int32) < c0) (hc1 : (255 : Int32) < c1) (hr1 : 0 ≤ c1.toInt ∧ c1.toInt < 65536) :
    MetFree l mN6 (head1 (Jvm.Cond.code mN6 jdk_52_method_16_code 6 (some (.array .byte)) :: ws) ({ frames := 3, cells := 2, slots := 9, locals := 40 } : Room)) (fun aa U => aa = #[(.ref aC), (.int (0 : Int32)), (.int (3 : Int32))] ∧ Z.Warmed39 U.vm ∧ U.heap = h0) (fun _ _ _ _ _ => True) (fun _ u1_ o_ u2_ => ∃ v_ l_, o_ = .returned v_ ∧ QCx31 Z aC kC c0 c1 c2 h0 n0 v_ u2_.heap l_ ∧ FrameEnd u1_ o_ u2_ l_ ({ frames := 3, cells := 2, slots := 9, locals := 40 } : Room).cells ({ frames := 3, cells := 2, slots := 9, locals := 40 } : Room).slots) := by
  refine MetFree.of_bodySF (plainFor_of_name pn_java_lang_StringUTF16) hisR ?_
  intro p e s m args below meth c s₁ Bd hml0 hP hK
  obtain ⟨rfl, hZ, hh⟩ := hP
  have hx := Bd.exec
  have hby := Bd.bytes
  have hlk := BodyLoose.notSynchronized Bd
  have hret := Bd.returns
  have hml : c.maxLocals = 6 := hml0
  have hown : s.vm.findClass "java/lang/StringUTF16" = some m.cls := findClass_of_methodNamed Bd.named
  have hnm := (name_of_methodNamed Bd.named Bd.method).1
  have X0 : Stand p l e ({ frames := 3, cells := 2, slots := 9, locals := 40 } : Room) s m #[(.ref aC), (.int (0 : Int32)), (.int (3 : Int32))] below meth c s₁ [] 0 0 := Stand.of_body Bd
  have e0 : s₁.heap = h0 := by rw [← hh, Bd.state]; rfl
  have N0 := Fr.nil n0
  refine Goes.st (E := (EN s (QCx31 Z aC kC c0 c1 c2 h0 n0) ({ frames := 3, cells := 2, slots := 9, locals := 40 } : Room).cells ({ frames := 3, cells := 2, slots := 9, locals := 40 } : Room).slots)) (fun tg kg => castTop (ef_Cx31 m aC (0 : Int32) (3 : Int32)) kg) ?_
  have K0 : Keep h0 h0 [] := Keep.refl _ _
  show Gs p e below _ s₁ m 0 #[rv aC, iv (0 : Int32), iv (3 : Int32), .unset, .unset, .unset] []
  refine giloadN X0 hx (hb hby dj52_16_0) rfl ?_
  obtain ⟨T1, h1, cA1, X1, e1, E1, A1, st1⟩ := newP X0 hx hZ (hwk hw 23 rfl) e0 (g := (mkF m 1 #[rv aC, iv (0 : Int32), iv (3 : Int32), .unset, .unset, .unset] [(.int (3 : Int32))])) rfl (hb hby dj52_16_1) rfl (by decide) (cap := 3) (by decide) (by decide) (by decide) (by decide)
  obtain ⟨b1, g1⟩ : ∃ z, z = h0.size := ⟨_, rfl⟩
  rw [← g1] at A1 st1
  have ne_aC_b1 : aC ≠ b1 := Nat.ne_of_lt (Nat.lt_of_lt_of_le VC.lt (Nat.le_of_eq g1.symm))
  have lo_b1 : n0 ≤ b1 := by have := Z0; omega
  have sz_b1 : h0.size ≤ b1 := by have := K0.1; omega
  have KK2 := K0.ext E1
  have V1 : Arv Z h1 b1 cA1 .byte (3 : Int32) [(.int (0 : Int32)), (.int (0 : Int32)), (.int (0 : Int32))] (.int (0 : Int32)) := (Arv.new A1 (by decide)).pad (pad_rep [] _ 3)
  refine Goes.st st1 ?_
  have Z1 : n0 ≤ h1.size := Nat.le_trans Z0 E1.1
  show Gs p e below _ T1 m 3 #[rv aC, iv (0 : Int32), iv (3 : Int32), .unset, .unset, .unset] [(.ref b1)]
  refine gastoreN X1 hx (hb hby dj52_16_3) trivial rfl (l' := #[rv aC, iv (0 : Int32), iv (3 : Int32), rv b1, .unset, .unset]) rfl ?_
  refine galoadN X1 hx (hb hby dj52_16_4) rfl rfl ?_
  refine giloadN X1 hx (hb hby dj52_16_5) rfl ?_
  refine galoadN X1 hx (hb hby dj52_16_6) rfl rfl ?_
  refine giconst X1 hx (hb hby dj52_16_7) ?_
  show Gs p e below _ T1 m 8 #[rv aC, iv (0 : Int32), iv (3 : Int32), rv b1, .unset, .unset] [(.int (0 : Int32)), (.ref b1), (.int (0 : Int32)), (.ref aC)]
  refine giloadN X1 hx (hb hby dj52_16_8) rfl ?_
  have f3 := (VC.ext E1)
  obtain ⟨_, _, ⟨T4, L4, k4, n4⟩, -, X4, ⟨Lc4, hQ4, l4, y4, z4⟩, st4⟩ := Jvm.LawKit.callS X1 hx (y := mN5) hown (mvT hZ (hwk hw 24 rfl)) (mvT hZ (hwk hw 25 rfl)) (mvT hZ (hwk hw 21 rfl)) (mvT hZ (hwk hw 26 rfl)) (by decide) (backOf (W := 0) (rmCm31 l Z a0 hw [] aC kC c0 c1 c2 b1 cA1 h1 n0 Z1 f3 V1 lo_b1 ne_aC_b1 hc0 hc1 hr1) hZ (hwk hw 26 rfl) (hwk hw 21 rfl) (by decide) (by decide)) (g := (mkF m 9 #[rv aC, iv (0 : Int32), iv (3 : Int32), rv b1, .unset, .unset] [(.int (3 : Int32)), (.int (0 : Int32)), (.ref b1), (.int (0 : Int32)), (.ref aC)])) rfl (by rw [hml]; rfl) (argsL := [(.ref aC), (.int (0 : Int32)), (.ref b1), (.int (0 : Int32)), (.int (3 : Int32))]) (rest := []) (lenOf pd___CI_BII_I_1ed0 rfl) rfl (by show 2 * 0 + _ ≤ _; exact Nat.le_of_eq rfl) (hb hby dj52_16_9) (fun _ _ => ⟨rfl, e1, (by decide : 1 + 0 ≤ 2), (by decide : 3 + 0 ≤ 9)⟩)
  dsimp only [Pt.U, Pt.locs, Pt.cells, Pt.slots] at X4 l4 y4 z4 st4 hQ4
  subst l4 y4 z4
  obtain ⟨vs4, rfl, N4q, K4, V4⟩ := hQ4
  have KK5 := KK2.trans K4 (allS (Or.inr sz_b1) all0)
  have Z4 : n0 ≤ T4.heap.size := Nat.le_trans Z1 K4.1
  have N4 := Fr.app N0 N4q
  refine Goes.st st4 ?_
  show Gs p e below _ T4 m 12 #[rv aC, iv (0 : Int32), iv (3 : Int32), rv b1, .unset, .unset] [(.int (1 : Int32))]
  refine gistore X4 hx (hb hby dj52_16_12) trivial (l' := #[rv aC, iv (0 : Int32), iv (3 : Int32), rv b1, iv (1 : Int32), .unset]) rfl ?_
  refine giload X4 hx (hb hby dj52_16_14) rfl ?_
  refine giloadN X4 hx (hb hby dj52_16_16) rfl ?_
  show Gs p e below _ T4 m 17 #[rv aC, iv (0 : Int32), iv (3 : Int32), rv b1, iv (1 : Int32), .unset] [(.int (3 : Int32)), (.int (1 : Int32))]
  refine gicmpNo X4 hx (hb hby dj52_16_17) (by decide) ?_
  show Gs p e below _ T4 m 20 #[rv aC, iv (0 : Int32), iv (3 : Int32), rv b1, iv (1 : Int32), .unset] []
  refine galoadN X4 hx (hb hby dj52_16_20) rfl rfl ?_
  refine giloadN X4 hx (hb hby dj52_16_21) rfl ?_
  refine giloadN X4 hx (hb hby dj52_16_22) rfl ?_
  have f6 := (f3.keep K4 (ninS ne_aC_b1 nin0))
  have f7 := ((Sd.ext E1).kept K4 (nsS (Arv.nostat V1) ns0))
  have f8 := ((Sh.ext E1).kept K4 (nsS (Arv.nostat V1) ns0))
  have f9 := ((Sl.ext E1).kept K4 (nsS (Arv.nostat V1) ns0))
  have lt10 : aC < T4.heap.size := f6.lt
  have lt11 : b1 < T4.heap.size := V4.lt
  obtain ⟨_, _, ⟨T12, L12, k12, n12⟩, -, X12, ⟨Lc12, hQ12, l12, y12, z12⟩, st12⟩ := Jvm.LawKit.callS X4 hx (y := mN4) hown (mvT hZ (hwk hw 75 rfl)) (mvT hZ (hwk hw 76 rfl)) (mvT hZ (hwk hw 21 rfl)) (mvT hZ (hwk hw 77 rfl)) (by decide) (backOf (W := 0) (rmBy3 l Z a0 hw [] aC kC c0 c1 c2 T4.heap n0 Z4 f7 f8 f9 f6) hZ (hwk hw 77 rfl) (hwk hw 21 rfl) (by decide) (by decide)) (g := (mkF m 23 #[rv aC, iv (0 : Int32), iv (3 : Int32), rv b1, iv (1 : Int32), .unset] [(.int (3 : Int32)), (.int (0 : Int32)), (.ref aC)])) rfl (by rw [hml]; rfl) (argsL := [(.ref aC), (.int (0 : Int32)), (.int (3 : Int32))]) (rest := []) (lenOf pd___CII__B_166f rfl) rfl (by show 2 * 0 + _ ≤ _; exact Nat.le_of_eq rfl) (hb hby dj52_16_23) (fun _ _ => ⟨rfl, rfl, (by decide : 1 + 1 ≤ 2), (by decide : 3 + 6 ≤ 9)⟩)
  dsimp only [Pt.U, Pt.locs, Pt.cells, Pt.slots] at X12 l12 y12 z12 st12 hQ12
  subst l12 y12 z12
  obtain ⟨b12, kB12, rfl, N12q, K12, szq12, loq12, V12⟩ := hQ12
  have KK13 := KK5.trans K12 all0
  have ne_aC_b12 : aC ≠ b12 := Nat.ne_of_lt (Nat.lt_of_lt_of_le lt10 szq12)
  have ne_b1_b12 : b1 ≠ b12 := Nat.ne_of_lt (Nat.lt_of_lt_of_le lt11 szq12)
  have sz_b12 : h0.size ≤ b12 := by have := KK13.1; have := szq12; omega
  have Z12 : n0 ≤ T12.heap.size := Nat.le_trans Z4 K12.1
  have N12 := Fr.app N4 N12q
  refine Goes.st st12 ?_
  show Gs p e below _ T12 m 26 #[rv aC, iv (0 : Int32), iv (3 : Int32), rv b1, iv (1 : Int32), .unset] [(.ref b12)]
  refine gastore X12 hx (hb hby dj52_16_26) trivial rfl (l' := #[rv aC, iv (0 : Int32), iv (3 : Int32), rv b1, iv (1 : Int32), rv b12]) rfl ?_
  refine gaload X12 hx (hb hby dj52_16_28) rfl rfl ?_
  refine giload X12 hx (hb hby dj52_16_30) rfl ?_
  have f14 := (f7.kept K12 ns0)
  have f15 := (f8.kept K12 ns0)
  have f16 := (f9.kept K12 ns0)
  obtain ⟨_, _, ⟨T17, L17, k17, n17⟩, -, X17, ⟨Lc17, hQ17, l17, y17, z17⟩, st17⟩ := Jvm.LawKit.callS X12 hx (y := mN3) hown (mvT hZ (hwk hw 91 rfl)) (mvT hZ (hwk hw 92 rfl)) (mvT hZ (hwk hw 21 rfl)) (mvT hZ (hwk hw 93 rfl)) (by decide) (backOf (W := 0) (rmGc31 l Z a0 hw [] b12 kB12 (nar .byte (c0 >>> ((0 : Int32) &&& 31)).toInt8.toInt32) (nar .byte (c0 >>> ((8 : Int32) &&& 31)).toInt8.toInt32) (nar .byte (c1 >>> ((0 : Int32) &&& 31)).toInt8.toInt32) (nar .byte (c1 >>> ((8 : Int32) &&& 31)).toInt8.toInt32) (nar .byte (c2 >>> ((0 : Int32) &&& 31)).toInt8.toInt32) (nar .byte (c2 >>> ((8 : Int32) &&& 31)).toInt8.toInt32) T12.heap n0 Z12 f14 f15 f16 V12) hZ (hwk hw 93 rfl) (hwk hw 21 rfl) (by decide) (by decide)) (g := (mkF m 32 #[rv aC, iv (0 : Int32), iv (3 : Int32), rv b1, iv (1 : Int32), rv b12] [(.int (1 : Int32)), (.ref b12)])) rfl (by rw [hml]; rfl) (argsL := [(.ref b12), (.int (1 : Int32))]) (rest := []) (lenOf pd___BI_C_e03 rfl) rfl (by show 2 * 0 + _ ≤ _; exact Nat.le_of_eq rfl) (hb hby dj52_16_32) (fun _ _ => ⟨rfl, rfl, (by decide : 2 + 0 ≤ 2), (by decide : 9 + 0 ≤ 9)⟩)
  dsimp only [Pt.U, Pt.locs, Pt.cells, Pt.slots] at X17 l17 y17 z17 st17 hQ17
  subst l17 y17 z17
  obtain ⟨rfl, N17q, eh17⟩ := hQ17
  rw [own_gc hr1] at st17
  have N17 := Fr.app N12 N17q
  refine Goes.st st17 ?_
  show Gs p e below _ T17 m 35 #[rv aC, iv (0 : Int32), iv (3 : Int32), rv b1, iv (1 : Int32), rv b12] [(.int c1)]
  refine Goes.st (fun tg kg => XS.sipush X17.here hx rfl (hb hby dj52_16_35) kg) ?_
  show Gs p e below _ T17 m 38 #[rv aC, iv (0 : Int32), iv (3 : Int32), rv b1, iv (1 : Int32), rv b12] [(.int (255 : Int32)), (.int c1)]
  refine gicmpYes X17 hx (pc' := 54) (hb hby dj52_16_38) (tlt hc1).2.2.1 (by decide) (by decide) ?_
  show Gs p e below _ T17 m 54 #[rv aC, iv (0 : Int32), iv (3 : Int32), rv b1, iv (1 : Int32), rv b12] []
  refine gaload X17 hx (hb hby dj52_16_54) rfl rfl ?_
  show Gs p e below _ T17 m 56 #[rv aC, iv (0 : Int32), iv (3 : Int32), rv b1, iv (1 : Int32), rv b12] [(.ref b12)]
  refine Goes.retA X17 hx hret rfl rfl rfl (hb hby dj52_16_56) (lvN X17 hlk (vsome hret) ?_ (by decide) (by decide))
  rw [eh17]
  exact ⟨b12, kB12, _, rfl, N17, KK13, sz_b12, loq12, V12⟩
theorem ef_Iv31 (m : MethodId) (x0 : Addr) (x1 : Addr) (x2 : Int32) (x3 : Int32) : entryFrame m #[(.ref x0), (.ref x1), (.int x2), (.int x3), .null] 6 = mkF m 0 #[rv x0, rv x1, iv x2, iv x3, .val .null, .unset] [] := by first | (simp [entryFrame, mkF, argsToLocals, Value.category]; done) | rfl
def QIv31 (Z : State) (a : Addr) (cs : Int32) (aC : Addr) (kC : ClassId) (c0 c1 c2 : Int32) (h0 : Heap) (n0 : Nat) (v : Option Value) (h : Heap) (L : List Loc) : Prop := v = none ∧ Fr n0 L ∧ Keep h0 h [a]
set_option maxRecDepth 65536 in
set_option maxHeartbeats 40000000 in
theorem rmIv31 (l : Launch) (Z : State) (a0 : Array Value) (hw : ∀ d ∈ tables_1, d.before a0 Z = true) (ws : List Jvm.Cond) (a : Addr) (cs : Int32) (aC : Addr) (kC : ClassId) (c0 c1 c2 : Int32) (h0 : Heap) (n0 : Nat) (Z0 : n0 ≤ h0.size) (Scs : Sta Z h0 "java/lang/String" "COMPACT_STRINGS" "Z" (.int cs)) (hcs : ¬ cs = (0 : Int32)) (Sd : Sta Z h0 "java/lang/StringUTF16" "$assertionsDisabled" "Z" (.int (1 : Int32))) (Sh : Sta Z h0 "java/lang/StringUTF16" "HI_BYTE_SHIFT" "I" (.int (0 : Int32))) (Sl : Sta Z h0 "java/lang/StringUTF16" "LO_BYTE_SHIFT" "I" (.int (8 : Int32))) (Ea : Exa Z h0 a "java/lang/String") (ga : n0 ≤ a) (Fv : Fld Z h0 a "java/lang/String" "value" "[B" .null) (Fc : Fld Z h0 a "java/lang/String" "coder" "B" (.int (0 : Int32))) (VC : Arv Z h0 aC kC .char (3 : Int32) [(.int c0), (.int c1), (.int c2)] (.int (0 : Int32))) (naC : a ≠ aC) (hc0 : ¬ (255 : Int32) < c0) (hc1 : (255 : Int32) < c1) (hr1 : 0 ≤ c1.toInt ∧ c1.toInt < 65536) :
    MetFree l mN8 (head1 (Jvm.Cond.code mN8 jdk_42_method_149_code 6 none :: ws) ({ frames := 4, cells := 2, slots := 9, locals := 57 } : Room)) (fun aa U => aa = #[(.ref a), (.ref aC), (.int (0 : Int32)), (.int (3 : Int32)), .null] ∧ Z.Warmed39 U.vm ∧ U.heap = h0) (fun _ _ _ _ _ => True) (fun _ u1_ o_ u2_ => ∃ v_ l_, o_ = .returned v_ ∧ QIv31 Z a cs aC kC c0 c1 c2 h0 n0 v_ u2_.heap l_ ∧ FrameEnd u1_ o_ u2_ l_ ({ frames := 4, cells := 2, slots := 9, locals := 57 } : Room).cells ({ frames := 4, cells := 2, slots := 9, locals := 57 } : Room).slots) := by
  refine MetFree.of_bodySF (plainFor_of_name pn_java_lang_String) hisR ?_
  intro p e s m args below meth c s₁ Bd hml0 hP hK
  obtain ⟨rfl, hZ, hh⟩ := hP
  have hx := Bd.exec
  have hby := Bd.bytes
  have hlk := BodyLoose.notSynchronized Bd
  have hret := Bd.returns
  have hml : c.maxLocals = 6 := hml0
  have hown : s.vm.findClass "java/lang/String" = some m.cls := findClass_of_methodNamed Bd.named
  have hnm := (name_of_methodNamed Bd.named Bd.method).1
  have X0 : Stand p l e ({ frames := 4, cells := 2, slots := 9, locals := 57 } : Room) s m #[(.ref a), (.ref aC), (.int (0 : Int32)), (.int (3 : Int32)), .null] below meth c s₁ [] 0 0 := Stand.of_body Bd
  have e0 : s₁.heap = h0 := by rw [← hh, Bd.state]; rfl
  have N0 := Fr.nil n0
  refine Goes.st (E := (EN s (QIv31 Z a cs aC kC c0 c1 c2 h0 n0) ({ frames := 4, cells := 2, slots := 9, locals := 57 } : Room).cells ({ frames := 4, cells := 2, slots := 9, locals := 57 } : Room).slots)) (fun tg kg => castTop (ef_Iv31 m a aC (0 : Int32) (3 : Int32)) kg) ?_
  have K0 : Keep h0 h0 [a] := Keep.refl _ _
  show Gs p e below _ s₁ m 0 #[rv a, rv aC, iv (0 : Int32), iv (3 : Int32), .val .null, .unset] []
  refine galoadN X0 hx (hb hby dj42_149_0) rfl rfl ?_
  obtain ⟨T1, X1, e1, st1⟩ := initO X0 hx hZ hown (hwk hw 15 rfl) (hwk hw 16 rfl) (hwk hw 17 rfl) e0 (g := (mkF m 1 #[rv a, rv aC, iv (0 : Int32), iv (3 : Int32), .val .null, .unset] [(.ref a)])) rfl (by rw [hml]; rfl) rfl (hb hby dj42_149_1) (by decide) (W := 0) (by show 2 * 0 + _ ≤ _; exact Nat.le_of_eq rfl) (by decide)
  refine Goes.st st1 ?_
  show Gs p e below _ T1 m 4 #[rv a, rv aC, iv (0 : Int32), iv (3 : Int32), .val .null, .unset] []
  refine giloadN X1 hx (hb hby dj42_149_4) rfl ?_
  show Gs p e below _ T1 m 5 #[rv a, rv aC, iv (0 : Int32), iv (3 : Int32), .val .null, .unset] [(.int (3 : Int32))]
  refine gifYes X1 hx (pc' := 27) (hb hby dj42_149_5) (by decide) (by decide) (by decide) ?_
  show Gs p e below _ T1 m 27 #[rv a, rv aC, iv (0 : Int32), iv (3 : Int32), .val .null, .unset] []
  obtain ⟨T2, X2, e2, st2⟩ := getS X1 hx hZ hown (host := "") (hwk hw 18 rfl) Via.refl e1 Scs (g := (mkF m 27 #[rv a, rv aC, iv (0 : Int32), iv (3 : Int32), .val .null, .unset] [])) rfl (hb hby dj42_149_27)
  refine Goes.st st2 ?_
  show Gs p e below _ T2 m 30 #[rv a, rv aC, iv (0 : Int32), iv (3 : Int32), .val .null, .unset] [(.int cs)]
  refine gifNo X2 hx (hb hby dj42_149_30) ((if0 _ _).trans (feq hcs).1) ?_
  show Gs p e below _ T2 m 33 #[rv a, rv aC, iv (0 : Int32), iv (3 : Int32), .val .null, .unset] []
  refine galoadN X2 hx (hb hby dj42_149_33) rfl rfl ?_
  refine giloadN X2 hx (hb hby dj42_149_34) rfl ?_
  refine giloadN X2 hx (hb hby dj42_149_35) rfl ?_
  have lt3 : a < h0.size := Ea.lt
  have lt4 : aC < h0.size := VC.lt
  obtain ⟨_, _, ⟨T5, L5, k5, n5⟩, -, X5, ⟨Lc5, hQ5, l5, y5, z5⟩, st5⟩ := Jvm.LawKit.callS X2 hx (y := mN6) hown (mvT hZ (hwk hw 19 rfl)) (mvT hZ (hwk hw 20 rfl)) (mvT hZ (hwk hw 21 rfl)) (mvT hZ (hwk hw 22 rfl)) (by decide) (backOf (W := 0) (rmCx31 l Z a0 hw [] aC kC c0 c1 c2 h0 n0 Z0 Sd Sh Sl VC hc0 hc1 hr1) hZ (hwk hw 22 rfl) (hwk hw 21 rfl) (by decide) (by decide)) (g := (mkF m 36 #[rv a, rv aC, iv (0 : Int32), iv (3 : Int32), .val .null, .unset] [(.int (3 : Int32)), (.int (0 : Int32)), (.ref aC)])) rfl (by rw [hml]; rfl) (argsL := [(.ref aC), (.int (0 : Int32)), (.int (3 : Int32))]) (rest := []) (lenOf pd___CII__B_166f rfl) rfl (by show 2 * 0 + _ ≤ _; exact Nat.le_of_eq rfl) (hb hby dj42_149_36) (fun _ _ => ⟨rfl, e2, (by decide : 0 + 2 ≤ 2), (by decide : 0 + 9 ≤ 9)⟩)
  dsimp only [Pt.U, Pt.locs, Pt.cells, Pt.slots] at X5 l5 y5 z5 st5 hQ5
  subst l5 y5 z5
  obtain ⟨b5, kB5, vs5, rfl, N5q, K5, szq5, loq5, V5⟩ := hQ5
  have KK6 := K0.trans K5 all0
  have ne_a_b5 : a ≠ b5 := Nat.ne_of_lt (Nat.lt_of_lt_of_le lt3 szq5)
  have ne_aC_b5 : aC ≠ b5 := Nat.ne_of_lt (Nat.lt_of_lt_of_le lt4 szq5)
  have sz_b5 : h0.size ≤ b5 := by have := KK6.1; have := szq5; omega
  have Z5 : n0 ≤ T5.heap.size := Nat.le_trans Z0 K5.1
  have N5 := Fr.app N0 N5q
  refine Goes.st st5 ?_
  show Gs p e below _ T5 m 39 #[rv a, rv aC, iv (0 : Int32), iv (3 : Int32), .val .null, .unset] [(.ref b5)]
  refine gastore X5 hx (hb hby dj42_149_39) trivial rfl (l' := #[rv a, rv aC, iv (0 : Int32), iv (3 : Int32), .val .null, rv b5]) rfl ?_
  refine galoadN X5 hx (hb hby dj42_149_41) rfl rfl ?_
  refine gaload X5 hx (hb hby dj42_149_42) rfl rfl ?_
  refine giloadN X5 hx (hb hby dj42_149_44) rfl ?_
  obtain ⟨_, _, ⟨T7, L7, k7, n7⟩, -, X7, ⟨Lc7, hQ7, l7, y7, z7⟩, st7⟩ := Jvm.LawKit.callS X5 hx (y := mN7) hown (mvT hZ (hwk hw 27 rfl)) (mvT hZ (hwk hw 28 rfl)) (mvT hZ (hwk hw 21 rfl)) (mvT hZ (hwk hw 29 rfl)) (by decide) (backOf (W := 1) (rmCl36 l Z a0 hw [] b5 kB5 vs5 T5.heap n0 Z5 V5) hZ (hwk hw 29 rfl) (hwk hw 21 rfl) (by decide) (by decide)) (g := (mkF m 45 #[rv a, rv aC, iv (0 : Int32), iv (3 : Int32), .val .null, rv b5] [(.int (3 : Int32)), (.ref b5), (.ref a)])) rfl (by rw [hml]; rfl) (argsL := [(.ref b5), (.int (3 : Int32))]) (rest := [(.ref a)]) (lenOf pd___BI_B_df7 rfl) rfl (by show 2 * 0 + _ ≤ _; exact Nat.le_of_eq rfl) (hb hby dj42_149_45) (fun _ _ => ⟨rfl, rfl, (by decide : 2 + 0 ≤ 2), (by decide : 9 + 0 ≤ 9)⟩)
  dsimp only [Pt.U, Pt.locs, Pt.cells, Pt.slots] at X7 l7 y7 z7 st7 hQ7
  subst l7 y7 z7
  obtain ⟨rfl, N7q, eh7⟩ := hQ7
  have N7 := Fr.app N5 N7q
  refine Goes.st st7 ?_
  show Gs p e below _ T7 m 48 #[rv a, rv aC, iv (0 : Int32), iv (3 : Int32), .val .null, rv b5] [(.int (1 : Int32)), (.ref a)]
  have f9 := (Fc.keep K5 nin0)
  have f10 := (Ea.keep K5)
  obtain ⟨T8, h8, X8, e8, W8, st8⟩ := putFN X7 hx hZ hown (hwk hw 30 rfl) Via.refl eh7 f9 f10 (Or.inr ⟨(hwk hw 31 rfl), rfl, hnm⟩) (hwk hw 5 rfl) (ty := .byte) (v' := (.int (1 : Int32))) (by decide) rfl (by decide) (g := (mkF m 48 #[rv a, rv aC, iv (0 : Int32), iv (3 : Int32), .val .null, rv b5] [(.int (1 : Int32)), (.ref a)])) rfl rfl (hb hby dj42_149_48)
  have N8 := Fr.snoc X8 N7 ga
  have G8 := f9.same W8
  refine Goes.st st8 ?_
  have KK11 := KK6.wr W8 (Or.inl (List.mem_of_getElem? (i := 0) rfl))
  have Z8 : n0 ≤ h8.size := by have := W8.size; have := Z5; omega
  show Gs p e below _ T8 m 51 #[rv a, rv aC, iv (0 : Int32), iv (3 : Int32), .val .null, rv b5] []
  refine galoadN X8 hx (hb hby dj42_149_51) rfl rfl ?_
  refine gaload X8 hx (hb hby dj42_149_52) rfl rfl ?_
  have f13 := ((Fv.keep K5 nin0).other W8 (Or.inr (slot_ne (Or.inr (hwk hw 33 rfl)) (Or.inr (hwk hw 31 rfl)) (by decide) (t := (.array .byte)) (t' := .byte) (by decide) (by decide))))
  have f14 := (f10.wr W8)
  obtain ⟨T12, h12, X12, e12, W12, st12⟩ := putF X8 hx hZ hown (host := "") (Or.inl (hwk hw 32 rfl)) Via.refl e8 f13 f14 (Or.inr ⟨(hwk hw 33 rfl), rfl, hnm⟩) (hwk hw 5 rfl) (ty := (.array .byte)) (by decide) rfl rfl (g := (mkF m 54 #[rv a, rv aC, iv (0 : Int32), iv (3 : Int32), .val .null, rv b5] [(.ref b5), (.ref a)])) rfl rfl (hb hby dj42_149_54)
  have N12 := Fr.snoc X12 N8 ga
  have G12 := f13.same W12
  refine Goes.st st12 ?_
  have KK15 := KK11.wr W12 (Or.inl (List.mem_of_getElem? (i := 0) rfl))
  have Z12 : n0 ≤ h12.size := by have := W12.size; have := Z8; omega
  show Gs p e below _ T12 m 57 #[rv a, rv aC, iv (0 : Int32), iv (3 : Int32), .val .null, rv b5] []
  refine Goes.retV X12 hx hret (hb hby dj42_149_57) (lvN X12 hlk (fun _ => rfl) ?_ (by decide) (by decide))
  rw [e12]
  exact ⟨rfl, N12, KK15⟩
theorem ef_Ic31 (m : MethodId) (x0 : Addr) (x1 : Addr) : entryFrame m #[(.ref x0), (.ref x1)] 2 = mkF m 0 #[rv x0, rv x1] [] := by first | (simp [entryFrame, mkF, argsToLocals, Value.category]; done) | rfl
def QIc31 (Z : State) (a : Addr) (cs : Int32) (aC : Addr) (kC : ClassId) (c0 c1 c2 : Int32) (h0 : Heap) (n0 : Nat) (v : Option Value) (h : Heap) (L : List Loc) : Prop := v = none ∧ Fr n0 L ∧ Keep h0 h [a]
set_option maxRecDepth 65536 in
set_option maxHeartbeats 40000000 in
theorem rmIc31 (l : Launch) (Z : State) (a0 : Array Value) (hw : ∀ d ∈ tables_1, d.before a0 Z = true) (ws : List Jvm.Cond) (a : Addr) (cs : Int32) (aC : Addr) (kC : ClassId) (c0 c1 c2 : Int32) (h0 : Heap) (n0 : Nat) (Z0 : n0 ≤ h0.size) (Scs : Sta Z h0 "java/lang/String" "COMPACT_STRINGS" "Z" (.int cs)) (hcs : ¬ cs = (0 : Int32)) (Sd : Sta Z h0 "java/lang/StringUTF16" "$assertionsDisabled" "Z" (.int (1 : Int32))) (Sh : Sta Z h0 "java/lang/StringUTF16" "HI_BYTE_SHIFT" "I" (.int (0 : Int32))) (Sl : Sta Z h0 "java/lang/StringUTF16" "LO_BYTE_SHIFT" "I" (.int (8 : Int32))) (Ea : Exa Z h0 a "java/lang/String") (ga : n0 ≤ a) (Fv : Fld Z h0 a "java/lang/String" "value" "[B" .null) (Fc : Fld Z h0 a "java/lang/String" "coder" "B" (.int (0 : Int32))) (VC : Arv Z h0 aC kC .char (3 : Int32) [(.int c0), (.int c1), (.int c2)] (.int (0 : Int32))) (naC : a ≠ aC) (hc0 : ¬ (255 : Int32) < c0) (hc1 : (255 : Int32) < c1) (hr1 : 0 ≤ c1.toInt ∧ c1.toInt < 65536) :
    MetFree l mN9 (head1 (Jvm.Cond.code mN9 jdk_42_method_3_code 2 none :: ws) ({ frames := 5, cells := 2, slots := 9, locals := 74 } : Room)) (fun aa U => aa = #[(.ref a), (.ref aC)] ∧ Z.Warmed39 U.vm ∧ U.heap = h0) (fun _ _ _ _ _ => True) (fun _ u1_ o_ u2_ => ∃ v_ l_, o_ = .returned v_ ∧ QIc31 Z a cs aC kC c0 c1 c2 h0 n0 v_ u2_.heap l_ ∧ FrameEnd u1_ o_ u2_ l_ ({ frames := 5, cells := 2, slots := 9, locals := 74 } : Room).cells ({ frames := 5, cells := 2, slots := 9, locals := 74 } : Room).slots) := by
  refine MetFree.of_bodySF (plainFor_of_name pn_java_lang_String) hisR ?_
  intro p e s m args below meth c s₁ Bd hml0 hP hK
  obtain ⟨rfl, hZ, hh⟩ := hP
  have hx := Bd.exec
  have hby := Bd.bytes
  have hlk := BodyLoose.notSynchronized Bd
  have hret := Bd.returns
  have hml : c.maxLocals = 2 := hml0
  have hown : s.vm.findClass "java/lang/String" = some m.cls := findClass_of_methodNamed Bd.named
  have hnm := (name_of_methodNamed Bd.named Bd.method).1
  have X0 : Stand p l e ({ frames := 5, cells := 2, slots := 9, locals := 74 } : Room) s m #[(.ref a), (.ref aC)] below meth c s₁ [] 0 0 := Stand.of_body Bd
  have e0 : s₁.heap = h0 := by rw [← hh, Bd.state]; rfl
  have N0 := Fr.nil n0
  refine Goes.st (E := (EN s (QIc31 Z a cs aC kC c0 c1 c2 h0 n0) ({ frames := 5, cells := 2, slots := 9, locals := 74 } : Room).cells ({ frames := 5, cells := 2, slots := 9, locals := 74 } : Room).slots)) (fun tg kg => castTop (ef_Ic31 m a aC) kg) ?_
  have K0 : Keep h0 h0 [a] := Keep.refl _ _
  show Gs p e below _ s₁ m 0 #[rv a, rv aC] []
  refine galoadN X0 hx (hb hby dj42_3_0) rfl rfl ?_
  refine galoadN X0 hx (hb hby dj42_3_1) rfl rfl ?_
  refine giconst X0 hx (hb hby dj42_3_2) ?_
  refine galoadN X0 hx (hb hby dj42_3_3) rfl rfl ?_
  show Gs p e below _ s₁ m 4 #[rv a, rv aC] [(.ref aC), (.int (0 : Int32)), (.ref aC), (.ref a)]
  obtain ⟨cl1, Ar1, qk1, Sz1, qz1, Ha1, Gf1⟩ := id VC
  refine Goes.st (fun tg kg => X0.arraylength hx (cell := cl1) (by rw [e0]; exact Ar1.1) (State.isArrayOf_alike hZ.alike Ar1.2.1) (g := (mkF m 4 #[rv a, rv aC] [(.ref aC), (.int (0 : Int32)), (.ref aC), (.ref a)])) rfl (rest := [(.int (0 : Int32)), (.ref aC), (.ref a)]) rfl (hb hby dj42_3_4) tg kg) ?_
  rw [len_of Sz1 qz1]
  show Gs p e below _ s₁ m 5 #[rv a, rv aC] [(.int (3 : Int32)), (.int (0 : Int32)), (.ref aC), (.ref a)]
  refine Goes.st (fun tg kg => XS.aconstNull X0.here hx rfl (hb hby dj42_3_5) kg) ?_
  obtain ⟨_, _, ⟨T2, L2, k2, n2⟩, -, X2, ⟨Lc2, hQ2, l2, y2, z2⟩, st2⟩ := X0.specialBack hx (y := mN8) rfl hown (mvT hZ (hwk hw 11 rfl)) (mvT hZ (hwk hw 12 rfl)) (mvT hZ (hwk hw 14 rfl)) (by decide) (backOf (W := 0) (rmIv31 l Z a0 hw [] a cs aC kC c0 c1 c2 h0 n0 Z0 Scs hcs Sd Sh Sl Ea ga Fv Fc VC naC hc0 hc1 hr1) hZ (hwk hw 14 rfl) (hwk hw 6 rfl) (by decide) (by decide)) (g := (mkF m 6 #[rv a, rv aC] [.null, (.int (3 : Int32)), (.int (0 : Int32)), (.ref aC), (.ref a)])) rfl (by rw [hml]; rfl) (Steps.refl _) (a := a) (argsL := [(.ref aC), (.int (0 : Int32)), (.int (3 : Int32)), .null]) (rest := []) (lenOf pd___CIILjava_lang_Void__V_897f rfl) rfl (by show 2 * 0 + _ ≤ _; exact Nat.le_of_eq rfl) (hb hby dj42_3_6) (fun _ _ => ⟨rfl, e0, (by decide : 0 + 2 ≤ 2), (by decide : 0 + 9 ≤ 9)⟩)
  dsimp only [Pt.U, Pt.locs, Pt.cells, Pt.slots] at X2 l2 y2 z2 st2 hQ2
  subst l2 y2 z2
  obtain ⟨rfl, N2q, K2⟩ := hQ2
  have KK3 := K0.trans K2 (allS (Or.inl (List.mem_of_getElem? (i := 0) rfl)) all0)
  have Z2 : n0 ≤ T2.heap.size := Nat.le_trans Z0 K2.1
  have N2 := Fr.app N0 N2q
  refine Goes.sts st2 ?_
  show Gs p e below _ T2 m 9 #[rv a, rv aC] []
  refine Goes.retV X2 hx hret (hb hby dj42_3_9) (lvN X2 hlk (fun _ => rfl) ?_ (by decide) (by decide))
  exact ⟨rfl, N2, KK3⟩
theorem ef_Cm32 (m : MethodId) (x0 : Addr) (x1 : Int32) (x2 : Addr) (x3 : Int32) (x4 : Int32) : entryFrame m #[(.ref x0), (.int x1), (.ref x2), (.int x3), (.int x4)] 7 = mkF m 0 #[rv x0, iv x1, rv x2, iv x3, iv x4, .unset, .unset] [] := by first | (simp [entryFrame, mkF, argsToLocals, Value.category]; done) | rfl
def QCm32 (Z : State) (aC : Addr) (kC : ClassId) (c0 c1 c2 : Int32) (aB : Addr) (kB : ClassId) (h0 : Heap) (n0 : Nat) (v : Option Value) (h : Heap) (L : List Loc) : Prop := ∃ (vs : List Value), v = some (.int (2 : Int32)) ∧ Fr n0 L ∧ Keep h0 h [aB] ∧ Arv Z h aB kB .byte (3 : Int32) vs (.int (0 : Int32))
set_option maxRecDepth 65536 in
set_option maxHeartbeats 40000000 in
theorem rmCm32 (l : Launch) (Z : State) (a0 : Array Value) (hw : ∀ d ∈ tables_1, d.before a0 Z = true) (ws : List Jvm.Cond) (aC : Addr) (kC : ClassId) (c0 c1 c2 : Int32) (aB : Addr) (kB : ClassId) (h0 : Heap) (n0 : Nat) (Z0 : n0 ≤ h0.size) (VC : Arv Z h0 aC kC .char (3 : Int32) [(.int c0), (.int c1), (.int c2)] (.int (0 : Int32))) (VB : Arv Z h0 aB kB .byte (3 : Int32) [(.int (0 : Int32)), (.int (0 : Int32)), (.int (0 : Int32))] (.int (0 : Int32))) (lB : n0 ≤ aB) (nCB : aC ≠ aB) (hc0 : ¬ (255 : Int32) < c0) (hc1 : ¬ (255 : Int32) < c1) (hc2 : (255 : Int32) < c2) (hr2 : 0 ≤ c2.toInt ∧ c2.toInt < 65536) :
    MetFree l mN5 (head1 (Jvm.Cond.code mN5 jdk_52_method_21_code 7 (some .int) :: ws) ({ frames := 0, cells := 0, slots := 0, locals := 0 } : Room)) (fun aa U => aa = #[(.ref aC), (.int (0 : Int32)), (.ref aB), (.int (0 : Int32)), (.int (3 : Int32))] ∧ Z.Warmed39 U.vm ∧ U.heap = h0) (fun _ _ _ _ _ => True) (fun _ u1_ o_ u2_ => ∃ v_ l_, o_ = .returned v_ ∧ QCm32 Z aC kC c0 c1 c2 aB kB h0 n0 v_ u2_.heap l_ ∧ FrameEnd u1_ o_ u2_ l_ ({ frames := 0, cells := 0, slots := 0, locals := 0 } : Room).cells ({ frames := 0, cells := 0, slots := 0, locals := 0 } : Room).slots) := by
  refine MetFree.of_bodySF (plainFor_of_name pn_java_lang_StringUTF16) hisR ?_
  intro p e s m args below meth c s₁ Bd hml0 hP hK
  obtain ⟨rfl, hZ, hh⟩ := hP
  have hx := Bd.exec
  have hby := Bd.bytes
  have hlk := BodyLoose.notSynchronized Bd
  have hret := Bd.returns
  have hml : c.maxLocals = 7 := hml0
  have hown : s.vm.findClass "java/lang/StringUTF16" = some m.cls := findClass_of_methodNamed Bd.named
  have hnm := (name_of_methodNamed Bd.named Bd.method).1
  have X0 : Stand p l e ({ frames := 0, cells := 0, slots := 0, locals := 0 } : Room) s m #[(.ref aC), (.int (0 : Int32)), (.ref aB), (.int (0 : Int32)), (.int (3 : Int32))] below meth c s₁ [] 0 0 := Stand.of_body Bd
  have e0 : s₁.heap = h0 := by rw [← hh, Bd.state]; rfl
  have N0 := Fr.nil n0
  refine Goes.st (E := (EN s (QCm32 Z aC kC c0 c1 c2 aB kB h0 n0) ({ frames := 0, cells := 0, slots := 0, locals := 0 } : Room).cells ({ frames := 0, cells := 0, slots := 0, locals := 0 } : Room).slots)) (fun tg kg => castTop (ef_Cm32 m aC (0 : Int32) aB (0 : Int32) (3 : Int32)) kg) ?_
  have K0 : Keep h0 h0 [aB] := Keep.refl _ _
  show Gs p e below _ s₁ m 0 #[rv aC, iv (0 : Int32), rv aB, iv (0 : Int32), iv (3 : Int32), .unset, .unset] []
  refine giconst X0 hx (hb hby dj52_21_0) ?_
  refine gistore X0 hx (hb hby dj52_21_1) trivial (l' := #[rv aC, iv (0 : Int32), rv aB, iv (0 : Int32), iv (3 : Int32), iv (0 : Int32), .unset]) rfl ?_
  refine giload X0 hx (hb hby dj52_21_3) rfl ?_
  refine giload X0 hx (hb hby dj52_21_5) rfl ?_
  show Gs p e below _ s₁ m 7 #[rv aC, iv (0 : Int32), rv aB, iv (0 : Int32), iv (3 : Int32), iv (0 : Int32), .unset] [(.int (3 : Int32)), (.int (0 : Int32))]
  refine gicmpNo X0 hx (hb hby dj52_21_7) (by decide) ?_
  show Gs p e below _ s₁ m 10 #[rv aC, iv (0 : Int32), rv aB, iv (0 : Int32), iv (3 : Int32), iv (0 : Int32), .unset] []
  refine galoadN X0 hx (hb hby dj52_21_10) rfl rfl ?_
  refine giloadN X0 hx (hb hby dj52_21_11) rfl ?_
  show Gs p e below _ s₁ m 12 #[rv aC, iv (0 : Int32), rv aB, iv (0 : Int32), iv (3 : Int32), iv (0 : Int32), .unset] [(.int (0 : Int32)), (.ref aC)]
  obtain ⟨cl1, Ar1, qk1, Sz1, qz1, Ha1, Gf1⟩ := id VC
  have in1 := inb_of (j := (0 : Int32)) Sz1 ⟨by decide, by decide⟩
  refine Goes.st (fun tg kg => X0.caload hx (j := (0 : Int32)) (v := (.int c0)) (by rw [e0]; exact Ar1.1) (State.isArrayOf_alike hZ.alike Ar1.2.1) Ar1.2.2 in1 (Ha1.at in1 rfl) (g := (mkF m 12 #[rv aC, iv (0 : Int32), rv aB, iv (0 : Int32), iv (3 : Int32), iv (0 : Int32), .unset] [(.int (0 : Int32)), (.ref aC)])) rfl rfl (hb hby dj52_21_12) tg kg) ?_
  show Gs p e below _ s₁ m 13 #[rv aC, iv (0 : Int32), rv aB, iv (0 : Int32), iv (3 : Int32), iv (0 : Int32), .unset] [(.int c0)]
  refine gistore X0 hx (hb hby dj52_21_13) trivial (l' := #[rv aC, iv (0 : Int32), rv aB, iv (0 : Int32), iv (3 : Int32), iv (0 : Int32), iv c0]) rfl ?_
  refine giload X0 hx (hb hby dj52_21_15) rfl ?_
  refine Goes.st (fun tg kg => XS.sipush X0.here hx rfl (hb hby dj52_21_17) kg) ?_
  show Gs p e below _ s₁ m 20 #[rv aC, iv (0 : Int32), rv aB, iv (0 : Int32), iv (3 : Int32), iv (0 : Int32), iv c0] [(.int (255 : Int32)), (.int c0)]
  refine gicmpYes X0 hx (pc' := 26) (hb hby dj52_21_20) (flt hc0).2.2.2 (by decide) (by decide) ?_
  show Gs p e below _ s₁ m 26 #[rv aC, iv (0 : Int32), rv aB, iv (0 : Int32), iv (3 : Int32), iv (0 : Int32), iv c0] []
  refine galoadN X0 hx (hb hby dj52_21_26) rfl rfl ?_
  refine giloadN X0 hx (hb hby dj52_21_27) rfl ?_
  refine giload X0 hx (hb hby dj52_21_28) rfl ?_
  show Gs p e below _ s₁ m 30 #[rv aC, iv (0 : Int32), rv aB, iv (0 : Int32), iv (3 : Int32), iv (0 : Int32), iv c0] [(.int c0), (.int (0 : Int32)), (.ref aB)]
  refine Goes.st (fun tg kg => XT.i2b X0.here hx rfl (hb hby dj52_21_30) rfl kg) ?_
  show Gs p e below _ s₁ m 31 #[rv aC, iv (0 : Int32), rv aB, iv (0 : Int32), iv (3 : Int32), iv (0 : Int32), iv c0] [(.int (c0).toInt8.toInt32), (.int (0 : Int32)), (.ref aB)]
  obtain ⟨cl2, Ar2, qk2, Sz2, qz2, Ha2, Gf2⟩ := id VB
  obtain ⟨T2, h2, X2, e2, W2, st2⟩ := stB X0 hx hZ e0 Ar2 (inb_of Sz2 ⟨by decide, by decide⟩) (g := (mkF m 31 #[rv aC, iv (0 : Int32), rv aB, iv (0 : Int32), iv (3 : Int32), iv (0 : Int32), iv c0] [(.int (c0).toInt8.toInt32), (.int (0 : Int32)), (.ref aB)])) rfl rfl (hb hby dj52_21_31)
  have N2 := Fr.snoc X2 N0 lB
  have V2 : Arv Z h2 aB kB .byte (3 : Int32) [(.int (nar .byte (c0).toInt8.toInt32)), (.int (0 : Int32)), (.int (0 : Int32))] (.int (0 : Int32)) := Arv.set Ar2 qk2 Sz2 qz2 Ha2 Gf2 (fits_nar_byte _) W2 0 (by decide) (by simp)
  refine Goes.st st2 ?_
  have KK3 := K0.wr W2 (Or.inl (List.mem_of_getElem? (i := 0) rfl))
  have Z2 : n0 ≤ h2.size := by have := W2.size; have := Z0; omega
  show Gs p e below _ T2 m 32 #[rv aC, iv (0 : Int32), rv aB, iv (0 : Int32), iv (3 : Int32), iv (0 : Int32), iv c0] []
  refine Goes.st (fun tg kg => XS.iinc X2.here hx rfl (hb hby dj52_21_32) rfl (l' := #[rv aC, iv (1 : Int32), rv aB, iv (0 : Int32), iv (3 : Int32), iv (0 : Int32), iv c0]) rfl kg) ?_
  refine Goes.st (fun tg kg => XS.iinc X2.here hx rfl (hb hby dj52_21_35) rfl (l' := #[rv aC, iv (1 : Int32), rv aB, iv (1 : Int32), iv (3 : Int32), iv (0 : Int32), iv c0]) rfl kg) ?_
  refine Goes.st (fun tg kg => XS.iinc X2.here hx rfl (hb hby dj52_21_38) rfl (l' := #[rv aC, iv (1 : Int32), rv aB, iv (1 : Int32), iv (3 : Int32), iv (1 : Int32), iv c0]) rfl kg) ?_
  show Gs p e below _ T2 m 41 #[rv aC, iv (1 : Int32), rv aB, iv (1 : Int32), iv (3 : Int32), iv (1 : Int32), iv c0] []
  refine ggoto X2 hx (pc' := 3) (hb hby dj52_21_41) (by decide) (by decide) ?_
  show Gs p e below _ T2 m 3 #[rv aC, iv (1 : Int32), rv aB, iv (1 : Int32), iv (3 : Int32), iv (1 : Int32), iv c0] []
  refine giload X2 hx (hb hby dj52_21_3) rfl ?_
  refine giload X2 hx (hb hby dj52_21_5) rfl ?_
  show Gs p e below _ T2 m 7 #[rv aC, iv (1 : Int32), rv aB, iv (1 : Int32), iv (3 : Int32), iv (1 : Int32), iv c0] [(.int (3 : Int32)), (.int (1 : Int32))]
  refine gicmpNo X2 hx (hb hby dj52_21_7) (by decide) ?_
  show Gs p e below _ T2 m 10 #[rv aC, iv (1 : Int32), rv aB, iv (1 : Int32), iv (3 : Int32), iv (1 : Int32), iv c0] []
  refine galoadN X2 hx (hb hby dj52_21_10) rfl rfl ?_
  refine giloadN X2 hx (hb hby dj52_21_11) rfl ?_
  show Gs p e below _ T2 m 12 #[rv aC, iv (1 : Int32), rv aB, iv (1 : Int32), iv (3 : Int32), iv (1 : Int32), iv c0] [(.int (1 : Int32)), (.ref aC)]
  have f4 := (VC.other W2 nCB)
  obtain ⟨cl5, Ar5, qk5, Sz5, qz5, Ha5, Gf5⟩ := id f4
  have in5 := inb_of (j := (1 : Int32)) Sz5 ⟨by decide, by decide⟩
  refine Goes.st (fun tg kg => X2.caload hx (j := (1 : Int32)) (v := (.int c1)) (by rw [e2]; exact Ar5.1) (State.isArrayOf_alike hZ.alike Ar5.2.1) Ar5.2.2 in5 (Ha5.at in5 rfl) (g := (mkF m 12 #[rv aC, iv (1 : Int32), rv aB, iv (1 : Int32), iv (3 : Int32), iv (1 : Int32), iv c0] [(.int (1 : Int32)), (.ref aC)])) rfl rfl (hb hby dj52_21_12) tg kg) ?_
  show Gs p e below _ T2 m 13 #[rv aC, iv (1 : Int32), rv aB, iv (1 : Int32), iv (3 : Int32), iv (1 : Int32), iv c0] [(.int c1)]
  refine gistore X2 hx (hb hby dj52_21_13) trivial (l' := #[rv aC, iv (1 : Int32), rv aB, iv (1 : Int32), iv (3 : Int32), iv (1 : Int32), iv c1]) rfl ?_
  refine giload X2 hx (hb hby dj52_21_15) rfl ?_
  refine Goes.st (fun tg kg => XS.sipush X2.here hx rfl (hb hby dj52_21_17) kg) ?_
  show Gs p e below _ T2 m 20 #[rv aC, iv (1 : Int32), rv aB, iv (1 : Int32), iv (3 : Int32), iv (1 : Int32), iv c1] [(.int (255 : Int32)), (.int c1)]
  refine gicmpYes X2 hx (pc' := 26) (hb hby dj52_21_20) (flt hc1).2.2.2 (by decide) (by decide) ?_
  show Gs p e below _ T2 m 26 #[rv aC, iv (1 : Int32), rv aB, iv (1 : Int32), iv (3 : Int32), iv (1 : Int32), iv c1] []
  refine galoadN X2 hx (hb hby dj52_21_26) rfl rfl ?_
  refine giloadN X2 hx (hb hby dj52_21_27) rfl ?_
  refine giload X2 hx (hb hby dj52_21_28) rfl ?_
  show Gs p e below _ T2 m 30 #[rv aC, iv (1 : Int32), rv aB, iv (1 : Int32), iv (3 : Int32), iv (1 : Int32), iv c1] [(.int c1), (.int (1 : Int32)), (.ref aB)]
  refine Goes.st (fun tg kg => XT.i2b X2.here hx rfl (hb hby dj52_21_30) rfl kg) ?_
  show Gs p e below _ T2 m 31 #[rv aC, iv (1 : Int32), rv aB, iv (1 : Int32), iv (3 : Int32), iv (1 : Int32), iv c1] [(.int (c1).toInt8.toInt32), (.int (1 : Int32)), (.ref aB)]
  obtain ⟨cl6, Ar6, qk6, Sz6, qz6, Ha6, Gf6⟩ := id V2
  obtain ⟨T6, h6, X6, e6, W6, st6⟩ := stB X2 hx hZ e2 Ar6 (inb_of Sz6 ⟨by decide, by decide⟩) (g := (mkF m 31 #[rv aC, iv (1 : Int32), rv aB, iv (1 : Int32), iv (3 : Int32), iv (1 : Int32), iv c1] [(.int (c1).toInt8.toInt32), (.int (1 : Int32)), (.ref aB)])) rfl rfl (hb hby dj52_21_31)
  have N6 := Fr.snoc X6 N2 lB
  have V6 : Arv Z h6 aB kB .byte (3 : Int32) [(.int (nar .byte (c0).toInt8.toInt32)), (.int (nar .byte (c1).toInt8.toInt32)), (.int (0 : Int32))] (.int (0 : Int32)) := Arv.set Ar6 qk6 Sz6 qz6 Ha6 Gf6 (fits_nar_byte _) W6 1 (by decide) (by simp)
  refine Goes.st st6 ?_
  have KK7 := KK3.wr W6 (Or.inl (List.mem_of_getElem? (i := 0) rfl))
  have Z6 : n0 ≤ h6.size := by have := W6.size; have := Z2; omega
  show Gs p e below _ T6 m 32 #[rv aC, iv (1 : Int32), rv aB, iv (1 : Int32), iv (3 : Int32), iv (1 : Int32), iv c1] []
  refine Goes.st (fun tg kg => XS.iinc X6.here hx rfl (hb hby dj52_21_32) rfl (l' := #[rv aC, iv (2 : Int32), rv aB, iv (1 : Int32), iv (3 : Int32), iv (1 : Int32), iv c1]) rfl kg) ?_
  refine Goes.st (fun tg kg => XS.iinc X6.here hx rfl (hb hby dj52_21_35) rfl (l' := #[rv aC, iv (2 : Int32), rv aB, iv (2 : Int32), iv (3 : Int32), iv (1 : Int32), iv c1]) rfl kg) ?_
  refine Goes.st (fun tg kg => XS.iinc X6.here hx rfl (hb hby dj52_21_38) rfl (l' := #[rv aC, iv (2 : Int32), rv aB, iv (2 : Int32), iv (3 : Int32), iv (2 : Int32), iv c1]) rfl kg) ?_
  show Gs p e below _ T6 m 41 #[rv aC, iv (2 : Int32), rv aB, iv (2 : Int32), iv (3 : Int32), iv (2 : Int32), iv c1] []
  refine ggoto X6 hx (pc' := 3) (hb hby dj52_21_41) (by decide) (by decide) ?_
  show Gs p e below _ T6 m 3 #[rv aC, iv (2 : Int32), rv aB, iv (2 : Int32), iv (3 : Int32), iv (2 : Int32), iv c1] []
  refine giload X6 hx (hb hby dj52_21_3) rfl ?_
  refine giload X6 hx (hb hby dj52_21_5) rfl ?_
  show Gs p e below _ T6 m 7 #[rv aC, iv (2 : Int32), rv aB, iv (2 : Int32), iv (3 : Int32), iv (2 : Int32), iv c1] [(.int (3 : Int32)), (.int (2 : Int32))]
  refine gicmpNo X6 hx (hb hby dj52_21_7) (by decide) ?_
  show Gs p e below _ T6 m 10 #[rv aC, iv (2 : Int32), rv aB, iv (2 : Int32), iv (3 : Int32), iv (2 : Int32), iv c1] []
  refine galoadN X6 hx (hb hby dj52_21_10) rfl rfl ?_
  refine giloadN X6 hx (hb hby dj52_21_11) rfl ?_
  show Gs p e below _ T6 m 12 #[rv aC, iv (2 : Int32), rv aB, iv (2 : Int32), iv (3 : Int32), iv (2 : Int32), iv c1] [(.int (2 : Int32)), (.ref aC)]
  have f8 := (f4.other W6 nCB)
  obtain ⟨cl9, Ar9, qk9, Sz9, qz9, Ha9, Gf9⟩ := id f8
  have in9 := inb_of (j := (2 : Int32)) Sz9 ⟨by decide, by decide⟩
  refine Goes.st (fun tg kg => X6.caload hx (j := (2 : Int32)) (v := (.int c2)) (by rw [e6]; exact Ar9.1) (State.isArrayOf_alike hZ.alike Ar9.2.1) Ar9.2.2 in9 (Ha9.at in9 rfl) (g := (mkF m 12 #[rv aC, iv (2 : Int32), rv aB, iv (2 : Int32), iv (3 : Int32), iv (2 : Int32), iv c1] [(.int (2 : Int32)), (.ref aC)])) rfl rfl (hb hby dj52_21_12) tg kg) ?_
  show Gs p e below _ T6 m 13 #[rv aC, iv (2 : Int32), rv aB, iv (2 : Int32), iv (3 : Int32), iv (2 : Int32), iv c1] [(.int c2)]
  refine gistore X6 hx (hb hby dj52_21_13) trivial (l' := #[rv aC, iv (2 : Int32), rv aB, iv (2 : Int32), iv (3 : Int32), iv (2 : Int32), iv c2]) rfl ?_
  refine giload X6 hx (hb hby dj52_21_15) rfl ?_
  refine Goes.st (fun tg kg => XS.sipush X6.here hx rfl (hb hby dj52_21_17) kg) ?_
  show Gs p e below _ T6 m 20 #[rv aC, iv (2 : Int32), rv aB, iv (2 : Int32), iv (3 : Int32), iv (2 : Int32), iv c2] [(.int (255 : Int32)), (.int c2)]
  refine gicmpNo X6 hx (hb hby dj52_21_20) (tlt hc2).2.2.2 ?_
  show Gs p e below _ T6 m 23 #[rv aC, iv (2 : Int32), rv aB, iv (2 : Int32), iv (3 : Int32), iv (2 : Int32), iv c2] []
  refine giload X6 hx (hb hby dj52_21_23) rfl ?_
  show Gs p e below _ T6 m 25 #[rv aC, iv (2 : Int32), rv aB, iv (2 : Int32), iv (3 : Int32), iv (2 : Int32), iv c2] [(.int (2 : Int32))]
  refine Goes.retI X6 hx hret (hb hby dj52_21_25) (lvN X6 hlk (vsome hret) ?_ (by decide) (by decide))
  rw [e6]
  exact ⟨_, rfl, N6, KK7, V6⟩
theorem ef_Cx32 (m : MethodId) (x0 : Addr) (x1 : Int32) (x2 : Int32) : entryFrame m #[(.ref x0), (.int x1), (.int x2)] 6 = mkF m 0 #[rv x0, iv x1, iv x2, .unset, .unset, .unset] [] := by first | (simp [entryFrame, mkF, argsToLocals, Value.category]; done) | rfl
def QCx32 (Z : State) (aC : Addr) (kC : ClassId) (c0 c1 c2 : Int32) (h0 : Heap) (n0 : Nat) (v : Option Value) (h : Heap) (L : List Loc) : Prop := ∃ (b : Addr) (kB : ClassId) (vs : List Value), v = some (.ref b) ∧ Fr n0 L ∧ Keep h0 h [] ∧ h0.size ≤ b ∧ n0 ≤ b ∧ Arv Z h b kB .byte (6 : Int32) vs (.int (0 : Int32))
set_option maxRecDepth 65536 in
set_option maxHeartbeats 40000000 in
theorem rmCx32 (l : Launch) (Z : State) (a0 : Array Value) (hw : ∀ d ∈ tables_1, d.before a0 Z = true) (ws : List Jvm.Cond) (aC : Addr) (kC : ClassId) (c0 c1 c2 : Int32) (h0 : Heap) (n0 : Nat) (Z0 : n0 ≤ h0.size) (Sd : Sta Z h0 "java/lang/StringUTF16" "$assertionsDisabled" "Z" (.int (1 : Int32))) (Sh : Sta Z h0 "java/lang/StringUTF16" "HI_BYTE_SHIFT" "I" (.int (0 : Int32))) (Sl : Sta Z h0 "java/lang/StringUTF16" "LO_BYTE_SHIFT" "I" (.int (8 : Int32))) (VC : Arv Z h0 aC kC .char (3 : Int32) [(.int c0), (.int c1), (.int c2)] (.int (0 : Int32))) (hc0 : ¬ (255 : Int32) < c0) (hc1 : ¬ (255 : Int32) < c1) (hc2 : (255 : Int32) < c2) (hr2 : 0 ≤ c2.toInt ∧ c2.toInt < 65536) :
    MetFree l mN6 (head1 (Jvm.Cond.code mN6 jdk_52_method_16_code 6 (some (.array .byte)) :: ws) ({ frames := 3, cells := 2, slots := 9, locals := 40 } : Room)) (fun aa U => aa = #[(.ref aC), (.int (0 : Int32)), (.int (3 : Int32))] ∧ Z.Warmed39 U.vm ∧ U.heap = h0) (fun _ _ _ _ _ => True) (fun _ u1_ o_ u2_ => ∃ v_ l_, o_ = .returned v_ ∧ QCx32 Z aC kC c0 c1 c2 h0 n0 v_ u2_.heap l_ ∧ FrameEnd u1_ o_ u2_ l_ ({ frames := 3, cells := 2, slots := 9, locals := 40 } : Room).cells ({ frames := 3, cells := 2, slots := 9, locals := 40 } : Room).slots) := by
  refine MetFree.of_bodySF (plainFor_of_name pn_java_lang_StringUTF16) hisR ?_
  intro p e s m args below meth c s₁ Bd hml0 hP hK
  obtain ⟨rfl, hZ, hh⟩ := hP
  have hx := Bd.exec
  have hby := Bd.bytes
  have hlk := BodyLoose.notSynchronized Bd
  have hret := Bd.returns
  have hml : c.maxLocals = 6 := hml0
  have hown : s.vm.findClass "java/lang/StringUTF16" = some m.cls := findClass_of_methodNamed Bd.named
  have hnm := (name_of_methodNamed Bd.named Bd.method).1
  have X0 : Stand p l e ({ frames := 3, cells := 2, slots := 9, locals := 40 } : Room) s m #[(.ref aC), (.int (0 : Int32)), (.int (3 : Int32))] below meth c s₁ [] 0 0 := Stand.of_body Bd
  have e0 : s₁.heap = h0 := by rw [← hh, Bd.state]; rfl
  have N0 := Fr.nil n0
  refine Goes.st (E := (EN s (QCx32 Z aC kC c0 c1 c2 h0 n0) ({ frames := 3, cells := 2, slots := 9, locals := 40 } : Room).cells ({ frames := 3, cells := 2, slots := 9, locals := 40 } : Room).slots)) (fun tg kg => castTop (ef_Cx32 m aC (0 : Int32) (3 : Int32)) kg) ?_
  have K0 : Keep h0 h0 [] := Keep.refl _ _
  show Gs p e below _ s₁ m 0 #[rv aC, iv (0 : Int32), iv (3 : Int32), .unset, .unset, .unset] []
  refine giloadN X0 hx (hb hby dj52_16_0) rfl ?_
  obtain ⟨T1, h1, cA1, X1, e1, E1, A1, st1⟩ := newP X0 hx hZ (hwk hw 23 rfl) e0 (g := (mkF m 1 #[rv aC, iv (0 : Int32), iv (3 : Int32), .unset, .unset, .unset] [(.int (3 : Int32))])) rfl (hb hby dj52_16_1) rfl (by decide) (cap := 3) (by decide) (by decide) (by decide) (by decide)
  obtain ⟨b1, g1⟩ : ∃ z, z = h0.size := ⟨_, rfl⟩
  rw [← g1] at A1 st1
  have ne_aC_b1 : aC ≠ b1 := Nat.ne_of_lt (Nat.lt_of_lt_of_le VC.lt (Nat.le_of_eq g1.symm))
  have lo_b1 : n0 ≤ b1 := by have := Z0; omega
  have sz_b1 : h0.size ≤ b1 := by have := K0.1; omega
  have KK2 := K0.ext E1
  have V1 : Arv Z h1 b1 cA1 .byte (3 : Int32) [(.int (0 : Int32)), (.int (0 : Int32)), (.int (0 : Int32))] (.int (0 : Int32)) := (Arv.new A1 (by decide)).pad (pad_rep [] _ 3)
  refine Goes.st st1 ?_
  have Z1 : n0 ≤ h1.size := Nat.le_trans Z0 E1.1
  show Gs p e below _ T1 m 3 #[rv aC, iv (0 : Int32), iv (3 : Int32), .unset, .unset, .unset] [(.ref b1)]
  refine gastoreN X1 hx (hb hby dj52_16_3) trivial rfl (l' := #[rv aC, iv (0 : Int32), iv (3 : Int32), rv b1, .unset, .unset]) rfl ?_
  refine galoadN X1 hx (hb hby dj52_16_4) rfl rfl ?_
  refine giloadN X1 hx (hb hby dj52_16_5) rfl ?_
  refine galoadN X1 hx (hb hby dj52_16_6) rfl rfl ?_
  refine giconst X1 hx (hb hby dj52_16_7) ?_
  show Gs p e below _ T1 m 8 #[rv aC, iv (0 : Int32), iv (3 : Int32), rv b1, .unset, .unset] [(.int (0 : Int32)), (.ref b1), (.int (0 : Int32)), (.ref aC)]
  refine giloadN X1 hx (hb hby dj52_16_8) rfl ?_
  have f3 := (VC.ext E1)
  obtain ⟨_, _, ⟨T4, L4, k4, n4⟩, -, X4, ⟨Lc4, hQ4, l4, y4, z4⟩, st4⟩ := Jvm.LawKit.callS X1 hx (y := mN5) hown (mvT hZ (hwk hw 24 rfl)) (mvT hZ (hwk hw 25 rfl)) (mvT hZ (hwk hw 21 rfl)) (mvT hZ (hwk hw 26 rfl)) (by decide) (backOf (W := 0) (rmCm32 l Z a0 hw [] aC kC c0 c1 c2 b1 cA1 h1 n0 Z1 f3 V1 lo_b1 ne_aC_b1 hc0 hc1 hc2 hr2) hZ (hwk hw 26 rfl) (hwk hw 21 rfl) (by decide) (by decide)) (g := (mkF m 9 #[rv aC, iv (0 : Int32), iv (3 : Int32), rv b1, .unset, .unset] [(.int (3 : Int32)), (.int (0 : Int32)), (.ref b1), (.int (0 : Int32)), (.ref aC)])) rfl (by rw [hml]; rfl) (argsL := [(.ref aC), (.int (0 : Int32)), (.ref b1), (.int (0 : Int32)), (.int (3 : Int32))]) (rest := []) (lenOf pd___CI_BII_I_1ed0 rfl) rfl (by show 2 * 0 + _ ≤ _; exact Nat.le_of_eq rfl) (hb hby dj52_16_9) (fun _ _ => ⟨rfl, e1, (by decide : 1 + 0 ≤ 2), (by decide : 3 + 0 ≤ 9)⟩)
  dsimp only [Pt.U, Pt.locs, Pt.cells, Pt.slots] at X4 l4 y4 z4 st4 hQ4
  subst l4 y4 z4
  obtain ⟨vs4, rfl, N4q, K4, V4⟩ := hQ4
  have KK5 := KK2.trans K4 (allS (Or.inr sz_b1) all0)
  have Z4 : n0 ≤ T4.heap.size := Nat.le_trans Z1 K4.1
  have N4 := Fr.app N0 N4q
  refine Goes.st st4 ?_
  show Gs p e below _ T4 m 12 #[rv aC, iv (0 : Int32), iv (3 : Int32), rv b1, .unset, .unset] [(.int (2 : Int32))]
  refine gistore X4 hx (hb hby dj52_16_12) trivial (l' := #[rv aC, iv (0 : Int32), iv (3 : Int32), rv b1, iv (2 : Int32), .unset]) rfl ?_
  refine giload X4 hx (hb hby dj52_16_14) rfl ?_
  refine giloadN X4 hx (hb hby dj52_16_16) rfl ?_
  show Gs p e below _ T4 m 17 #[rv aC, iv (0 : Int32), iv (3 : Int32), rv b1, iv (2 : Int32), .unset] [(.int (3 : Int32)), (.int (2 : Int32))]
  refine gicmpNo X4 hx (hb hby dj52_16_17) (by decide) ?_
  show Gs p e below _ T4 m 20 #[rv aC, iv (0 : Int32), iv (3 : Int32), rv b1, iv (2 : Int32), .unset] []
  refine galoadN X4 hx (hb hby dj52_16_20) rfl rfl ?_
  refine giloadN X4 hx (hb hby dj52_16_21) rfl ?_
  refine giloadN X4 hx (hb hby dj52_16_22) rfl ?_
  have f6 := (f3.keep K4 (ninS ne_aC_b1 nin0))
  have f7 := ((Sd.ext E1).kept K4 (nsS (Arv.nostat V1) ns0))
  have f8 := ((Sh.ext E1).kept K4 (nsS (Arv.nostat V1) ns0))
  have f9 := ((Sl.ext E1).kept K4 (nsS (Arv.nostat V1) ns0))
  have lt10 : aC < T4.heap.size := f6.lt
  have lt11 : b1 < T4.heap.size := V4.lt
  obtain ⟨_, _, ⟨T12, L12, k12, n12⟩, -, X12, ⟨Lc12, hQ12, l12, y12, z12⟩, st12⟩ := Jvm.LawKit.callS X4 hx (y := mN4) hown (mvT hZ (hwk hw 75 rfl)) (mvT hZ (hwk hw 76 rfl)) (mvT hZ (hwk hw 21 rfl)) (mvT hZ (hwk hw 77 rfl)) (by decide) (backOf (W := 0) (rmBy3 l Z a0 hw [] aC kC c0 c1 c2 T4.heap n0 Z4 f7 f8 f9 f6) hZ (hwk hw 77 rfl) (hwk hw 21 rfl) (by decide) (by decide)) (g := (mkF m 23 #[rv aC, iv (0 : Int32), iv (3 : Int32), rv b1, iv (2 : Int32), .unset] [(.int (3 : Int32)), (.int (0 : Int32)), (.ref aC)])) rfl (by rw [hml]; rfl) (argsL := [(.ref aC), (.int (0 : Int32)), (.int (3 : Int32))]) (rest := []) (lenOf pd___CII__B_166f rfl) rfl (by show 2 * 0 + _ ≤ _; exact Nat.le_of_eq rfl) (hb hby dj52_16_23) (fun _ _ => ⟨rfl, rfl, (by decide : 1 + 1 ≤ 2), (by decide : 3 + 6 ≤ 9)⟩)
  dsimp only [Pt.U, Pt.locs, Pt.cells, Pt.slots] at X12 l12 y12 z12 st12 hQ12
  subst l12 y12 z12
  obtain ⟨b12, kB12, rfl, N12q, K12, szq12, loq12, V12⟩ := hQ12
  have KK13 := KK5.trans K12 all0
  have ne_aC_b12 : aC ≠ b12 := Nat.ne_of_lt (Nat.lt_of_lt_of_le lt10 szq12)
  have ne_b1_b12 : b1 ≠ b12 := Nat.ne_of_lt (Nat.lt_of_lt_of_le lt11 szq12)
  have sz_b12 : h0.size ≤ b12 := by have := KK13.1; have := szq12; omega
  have Z12 : n0 ≤ T12.heap.size := Nat.le_trans Z4 K12.1
  have N12 := Fr.app N4 N12q
  refine Goes.st st12 ?_
  show Gs p e below _ T12 m 26 #[rv aC, iv (0 : Int32), iv (3 : Int32), rv b1, iv (2 : Int32), .unset] [(.ref b12)]
  refine gastore X12 hx (hb hby dj52_16_26) trivial rfl (l' := #[rv aC, iv (0 : Int32), iv (3 : Int32), rv b1, iv (2 : Int32), rv b12]) rfl ?_
  refine gaload X12 hx (hb hby dj52_16_28) rfl rfl ?_
  refine giload X12 hx (hb hby dj52_16_30) rfl ?_
  have f14 := (f7.kept K12 ns0)
  have f15 := (f8.kept K12 ns0)
  have f16 := (f9.kept K12 ns0)
  obtain ⟨_, _, ⟨T17, L17, k17, n17⟩, -, X17, ⟨Lc17, hQ17, l17, y17, z17⟩, st17⟩ := Jvm.LawKit.callS X12 hx (y := mN3) hown (mvT hZ (hwk hw 91 rfl)) (mvT hZ (hwk hw 92 rfl)) (mvT hZ (hwk hw 21 rfl)) (mvT hZ (hwk hw 93 rfl)) (by decide) (backOf (W := 0) (rmGc32 l Z a0 hw [] b12 kB12 (nar .byte (c0 >>> ((0 : Int32) &&& 31)).toInt8.toInt32) (nar .byte (c0 >>> ((8 : Int32) &&& 31)).toInt8.toInt32) (nar .byte (c1 >>> ((0 : Int32) &&& 31)).toInt8.toInt32) (nar .byte (c1 >>> ((8 : Int32) &&& 31)).toInt8.toInt32) (nar .byte (c2 >>> ((0 : Int32) &&& 31)).toInt8.toInt32) (nar .byte (c2 >>> ((8 : Int32) &&& 31)).toInt8.toInt32) T12.heap n0 Z12 f14 f15 f16 V12) hZ (hwk hw 93 rfl) (hwk hw 21 rfl) (by decide) (by decide)) (g := (mkF m 32 #[rv aC, iv (0 : Int32), iv (3 : Int32), rv b1, iv (2 : Int32), rv b12] [(.int (2 : Int32)), (.ref b12)])) rfl (by rw [hml]; rfl) (argsL := [(.ref b12), (.int (2 : Int32))]) (rest := []) (lenOf pd___BI_C_e03 rfl) rfl (by show 2 * 0 + _ ≤ _; exact Nat.le_of_eq rfl) (hb hby dj52_16_32) (fun _ _ => ⟨rfl, rfl, (by decide : 2 + 0 ≤ 2), (by decide : 9 + 0 ≤ 9)⟩)
  dsimp only [Pt.U, Pt.locs, Pt.cells, Pt.slots] at X17 l17 y17 z17 st17 hQ17
  subst l17 y17 z17
  obtain ⟨rfl, N17q, eh17⟩ := hQ17
  rw [own_gc hr2] at st17
  have N17 := Fr.app N12 N17q
  refine Goes.st st17 ?_
  show Gs p e below _ T17 m 35 #[rv aC, iv (0 : Int32), iv (3 : Int32), rv b1, iv (2 : Int32), rv b12] [(.int c2)]
  refine Goes.st (fun tg kg => XS.sipush X17.here hx rfl (hb hby dj52_16_35) kg) ?_
  show Gs p e below _ T17 m 38 #[rv aC, iv (0 : Int32), iv (3 : Int32), rv b1, iv (2 : Int32), rv b12] [(.int (255 : Int32)), (.int c2)]
  refine gicmpYes X17 hx (pc' := 54) (hb hby dj52_16_38) (tlt hc2).2.2.1 (by decide) (by decide) ?_
  show Gs p e below _ T17 m 54 #[rv aC, iv (0 : Int32), iv (3 : Int32), rv b1, iv (2 : Int32), rv b12] []
  refine gaload X17 hx (hb hby dj52_16_54) rfl rfl ?_
  show Gs p e below _ T17 m 56 #[rv aC, iv (0 : Int32), iv (3 : Int32), rv b1, iv (2 : Int32), rv b12] [(.ref b12)]
  refine Goes.retA X17 hx hret rfl rfl rfl (hb hby dj52_16_56) (lvN X17 hlk (vsome hret) ?_ (by decide) (by decide))
  rw [eh17]
  exact ⟨b12, kB12, _, rfl, N17, KK13, sz_b12, loq12, V12⟩
theorem ef_Iv32 (m : MethodId) (x0 : Addr) (x1 : Addr) (x2 : Int32) (x3 : Int32) : entryFrame m #[(.ref x0), (.ref x1), (.int x2), (.int x3), .null] 6 = mkF m 0 #[rv x0, rv x1, iv x2, iv x3, .val .null, .unset] [] := by first | (simp [entryFrame, mkF, argsToLocals, Value.category]; done) | rfl
def QIv32 (Z : State) (a : Addr) (cs : Int32) (aC : Addr) (kC : ClassId) (c0 c1 c2 : Int32) (h0 : Heap) (n0 : Nat) (v : Option Value) (h : Heap) (L : List Loc) : Prop := v = none ∧ Fr n0 L ∧ Keep h0 h [a]
set_option maxRecDepth 65536 in
set_option maxHeartbeats 40000000 in
theorem rmIv32 (l : Launch) (Z : State) (a0 : Array Value) (hw : ∀ d ∈ tables_1, d.before a0 Z = true) (ws : List Jvm.Cond) (a : Addr) (cs : Int32) (aC : Addr) (kC : ClassId) (c0 c1 c2 : Int32) (h0 : Heap) (n0 : Nat) (Z0 : n0 ≤ h0.size) (Scs : Sta Z h0 "java/lang/String" "COMPACT_STRINGS" "Z" (.int cs)) (hcs : ¬ cs = (0 : Int32)) (Sd : Sta Z h0 "java/lang/StringUTF16" "$assertionsDisabled" "Z" (.int (1 : Int32))) (Sh : Sta Z h0 "java/lang/StringUTF16" "HI_BYTE_SHIFT" "I" (.int (0 : Int32))) (Sl : Sta Z h0 "java/lang/StringUTF16" "LO_BYTE_SHIFT" "I" (.int (8 : Int32))) (Ea : Exa Z h0 a "java/lang/String") (ga : n0 ≤ a) (Fv : Fld Z h0 a "java/lang/String" "value" "[B" .null) (Fc : Fld Z h0 a "java/lang/String" "coder" "B" (.int (0 : Int32))) (VC : Arv Z h0 aC kC .char (3 : Int32) [(.int c0), (.int c1), (.int c2)] (.int (0 : Int32))) (naC : a ≠ aC) (hc0 : ¬ (255 : Int32) < c0) (hc1 : ¬ (255 : Int32) < c1) (hc2 : (255 : Int32) < c2) (hr2 : 0 ≤ c2.toInt ∧ c2.toInt < 65536) :
    MetFree l mN8 (head1 (Jvm.Cond.code mN8 jdk_42_method_149_code 6 none :: ws) ({ frames := 4, cells := 2, slots := 9, locals := 57 } : Room)) (fun aa U => aa = #[(.ref a), (.ref aC), (.int (0 : Int32)), (.int (3 : Int32)), .null] ∧ Z.Warmed39 U.vm ∧ U.heap = h0) (fun _ _ _ _ _ => True) (fun _ u1_ o_ u2_ => ∃ v_ l_, o_ = .returned v_ ∧ QIv32 Z a cs aC kC c0 c1 c2 h0 n0 v_ u2_.heap l_ ∧ FrameEnd u1_ o_ u2_ l_ ({ frames := 4, cells := 2, slots := 9, locals := 57 } : Room).cells ({ frames := 4, cells := 2, slots := 9, locals := 57 } : Room).slots) := by
  refine MetFree.of_bodySF (plainFor_of_name pn_java_lang_String) hisR ?_
  intro p e s m args below meth c s₁ Bd hml0 hP hK
  obtain ⟨rfl, hZ, hh⟩ := hP
  have hx := Bd.exec
  have hby := Bd.bytes
  have hlk := BodyLoose.notSynchronized Bd
  have hret := Bd.returns
  have hml : c.maxLocals = 6 := hml0
  have hown : s.vm.findClass "java/lang/String" = some m.cls := findClass_of_methodNamed Bd.named
  have hnm := (name_of_methodNamed Bd.named Bd.method).1
  have X0 : Stand p l e ({ frames := 4, cells := 2, slots := 9, locals := 57 } : Room) s m #[(.ref a), (.ref aC), (.int (0 : Int32)), (.int (3 : Int32)), .null] below meth c s₁ [] 0 0 := Stand.of_body Bd
  have e0 : s₁.heap = h0 := by rw [← hh, Bd.state]; rfl
  have N0 := Fr.nil n0
  refine Goes.st (E := (EN s (QIv32 Z a cs aC kC c0 c1 c2 h0 n0) ({ frames := 4, cells := 2, slots := 9, locals := 57 } : Room).cells ({ frames := 4, cells := 2, slots := 9, locals := 57 } : Room).slots)) (fun tg kg => castTop (ef_Iv32 m a aC (0 : Int32) (3 : Int32)) kg) ?_
  have K0 : Keep h0 h0 [a] := Keep.refl _ _
  show Gs p e below _ s₁ m 0 #[rv a, rv aC, iv (0 : Int32), iv (3 : Int32), .val .null, .unset] []
  refine galoadN X0 hx (hb hby dj42_149_0) rfl rfl ?_
  obtain ⟨T1, X1, e1, st1⟩ := initO X0 hx hZ hown (hwk hw 15 rfl) (hwk hw 16 rfl) (hwk hw 17 rfl) e0 (g := (mkF m 1 #[rv a, rv aC, iv (0 : Int32), iv (3 : Int32), .val .null, .unset] [(.ref a)])) rfl (by rw [hml]; rfl) rfl (hb hby dj42_149_1) (by decide) (W := 0) (by show 2 * 0 + _ ≤ _; exact Nat.le_of_eq rfl) (by decide)
  refine Goes.st st1 ?_
  show Gs p e below _ T1 m 4 #[rv a, rv aC, iv (0 : Int32), iv (3 : Int32), .val .null, .unset] []
  refine giloadN X1 hx (hb hby dj42_149_4) rfl ?_
  show Gs p e below _ T1 m 5 #[rv a, rv aC, iv (0 : Int32), iv (3 : Int32), .val .null, .unset] [(.int (3 : Int32))]
  refine gifYes X1 hx (pc' := 27) (hb hby dj42_149_5) (by decide) (by decide) (by decide) ?_
  show Gs p e below _ T1 m 27 #[rv a, rv aC, iv (0 : Int32), iv (3 : Int32), .val .null, .unset] []
  obtain ⟨T2, X2, e2, st2⟩ := getS X1 hx hZ hown (host := "") (hwk hw 18 rfl) Via.refl e1 Scs (g := (mkF m 27 #[rv a, rv aC, iv (0 : Int32), iv (3 : Int32), .val .null, .unset] [])) rfl (hb hby dj42_149_27)
  refine Goes.st st2 ?_
  show Gs p e below _ T2 m 30 #[rv a, rv aC, iv (0 : Int32), iv (3 : Int32), .val .null, .unset] [(.int cs)]
  refine gifNo X2 hx (hb hby dj42_149_30) ((if0 _ _).trans (feq hcs).1) ?_
  show Gs p e below _ T2 m 33 #[rv a, rv aC, iv (0 : Int32), iv (3 : Int32), .val .null, .unset] []
  refine galoadN X2 hx (hb hby dj42_149_33) rfl rfl ?_
  refine giloadN X2 hx (hb hby dj42_149_34) rfl ?_
  refine giloadN X2 hx (hb hby dj42_149_35) rfl ?_
  have lt3 : a < h0.size := Ea.lt
  have lt4 : aC < h0.size := VC.lt
  obtain ⟨_, _, ⟨T5, L5, k5, n5⟩, -, X5, ⟨Lc5, hQ5, l5, y5, z5⟩, st5⟩ := Jvm.LawKit.callS X2 hx (y := mN6) hown (mvT hZ (hwk hw 19 rfl)) (mvT hZ (hwk hw 20 rfl)) (mvT hZ (hwk hw 21 rfl)) (mvT hZ (hwk hw 22 rfl)) (by decide) (backOf (W := 0) (rmCx32 l Z a0 hw [] aC kC c0 c1 c2 h0 n0 Z0 Sd Sh Sl VC hc0 hc1 hc2 hr2) hZ (hwk hw 22 rfl) (hwk hw 21 rfl) (by decide) (by decide)) (g := (mkF m 36 #[rv a, rv aC, iv (0 : Int32), iv (3 : Int32), .val .null, .unset] [(.int (3 : Int32)), (.int (0 : Int32)), (.ref aC)])) rfl (by rw [hml]; rfl) (argsL := [(.ref aC), (.int (0 : Int32)), (.int (3 : Int32))]) (rest := []) (lenOf pd___CII__B_166f rfl) rfl (by show 2 * 0 + _ ≤ _; exact Nat.le_of_eq rfl) (hb hby dj42_149_36) (fun _ _ => ⟨rfl, e2, (by decide : 0 + 2 ≤ 2), (by decide : 0 + 9 ≤ 9)⟩)
  dsimp only [Pt.U, Pt.locs, Pt.cells, Pt.slots] at X5 l5 y5 z5 st5 hQ5
  subst l5 y5 z5
  obtain ⟨b5, kB5, vs5, rfl, N5q, K5, szq5, loq5, V5⟩ := hQ5
  have KK6 := K0.trans K5 all0
  have ne_a_b5 : a ≠ b5 := Nat.ne_of_lt (Nat.lt_of_lt_of_le lt3 szq5)
  have ne_aC_b5 : aC ≠ b5 := Nat.ne_of_lt (Nat.lt_of_lt_of_le lt4 szq5)
  have sz_b5 : h0.size ≤ b5 := by have := KK6.1; have := szq5; omega
  have Z5 : n0 ≤ T5.heap.size := Nat.le_trans Z0 K5.1
  have N5 := Fr.app N0 N5q
  refine Goes.st st5 ?_
  show Gs p e below _ T5 m 39 #[rv a, rv aC, iv (0 : Int32), iv (3 : Int32), .val .null, .unset] [(.ref b5)]
  refine gastore X5 hx (hb hby dj42_149_39) trivial rfl (l' := #[rv a, rv aC, iv (0 : Int32), iv (3 : Int32), .val .null, rv b5]) rfl ?_
  refine galoadN X5 hx (hb hby dj42_149_41) rfl rfl ?_
  refine gaload X5 hx (hb hby dj42_149_42) rfl rfl ?_
  refine giloadN X5 hx (hb hby dj42_149_44) rfl ?_
  obtain ⟨_, _, ⟨T7, L7, k7, n7⟩, -, X7, ⟨Lc7, hQ7, l7, y7, z7⟩, st7⟩ := Jvm.LawKit.callS X5 hx (y := mN7) hown (mvT hZ (hwk hw 27 rfl)) (mvT hZ (hwk hw 28 rfl)) (mvT hZ (hwk hw 21 rfl)) (mvT hZ (hwk hw 29 rfl)) (by decide) (backOf (W := 1) (rmCl36 l Z a0 hw [] b5 kB5 vs5 T5.heap n0 Z5 V5) hZ (hwk hw 29 rfl) (hwk hw 21 rfl) (by decide) (by decide)) (g := (mkF m 45 #[rv a, rv aC, iv (0 : Int32), iv (3 : Int32), .val .null, rv b5] [(.int (3 : Int32)), (.ref b5), (.ref a)])) rfl (by rw [hml]; rfl) (argsL := [(.ref b5), (.int (3 : Int32))]) (rest := [(.ref a)]) (lenOf pd___BI_B_df7 rfl) rfl (by show 2 * 0 + _ ≤ _; exact Nat.le_of_eq rfl) (hb hby dj42_149_45) (fun _ _ => ⟨rfl, rfl, (by decide : 2 + 0 ≤ 2), (by decide : 9 + 0 ≤ 9)⟩)
  dsimp only [Pt.U, Pt.locs, Pt.cells, Pt.slots] at X7 l7 y7 z7 st7 hQ7
  subst l7 y7 z7
  obtain ⟨rfl, N7q, eh7⟩ := hQ7
  have N7 := Fr.app N5 N7q
  refine Goes.st st7 ?_
  show Gs p e below _ T7 m 48 #[rv a, rv aC, iv (0 : Int32), iv (3 : Int32), .val .null, rv b5] [(.int (1 : Int32)), (.ref a)]
  have f9 := (Fc.keep K5 nin0)
  have f10 := (Ea.keep K5)
  obtain ⟨T8, h8, X8, e8, W8, st8⟩ := putFN X7 hx hZ hown (hwk hw 30 rfl) Via.refl eh7 f9 f10 (Or.inr ⟨(hwk hw 31 rfl), rfl, hnm⟩) (hwk hw 5 rfl) (ty := .byte) (v' := (.int (1 : Int32))) (by decide) rfl (by decide) (g := (mkF m 48 #[rv a, rv aC, iv (0 : Int32), iv (3 : Int32), .val .null, rv b5] [(.int (1 : Int32)), (.ref a)])) rfl rfl (hb hby dj42_149_48)
  have N8 := Fr.snoc X8 N7 ga
  have G8 := f9.same W8
  refine Goes.st st8 ?_
  have KK11 := KK6.wr W8 (Or.inl (List.mem_of_getElem? (i := 0) rfl))
  have Z8 : n0 ≤ h8.size := by have := W8.size; have := Z5; omega
  show Gs p e below _ T8 m 51 #[rv a, rv aC, iv (0 : Int32), iv (3 : Int32), .val .null, rv b5] []
  refine galoadN X8 hx (hb hby dj42_149_51) rfl rfl ?_
  refine gaload X8 hx (hb hby dj42_149_52) rfl rfl ?_
  have f13 := ((Fv.keep K5 nin0).other W8 (Or.inr (slot_ne (Or.inr (hwk hw 33 rfl)) (Or.inr (hwk hw 31 rfl)) (by decide) (t := (.array .byte)) (t' := .byte) (by decide) (by decide))))
  have f14 := (f10.wr W8)
  obtain ⟨T12, h12, X12, e12, W12, st12⟩ := putF X8 hx hZ hown (host := "") (Or.inl (hwk hw 32 rfl)) Via.refl e8 f13 f14 (Or.inr ⟨(hwk hw 33 rfl), rfl, hnm⟩) (hwk hw 5 rfl) (ty := (.array .byte)) (by decide) rfl rfl (g := (mkF m 54 #[rv a, rv aC, iv (0 : Int32), iv (3 : Int32), .val .null, rv b5] [(.ref b5), (.ref a)])) rfl rfl (hb hby dj42_149_54)
  have N12 := Fr.snoc X12 N8 ga
  have G12 := f13.same W12
  refine Goes.st st12 ?_
  have KK15 := KK11.wr W12 (Or.inl (List.mem_of_getElem? (i := 0) rfl))
  have Z12 : n0 ≤ h12.size := by have := W12.size; have := Z8; omega
  show Gs p e below _ T12 m 57 #[rv a, rv aC, iv (0 : Int32), iv (3 : Int32), .val .null, rv b5] []
  refine Goes.retV X12 hx hret (hb hby dj42_149_57) (lvN X12 hlk (fun _ => rfl) ?_ (by decide) (by decide))
  rw [e12]
  exact ⟨rfl, N12, KK15⟩
theorem ef_Ic32 (m : MethodId) (x0 : Addr) (x1 : Addr) : entryFrame m #[(.ref x0), (.ref x1)] 2 = mkF m 0 #[rv x0, rv x1] [] := by first | (simp [entryFrame, mkF, argsToLocals, Value.category]; done) | rfl
def QIc32 (Z : State) (a : Addr) (cs : Int32) (aC : Addr) (kC : ClassId) (c0 c1 c2 : Int32) (h0 : Heap) (n0 : Nat) (v : Option Value) (h : Heap) (L : List Loc) : Prop := v = none ∧ Fr n0 L ∧ Keep h0 h [a]
set_option maxRecDepth 65536 in
set_option maxHeartbeats 40000000 in
theorem rmIc32 (l : Launch) (Z : State) (a0 : Array Value) (hw : ∀ d ∈ tables_1, d.before a0 Z = true) (ws : List Jvm.Cond) (a : Addr) (cs : Int32) (aC : Addr) (kC : ClassId) (c0 c1 c2 : Int32) (h0 : Heap) (n0 : Nat) (Z0 : n0 ≤ h0.size) (Scs : Sta Z h0 "java/lang/String" "COMPACT_STRINGS" "Z" (.int cs)) (hcs : ¬ cs = (0 : Int32)) (Sd : Sta Z h0 "java/lang/StringUTF16" "$assertionsDisabled" "Z" (.int (1 : Int32))) (Sh : Sta Z h0 "java/lang/StringUTF16" "HI_BYTE_SHIFT" "I" (.int (0 : Int32))) (Sl : Sta Z h0 "java/lang/StringUTF16" "LO_BYTE_SHIFT" "I" (.int (8 : Int32))) (Ea : Exa Z h0 a "java/lang/String") (ga : n0 ≤ a) (Fv : Fld Z h0 a "java/lang/String" "value" "[B" .null) (Fc : Fld Z h0 a "java/lang/String" "coder" "B" (.int (0 : Int32))) (VC : Arv Z h0 aC kC .char (3 : Int32) [(.int c0), (.int c1), (.int c2)] (.int (0 : Int32))) (naC : a ≠ aC) (hc0 : ¬ (255 : Int32) < c0) (hc1 : ¬ (255 : Int32) < c1) (hc2 : (255 : Int32) < c2) (hr2 : 0 ≤ c2.toInt ∧ c2.toInt < 65536) :
    MetFree l mN9 (head1 (Jvm.Cond.code mN9 jdk_42_method_3_code 2 none :: ws) ({ frames := 5, cells := 2, slots := 9, locals := 74 } : Room)) (fun aa U => aa = #[(.ref a), (.ref aC)] ∧ Z.Warmed39 U.vm ∧ U.heap = h0) (fun _ _ _ _ _ => True) (fun _ u1_ o_ u2_ => ∃ v_ l_, o_ = .returned v_ ∧ QIc32 Z a cs aC kC c0 c1 c2 h0 n0 v_ u2_.heap l_ ∧ FrameEnd u1_ o_ u2_ l_ ({ frames := 5, cells := 2, slots := 9, locals := 74 } : Room).cells ({ frames := 5, cells := 2, slots := 9, locals := 74 } : Room).slots) := by
  refine MetFree.of_bodySF (plainFor_of_name pn_java_lang_String) hisR ?_
  intro p e s m args below meth c s₁ Bd hml0 hP hK
  obtain ⟨rfl, hZ, hh⟩ := hP
  have hx := Bd.exec
  have hby := Bd.bytes
  have hlk := BodyLoose.notSynchronized Bd
  have hret := Bd.returns
  have hml : c.maxLocals = 2 := hml0
  have hown : s.vm.findClass "java/lang/String" = some m.cls := findClass_of_methodNamed Bd.named
  have hnm := (name_of_methodNamed Bd.named Bd.method).1
  have X0 : Stand p l e ({ frames := 5, cells := 2, slots := 9, locals := 74 } : Room) s m #[(.ref a), (.ref aC)] below meth c s₁ [] 0 0 := Stand.of_body Bd
  have e0 : s₁.heap = h0 := by rw [← hh, Bd.state]; rfl
  have N0 := Fr.nil n0
  refine Goes.st (E := (EN s (QIc32 Z a cs aC kC c0 c1 c2 h0 n0) ({ frames := 5, cells := 2, slots := 9, locals := 74 } : Room).cells ({ frames := 5, cells := 2, slots := 9, locals := 74 } : Room).slots)) (fun tg kg => castTop (ef_Ic32 m a aC) kg) ?_
  have K0 : Keep h0 h0 [a] := Keep.refl _ _
  show Gs p e below _ s₁ m 0 #[rv a, rv aC] []
  refine galoadN X0 hx (hb hby dj42_3_0) rfl rfl ?_
  refine galoadN X0 hx (hb hby dj42_3_1) rfl rfl ?_
  refine giconst X0 hx (hb hby dj42_3_2) ?_
  refine galoadN X0 hx (hb hby dj42_3_3) rfl rfl ?_
  show Gs p e below _ s₁ m 4 #[rv a, rv aC] [(.ref aC), (.int (0 : Int32)), (.ref aC), (.ref a)]
  obtain ⟨cl1, Ar1, qk1, Sz1, qz1, Ha1, Gf1⟩ := id VC
  refine Goes.st (fun tg kg => X0.arraylength hx (cell := cl1) (by rw [e0]; exact Ar1.1) (State.isArrayOf_alike hZ.alike Ar1.2.1) (g := (mkF m 4 #[rv a, rv aC] [(.ref aC), (.int (0 : Int32)), (.ref aC), (.ref a)])) rfl (rest := [(.int (0 : Int32)), (.ref aC), (.ref a)]) rfl (hb hby dj42_3_4) tg kg) ?_
  rw [len_of Sz1 qz1]
  show Gs p e below _ s₁ m 5 #[rv a, rv aC] [(.int (3 : Int32)), (.int (0 : Int32)), (.ref aC), (.ref a)]
  refine Goes.st (fun tg kg => XS.aconstNull X0.here hx rfl (hb hby dj42_3_5) kg) ?_
  obtain ⟨_, _, ⟨T2, L2, k2, n2⟩, -, X2, ⟨Lc2, hQ2, l2, y2, z2⟩, st2⟩ := X0.specialBack hx (y := mN8) rfl hown (mvT hZ (hwk hw 11 rfl)) (mvT hZ (hwk hw 12 rfl)) (mvT hZ (hwk hw 14 rfl)) (by decide) (backOf (W := 0) (rmIv32 l Z a0 hw [] a cs aC kC c0 c1 c2 h0 n0 Z0 Scs hcs Sd Sh Sl Ea ga Fv Fc VC naC hc0 hc1 hc2 hr2) hZ (hwk hw 14 rfl) (hwk hw 6 rfl) (by decide) (by decide)) (g := (mkF m 6 #[rv a, rv aC] [.null, (.int (3 : Int32)), (.int (0 : Int32)), (.ref aC), (.ref a)])) rfl (by rw [hml]; rfl) (Steps.refl _) (a := a) (argsL := [(.ref aC), (.int (0 : Int32)), (.int (3 : Int32)), .null]) (rest := []) (lenOf pd___CIILjava_lang_Void__V_897f rfl) rfl (by show 2 * 0 + _ ≤ _; exact Nat.le_of_eq rfl) (hb hby dj42_3_6) (fun _ _ => ⟨rfl, e0, (by decide : 0 + 2 ≤ 2), (by decide : 0 + 9 ≤ 9)⟩)
  dsimp only [Pt.U, Pt.locs, Pt.cells, Pt.slots] at X2 l2 y2 z2 st2 hQ2
  subst l2 y2 z2
  obtain ⟨rfl, N2q, K2⟩ := hQ2
  have KK3 := K0.trans K2 (allS (Or.inl (List.mem_of_getElem? (i := 0) rfl)) all0)
  have Z2 : n0 ≤ T2.heap.size := Nat.le_trans Z0 K2.1
  have N2 := Fr.app N0 N2q
  refine Goes.sts st2 ?_
  show Gs p e below _ T2 m 9 #[rv a, rv aC] []
  refine Goes.retV X2 hx hret (hb hby dj42_3_9) (lvN X2 hlk (fun _ => rfl) ?_ (by decide) (by decide))
  exact ⟨rfl, N2, KK3⟩
theorem ef_Cm33 (m : MethodId) (x0 : Addr) (x1 : Int32) (x2 : Addr) (x3 : Int32) (x4 : Int32) : entryFrame m #[(.ref x0), (.int x1), (.ref x2), (.int x3), (.int x4)] 7 = mkF m 0 #[rv x0, iv x1, rv x2, iv x3, iv x4, .unset, .unset] [] := by first | (simp [entryFrame, mkF, argsToLocals, Value.category]; done) | rfl
def QCm33 (Z : State) (aC : Addr) (kC : ClassId) (c0 c1 c2 : Int32) (aB : Addr) (kB : ClassId) (h0 : Heap) (n0 : Nat) (v : Option Value) (h : Heap) (L : List Loc) : Prop := ∃ (vs : List Value), v = some (.int (3 : Int32)) ∧ Fr n0 L ∧ Keep h0 h [aB] ∧ Arv Z h aB kB .byte (3 : Int32) vs (.int (0 : Int32))
set_option maxRecDepth 65536 in
set_option maxHeartbeats 40000000 in
theorem rmCm33 (l : Launch) (Z : State) (a0 : Array Value) (hw : ∀ d ∈ tables_1, d.before a0 Z = true) (ws : List Jvm.Cond) (aC : Addr) (kC : ClassId) (c0 c1 c2 : Int32) (aB : Addr) (kB : ClassId) (h0 : Heap) (n0 : Nat) (Z0 : n0 ≤ h0.size) (VC : Arv Z h0 aC kC .char (3 : Int32) [(.int c0), (.int c1), (.int c2)] (.int (0 : Int32))) (VB : Arv Z h0 aB kB .byte (3 : Int32) [(.int (0 : Int32)), (.int (0 : Int32)), (.int (0 : Int32))] (.int (0 : Int32))) (lB : n0 ≤ aB) (nCB : aC ≠ aB) (hc0 : ¬ (255 : Int32) < c0) (hc1 : ¬ (255 : Int32) < c1) (hc2 : ¬ (255 : Int32) < c2) :
    MetFree l mN5 (head1 (Jvm.Cond.code mN5 jdk_52_method_21_code 7 (some .int) :: ws) ({ frames := 0, cells := 0, slots := 0, locals := 0 } : Room)) (fun aa U => aa = #[(.ref aC), (.int (0 : Int32)), (.ref aB), (.int (0 : Int32)), (.int (3 : Int32))] ∧ Z.Warmed39 U.vm ∧ U.heap = h0) (fun _ _ _ _ _ => True) (fun _ u1_ o_ u2_ => ∃ v_ l_, o_ = .returned v_ ∧ QCm33 Z aC kC c0 c1 c2 aB kB h0 n0 v_ u2_.heap l_ ∧ FrameEnd u1_ o_ u2_ l_ ({ frames := 0, cells := 0, slots := 0, locals := 0 } : Room).cells ({ frames := 0, cells := 0, slots := 0, locals := 0 } : Room).slots) := by
  refine MetFree.of_bodySF (plainFor_of_name pn_java_lang_StringUTF16) hisR ?_
  intro p e s m args below meth c s₁ Bd hml0 hP hK
  obtain ⟨rfl, hZ, hh⟩ := hP
  have hx := Bd.exec
  have hby := Bd.bytes
  have hlk := BodyLoose.notSynchronized Bd
  have hret := Bd.returns
  have hml : c.maxLocals = 7 := hml0
  have hown : s.vm.findClass "java/lang/StringUTF16" = some m.cls := findClass_of_methodNamed Bd.named
  have hnm := (name_of_methodNamed Bd.named Bd.method).1
  have X0 : Stand p l e ({ frames := 0, cells := 0, slots := 0, locals := 0 } : Room) s m #[(.ref aC), (.int (0 : Int32)), (.ref aB), (.int (0 : Int32)), (.int (3 : Int32))] below meth c s₁ [] 0 0 := Stand.of_body Bd
  have e0 : s₁.heap = h0 := by rw [← hh, Bd.state]; rfl
  have N0 := Fr.nil n0
  refine Goes.st (E := (EN s (QCm33 Z aC kC c0 c1 c2 aB kB h0 n0) ({ frames := 0, cells := 0, slots := 0, locals := 0 } : Room).cells ({ frames := 0, cells := 0, slots := 0, locals := 0 } : Room).slots)) (fun tg kg => castTop (ef_Cm33 m aC (0 : Int32) aB (0 : Int32) (3 : Int32)) kg) ?_
  have K0 : Keep h0 h0 [aB] := Keep.refl _ _
  show Gs p e below _ s₁ m 0 #[rv aC, iv (0 : Int32), rv aB, iv (0 : Int32), iv (3 : Int32), .unset, .unset] []
  refine giconst X0 hx (hb hby dj52_21_0) ?_
  refine gistore X0 hx (hb hby dj52_21_1) trivial (l' := #[rv aC, iv (0 : Int32), rv aB, iv (0 : Int32), iv (3 : Int32), iv (0 : Int32), .unset]) rfl ?_
  refine giload X0 hx (hb hby dj52_21_3) rfl ?_
  refine giload X0 hx (hb hby dj52_21_5) rfl ?_
  show Gs p e below _ s₁ m 7 #[rv aC, iv (0 : Int32), rv aB, iv (0 : Int32), iv (3 : Int32), iv (0 : Int32), .unset] [(.int (3 : Int32)), (.int (0 : Int32))]
  refine gicmpNo X0 hx (hb hby dj52_21_7) (by decide) ?_
  show Gs p e below _ s₁ m 10 #[rv aC, iv (0 : Int32), rv aB, iv (0 : Int32), iv (3 : Int32), iv (0 : Int32), .unset] []
  refine galoadN X0 hx (hb hby dj52_21_10) rfl rfl ?_
  refine giloadN X0 hx (hb hby dj52_21_11) rfl ?_
  show Gs p e below _ s₁ m 12 #[rv aC, iv (0 : Int32), rv aB, iv (0 : Int32), iv (3 : Int32), iv (0 : Int32), .unset] [(.int (0 : Int32)), (.ref aC)]
  obtain ⟨cl1, Ar1, qk1, Sz1, qz1, Ha1, Gf1⟩ := id VC
  have in1 := inb_of (j := (0 : Int32)) Sz1 ⟨by decide, by decide⟩
  refine Goes.st (fun tg kg => X0.caload hx (j := (0 : Int32)) (v := (.int c0)) (by rw [e0]; exact Ar1.1) (State.isArrayOf_alike hZ.alike Ar1.2.1) Ar1.2.2 in1 (Ha1.at in1 rfl) (g := (mkF m 12 #[rv aC, iv (0 : Int32), rv aB, iv (0 : Int32), iv (3 : Int32), iv (0 : Int32), .unset] [(.int (0 : Int32)), (.ref aC)])) rfl rfl (hb hby dj52_21_12) tg kg) ?_
  show Gs p e below _ s₁ m 13 #[rv aC, iv (0 : Int32), rv aB, iv (0 : Int32), iv (3 : Int32), iv (0 : Int32), .unset] [(.int c0)]
  refine gistore X0 hx (hb hby dj52_21_13) trivial (l' := #[rv aC, iv (0 : Int32), rv aB, iv (0 : Int32), iv (3 : Int32), iv (0 : Int32), iv c0]) rfl ?_
  refine giload X0 hx (hb hby dj52_21_15) rfl ?_
  refine Goes.st (fun tg kg => XS.sipush X0.here hx rfl (hb hby dj52_21_17) kg) ?_
  show Gs p e below _ s₁ m 20 #[rv aC, iv (0 : Int32), rv aB, iv (0 : Int32), iv (3 : Int32), iv (0 : Int32), iv c0] [(.int (255 : Int32)), (.int c0)]
  refine gicmpYes X0 hx (pc' := 26) (hb hby dj52_21_20) (flt hc0).2.2.2 (by decide) (by decide) ?_
  show Gs p e below _ s₁ m 26 #[rv aC, iv (0 : Int32), rv aB, iv (0 : Int32), iv (3 : Int32), iv (0 : Int32), iv c0] []
  refine galoadN X0 hx (hb hby dj52_21_26) rfl rfl ?_
  refine giloadN X0 hx (hb hby dj52_21_27) rfl ?_
  refine giload X0 hx (hb hby dj52_21_28) rfl ?_
  show Gs p e below _ s₁ m 30 #[rv aC, iv (0 : Int32), rv aB, iv (0 : Int32), iv (3 : Int32), iv (0 : Int32), iv c0] [(.int c0), (.int (0 : Int32)), (.ref aB)]
  refine Goes.st (fun tg kg => XT.i2b X0.here hx rfl (hb hby dj52_21_30) rfl kg) ?_
  show Gs p e below _ s₁ m 31 #[rv aC, iv (0 : Int32), rv aB, iv (0 : Int32), iv (3 : Int32), iv (0 : Int32), iv c0] [(.int (c0).toInt8.toInt32), (.int (0 : Int32)), (.ref aB)]
  obtain ⟨cl2, Ar2, qk2, Sz2, qz2, Ha2, Gf2⟩ := id VB
  obtain ⟨T2, h2, X2, e2, W2, st2⟩ := stB X0 hx hZ e0 Ar2 (inb_of Sz2 ⟨by decide, by decide⟩) (g := (mkF m 31 #[rv aC, iv (0 : Int32), rv aB, iv (0 : Int32), iv (3 : Int32), iv (0 : Int32), iv c0] [(.int (c0).toInt8.toInt32), (.int (0 : Int32)), (.ref aB)])) rfl rfl (hb hby dj52_21_31)
  have N2 := Fr.snoc X2 N0 lB
  have V2 : Arv Z h2 aB kB .byte (3 : Int32) [(.int (nar .byte (c0).toInt8.toInt32)), (.int (0 : Int32)), (.int (0 : Int32))] (.int (0 : Int32)) := Arv.set Ar2 qk2 Sz2 qz2 Ha2 Gf2 (fits_nar_byte _) W2 0 (by decide) (by simp)
  refine Goes.st st2 ?_
  have KK3 := K0.wr W2 (Or.inl (List.mem_of_getElem? (i := 0) rfl))
  have Z2 : n0 ≤ h2.size := by have := W2.size; have := Z0; omega
  show Gs p e below _ T2 m 32 #[rv aC, iv (0 : Int32), rv aB, iv (0 : Int32), iv (3 : Int32), iv (0 : Int32), iv c0] []
  refine Goes.st (fun tg kg => XS.iinc X2.here hx rfl (hb hby dj52_21_32) rfl (l' := #[rv aC, iv (1 : Int32), rv aB, iv (0 : Int32), iv (3 : Int32), iv (0 : Int32), iv c0]) rfl kg) ?_
  refine Goes.st (fun tg kg => XS.iinc X2.here hx rfl (hb hby dj52_21_35) rfl (l' := #[rv aC, iv (1 : Int32), rv aB, iv (1 : Int32), iv (3 : Int32), iv (0 : Int32), iv c0]) rfl kg) ?_
  refine Goes.st (fun tg kg => XS.iinc X2.here hx rfl (hb hby dj52_21_38) rfl (l' := #[rv aC, iv (1 : Int32), rv aB, iv (1 : Int32), iv (3 : Int32), iv (1 : Int32), iv c0]) rfl kg) ?_
  show Gs p e below _ T2 m 41 #[rv aC, iv (1 : Int32), rv aB, iv (1 : Int32), iv (3 : Int32), iv (1 : Int32), iv c0] []
  refine ggoto X2 hx (pc' := 3) (hb hby dj52_21_41) (by decide) (by decide) ?_
  show Gs p e below _ T2 m 3 #[rv aC, iv (1 : Int32), rv aB, iv (1 : Int32), iv (3 : Int32), iv (1 : Int32), iv c0] []
  refine giload X2 hx (hb hby dj52_21_3) rfl ?_
  refine giload X2 hx (hb hby dj52_21_5) rfl ?_
  show Gs p e below _ T2 m 7 #[rv aC, iv (1 : Int32), rv aB, iv (1 : Int32), iv (3 : Int32), iv (1 : Int32), iv c0] [(.int (3 : Int32)), (.int (1 : Int32))]
  refine gicmpNo X2 hx (hb hby dj52_21_7) (by decide) ?_
  show Gs p e below _ T2 m 10 #[rv aC, iv (1 : Int32), rv aB, iv (1 : Int32), iv (3 : Int32), iv (1 : Int32), iv c0] []
  refine galoadN X2 hx (hb hby dj52_21_10) rfl rfl ?_
  refine giloadN X2 hx (hb hby dj52_21_11) rfl ?_
  show Gs p e below _ T2 m 12 #[rv aC, iv (1 : Int32), rv aB, iv (1 : Int32), iv (3 : Int32), iv (1 : Int32), iv c0] [(.int (1 : Int32)), (.ref aC)]
  have f4 := (VC.other W2 nCB)
  obtain ⟨cl5, Ar5, qk5, Sz5, qz5, Ha5, Gf5⟩ := id f4
  have in5 := inb_of (j := (1 : Int32)) Sz5 ⟨by decide, by decide⟩
  refine Goes.st (fun tg kg => X2.caload hx (j := (1 : Int32)) (v := (.int c1)) (by rw [e2]; exact Ar5.1) (State.isArrayOf_alike hZ.alike Ar5.2.1) Ar5.2.2 in5 (Ha5.at in5 rfl) (g := (mkF m 12 #[rv aC, iv (1 : Int32), rv aB, iv (1 : Int32), iv (3 : Int32), iv (1 : Int32), iv c0] [(.int (1 : Int32)), (.ref aC)])) rfl rfl (hb hby dj52_21_12) tg kg) ?_
  show Gs p e below _ T2 m 13 #[rv aC, iv (1 : Int32), rv aB, iv (1 : Int32), iv (3 : Int32), iv (1 : Int32), iv c0] [(.int c1)]
  refine gistore X2 hx (hb hby dj52_21_13) trivial (l' := #[rv aC, iv (1 : Int32), rv aB, iv (1 : Int32), iv (3 : Int32), iv (1 : Int32), iv c1]) rfl ?_
  refine giload X2 hx (hb hby dj52_21_15) rfl ?_
  refine Goes.st (fun tg kg => XS.sipush X2.here hx rfl (hb hby dj52_21_17) kg) ?_
  show Gs p e below _ T2 m 20 #[rv aC, iv (1 : Int32), rv aB, iv (1 : Int32), iv (3 : Int32), iv (1 : Int32), iv c1] [(.int (255 : Int32)), (.int c1)]
  refine gicmpYes X2 hx (pc' := 26) (hb hby dj52_21_20) (flt hc1).2.2.2 (by decide) (by decide) ?_
  show Gs p e below _ T2 m 26 #[rv aC, iv (1 : Int32), rv aB, iv (1 : Int32), iv (3 : Int32), iv (1 : Int32), iv c1] []
  refine galoadN X2 hx (hb hby dj52_21_26) rfl rfl ?_
  refine giloadN X2 hx (hb hby dj52_21_27) rfl ?_
  refine giload X2 hx (hb hby dj52_21_28) rfl ?_
  show Gs p e below _ T2 m 30 #[rv aC, iv (1 : Int32), rv aB, iv (1 : Int32), iv (3 : Int32), iv (1 : Int32), iv c1] [(.int c1), (.int (1 : Int32)), (.ref aB)]
  refine Goes.st (fun tg kg => XT.i2b X2.here hx rfl (hb hby dj52_21_30) rfl kg) ?_
  show Gs p e below _ T2 m 31 #[rv aC, iv (1 : Int32), rv aB, iv (1 : Int32), iv (3 : Int32), iv (1 : Int32), iv c1] [(.int (c1).toInt8.toInt32), (.int (1 : Int32)), (.ref aB)]
  obtain ⟨cl6, Ar6, qk6, Sz6, qz6, Ha6, Gf6⟩ := id V2
  obtain ⟨T6, h6, X6, e6, W6, st6⟩ := stB X2 hx hZ e2 Ar6 (inb_of Sz6 ⟨by decide, by decide⟩) (g := (mkF m 31 #[rv aC, iv (1 : Int32), rv aB, iv (1 : Int32), iv (3 : Int32), iv (1 : Int32), iv c1] [(.int (c1).toInt8.toInt32), (.int (1 : Int32)), (.ref aB)])) rfl rfl (hb hby dj52_21_31)
  have N6 := Fr.snoc X6 N2 lB
  have V6 : Arv Z h6 aB kB .byte (3 : Int32) [(.int (nar .byte (c0).toInt8.toInt32)), (.int (nar .byte (c1).toInt8.toInt32)), (.int (0 : Int32))] (.int (0 : Int32)) := Arv.set Ar6 qk6 Sz6 qz6 Ha6 Gf6 (fits_nar_byte _) W6 1 (by decide) (by simp)
  refine Goes.st st6 ?_
  have KK7 := KK3.wr W6 (Or.inl (List.mem_of_getElem? (i := 0) rfl))
  have Z6 : n0 ≤ h6.size := by have := W6.size; have := Z2; omega
  show Gs p e below _ T6 m 32 #[rv aC, iv (1 : Int32), rv aB, iv (1 : Int32), iv (3 : Int32), iv (1 : Int32), iv c1] []
  refine Goes.st (fun tg kg => XS.iinc X6.here hx rfl (hb hby dj52_21_32) rfl (l' := #[rv aC, iv (2 : Int32), rv aB, iv (1 : Int32), iv (3 : Int32), iv (1 : Int32), iv c1]) rfl kg) ?_
  refine Goes.st (fun tg kg => XS.iinc X6.here hx rfl (hb hby dj52_21_35) rfl (l' := #[rv aC, iv (2 : Int32), rv aB, iv (2 : Int32), iv (3 : Int32), iv (1 : Int32), iv c1]) rfl kg) ?_
  refine Goes.st (fun tg kg => XS.iinc X6.here hx rfl (hb hby dj52_21_38) rfl (l' := #[rv aC, iv (2 : Int32), rv aB, iv (2 : Int32), iv (3 : Int32), iv (2 : Int32), iv c1]) rfl kg) ?_
  show Gs p e below _ T6 m 41 #[rv aC, iv (2 : Int32), rv aB, iv (2 : Int32), iv (3 : Int32), iv (2 : Int32), iv c1] []
  refine ggoto X6 hx (pc' := 3) (hb hby dj52_21_41) (by decide) (by decide) ?_
  show Gs p e below _ T6 m 3 #[rv aC, iv (2 : Int32), rv aB, iv (2 : Int32), iv (3 : Int32), iv (2 : Int32), iv c1] []
  refine giload X6 hx (hb hby dj52_21_3) rfl ?_
  refine giload X6 hx (hb hby dj52_21_5) rfl ?_
  show Gs p e below _ T6 m 7 #[rv aC, iv (2 : Int32), rv aB, iv (2 : Int32), iv (3 : Int32), iv (2 : Int32), iv c1] [(.int (3 : Int32)), (.int (2 : Int32))]
  refine gicmpNo X6 hx (hb hby dj52_21_7) (by decide) ?_
  show Gs p e below _ T6 m 10 #[rv aC, iv (2 : Int32), rv aB, iv (2 : Int32), iv (3 : Int32), iv (2 : Int32), iv c1] []
  refine galoadN X6 hx (hb hby dj52_21_10) rfl rfl ?_
  refine giloadN X6 hx (hb hby dj52_21_11) rfl ?_
  show Gs p e below _ T6 m 12 #[rv aC, iv (2 : Int32), rv aB, iv (2 : Int32), iv (3 : Int32), iv (2 : Int32), iv c1] [(.int (2 : Int32)), (.ref aC)]
  have f8 := (f4.other W6 nCB)
  obtain ⟨cl9, Ar9, qk9, Sz9, qz9, Ha9, Gf9⟩ := id f8
  have in9 := inb_of (j := (2 : Int32)) Sz9 ⟨by decide, by decide⟩
  refine Goes.st (fun tg kg => X6.caload hx (j := (2 : Int32)) (v := (.int c2)) (by rw [e6]; exact Ar9.1) (State.isArrayOf_alike hZ.alike Ar9.2.1) Ar9.2.2 in9 (Ha9.at in9 rfl) (g := (mkF m 12 #[rv aC, iv (2 : Int32), rv aB, iv (2 : Int32), iv (3 : Int32), iv (2 : Int32), iv c1] [(.int (2 : Int32)), (.ref aC)])) rfl rfl (hb hby dj52_21_12) tg kg) ?_
  show Gs p e below _ T6 m 13 #[rv aC, iv (2 : Int32), rv aB, iv (2 : Int32), iv (3 : Int32), iv (2 : Int32), iv c1] [(.int c2)]
  refine gistore X6 hx (hb hby dj52_21_13) trivial (l' := #[rv aC, iv (2 : Int32), rv aB, iv (2 : Int32), iv (3 : Int32), iv (2 : Int32), iv c2]) rfl ?_
  refine giload X6 hx (hb hby dj52_21_15) rfl ?_
  refine Goes.st (fun tg kg => XS.sipush X6.here hx rfl (hb hby dj52_21_17) kg) ?_
  show Gs p e below _ T6 m 20 #[rv aC, iv (2 : Int32), rv aB, iv (2 : Int32), iv (3 : Int32), iv (2 : Int32), iv c2] [(.int (255 : Int32)), (.int c2)]
  refine gicmpYes X6 hx (pc' := 26) (hb hby dj52_21_20) (flt hc2).2.2.2 (by decide) (by decide) ?_
  show Gs p e below _ T6 m 26 #[rv aC, iv (2 : Int32), rv aB, iv (2 : Int32), iv (3 : Int32), iv (2 : Int32), iv c2] []
  refine galoadN X6 hx (hb hby dj52_21_26) rfl rfl ?_
  refine giloadN X6 hx (hb hby dj52_21_27) rfl ?_
  refine giload X6 hx (hb hby dj52_21_28) rfl ?_
  show Gs p e below _ T6 m 30 #[rv aC, iv (2 : Int32), rv aB, iv (2 : Int32), iv (3 : Int32), iv (2 : Int32), iv c2] [(.int c2), (.int (2 : Int32)), (.ref aB)]
  refine Goes.st (fun tg kg => XT.i2b X6.here hx rfl (hb hby dj52_21_30) rfl kg) ?_
  show Gs p e below _ T6 m 31 #[rv aC, iv (2 : Int32), rv aB, iv (2 : Int32), iv (3 : Int32), iv (2 : Int32), iv c2] [(.int (c2).toInt8.toInt32), (.int (2 : Int32)), (.ref aB)]
  obtain ⟨cl10, Ar10, qk10, Sz10, qz10, Ha10, Gf10⟩ := id V6
  obtain ⟨T10, h10, X10, e10, W10, st10⟩ := stB X6 hx hZ e6 Ar10 (inb_of Sz10 ⟨by decide, by decide⟩) (g := (mkF m 31 #[rv aC, iv (2 : Int32), rv aB, iv (2 : Int32), iv (3 : Int32), iv (2 : Int32), iv c2] [(.int (c2).toInt8.toInt32), (.int (2 : Int32)), (.ref aB)])) rfl rfl (hb hby dj52_21_31)
  have N10 := Fr.snoc X10 N6 lB
  have V10 : Arv Z h10 aB kB .byte (3 : Int32) [(.int (nar .byte (c0).toInt8.toInt32)), (.int (nar .byte (c1).toInt8.toInt32)), (.int (nar .byte (c2).toInt8.toInt32))] (.int (0 : Int32)) := Arv.set Ar10 qk10 Sz10 qz10 Ha10 Gf10 (fits_nar_byte _) W10 2 (by decide) (by simp)
  refine Goes.st st10 ?_
  have KK11 := KK7.wr W10 (Or.inl (List.mem_of_getElem? (i := 0) rfl))
  have Z10 : n0 ≤ h10.size := by have := W10.size; have := Z6; omega
  show Gs p e below _ T10 m 32 #[rv aC, iv (2 : Int32), rv aB, iv (2 : Int32), iv (3 : Int32), iv (2 : Int32), iv c2] []
  refine Goes.st (fun tg kg => XS.iinc X10.here hx rfl (hb hby dj52_21_32) rfl (l' := #[rv aC, iv (3 : Int32), rv aB, iv (2 : Int32), iv (3 : Int32), iv (2 : Int32), iv c2]) rfl kg) ?_
  refine Goes.st (fun tg kg => XS.iinc X10.here hx rfl (hb hby dj52_21_35) rfl (l' := #[rv aC, iv (3 : Int32), rv aB, iv (3 : Int32), iv (3 : Int32), iv (2 : Int32), iv c2]) rfl kg) ?_
  refine Goes.st (fun tg kg => XS.iinc X10.here hx rfl (hb hby dj52_21_38) rfl (l' := #[rv aC, iv (3 : Int32), rv aB, iv (3 : Int32), iv (3 : Int32), iv (3 : Int32), iv c2]) rfl kg) ?_
  show Gs p e below _ T10 m 41 #[rv aC, iv (3 : Int32), rv aB, iv (3 : Int32), iv (3 : Int32), iv (3 : Int32), iv c2] []
  refine ggoto X10 hx (pc' := 3) (hb hby dj52_21_41) (by decide) (by decide) ?_
  show Gs p e below _ T10 m 3 #[rv aC, iv (3 : Int32), rv aB, iv (3 : Int32), iv (3 : Int32), iv (3 : Int32), iv c2] []
  refine giload X10 hx (hb hby dj52_21_3) rfl ?_
  refine giload X10 hx (hb hby dj52_21_5) rfl ?_
  show Gs p e below _ T10 m 7 #[rv aC, iv (3 : Int32), rv aB, iv (3 : Int32), iv (3 : Int32), iv (3 : Int32), iv c2] [(.int (3 : Int32)), (.int (3 : Int32))]
  refine gicmpYes X10 hx (pc' := 44) (hb hby dj52_21_7) (by decide) (by decide) (by decide) ?_
  show Gs p e below _ T10 m 44 #[rv aC, iv (3 : Int32), rv aB, iv (3 : Int32), iv (3 : Int32), iv (3 : Int32), iv c2] []
  refine giload X10 hx (hb hby dj52_21_44) rfl ?_
  show Gs p e below _ T10 m 46 #[rv aC, iv (3 : Int32), rv aB, iv (3 : Int32), iv (3 : Int32), iv (3 : Int32), iv c2] [(.int (3 : Int32))]
  refine Goes.retI X10 hx hret (hb hby dj52_21_46) (lvN X10 hlk (vsome hret) ?_ (by decide) (by decide))
  rw [e10]
  exact ⟨_, rfl, N10, KK11, V10⟩
theorem ef_Cx33 (m : MethodId) (x0 : Addr) (x1 : Int32) (x2 : Int32) : entryFrame m #[(.ref x0), (.int x1), (.int x2)] 6 = mkF m 0 #[rv x0, iv x1, iv x2, .unset, .unset, .unset] [] := by first | (simp [entryFrame, mkF, argsToLocals, Value.category]; done) | rfl
def QCx33 (Z : State) (aC : Addr) (kC : ClassId) (c0 c1 c2 : Int32) (h0 : Heap) (n0 : Nat) (v : Option Value) (h : Heap) (L : List Loc) : Prop := ∃ (b : Addr) (kB : ClassId) (vs : List Value), v = some (.ref b) ∧ Fr n0 L ∧ Keep h0 h [] ∧ h0.size ≤ b ∧ n0 ≤ b ∧ Arv Z h b kB .byte (3 : Int32) vs (.int (0 : Int32))
set_option maxRecDepth 65536 in
set_option maxHeartbeats 40000000 in
theorem rmCx33 (l : Launch) (Z : State) (a0 : Array Value) (hw : ∀ d ∈ tables_1, d.before a0 Z = true) (ws : List Jvm.Cond) (aC : Addr) (kC : ClassId) (c0 c1 c2 : Int32) (h0 : Heap) (n0 : Nat) (Z0 : n0 ≤ h0.size) (Sd : Sta Z h0 "java/lang/StringUTF16" "$assertionsDisabled" "Z" (.int (1 : Int32))) (Sh : Sta Z h0 "java/lang/StringUTF16" "HI_BYTE_SHIFT" "I" (.int (0 : Int32))) (Sl : Sta Z h0 "java/lang/StringUTF16" "LO_BYTE_SHIFT" "I" (.int (8 : Int32))) (VC : Arv Z h0 aC kC .char (3 : Int32) [(.int c0), (.int c1), (.int c2)] (.int (0 : Int32))) (hc0 : ¬ (255 : Int32) < c0) (hc1 : ¬ (255 : Int32) < c1) (hc2 : ¬ (255 : Int32) < c2) :
    MetFree l mN6 (head1 (Jvm.Cond.code mN6 jdk_52_method_16_code 6 (some (.array .byte)) :: ws) ({ frames := 1, cells := 1, slots := 3, locals := 18 } : Room)) (fun aa U => aa = #[(.ref aC), (.int (0 : Int32)), (.int (3 : Int32))] ∧ Z.Warmed39 U.vm ∧ U.heap = h0) (fun _ _ _ _ _ => True) (fun _ u1_ o_ u2_ => ∃ v_ l_, o_ = .returned v_ ∧ QCx33 Z aC kC c0 c1 c2 h0 n0 v_ u2_.heap l_ ∧ FrameEnd u1_ o_ u2_ l_ ({ frames := 1, cells := 1, slots := 3, locals := 18 } : Room).cells ({ frames := 1, cells := 1, slots := 3, locals := 18 } : Room).slots) := by
  refine MetFree.of_bodySF (plainFor_of_name pn_java_lang_StringUTF16) hisR ?_
  intro p e s m args below meth c s₁ Bd hml0 hP hK
  obtain ⟨rfl, hZ, hh⟩ := hP
  have hx := Bd.exec
  have hby := Bd.bytes
  have hlk := BodyLoose.notSynchronized Bd
  have hret := Bd.returns
  have hml : c.maxLocals = 6 := hml0
  have hown : s.vm.findClass "java/lang/StringUTF16" = some m.cls := findClass_of_methodNamed Bd.named
  have hnm := (name_of_methodNamed Bd.named Bd.method).1
  have X0 : Stand p l e ({ frames := 1, cells := 1, slots := 3, locals := 18 } : Room) s m #[(.ref aC), (.int (0 : Int32)), (.int (3 : Int32))] below meth c s₁ [] 0 0 := Stand.of_body Bd
  have e0 : s₁.heap = h0 := by rw [← hh, Bd.state]; rfl
  have N0 := Fr.nil n0
  refine Goes.st (E := (EN s (QCx33 Z aC kC c0 c1 c2 h0 n0) ({ frames := 1, cells := 1, slots := 3, locals := 18 } : Room).cells ({ frames := 1, cells := 1, slots := 3, locals := 18 } : Room).slots)) (fun tg kg => castTop (ef_Cx33 m aC (0 : Int32) (3 : Int32)) kg) ?_
  have K0 : Keep h0 h0 [] := Keep.refl _ _
  show Gs p e below _ s₁ m 0 #[rv aC, iv (0 : Int32), iv (3 : Int32), .unset, .unset, .unset] []
  refine giloadN X0 hx (hb hby dj52_16_0) rfl ?_
  obtain ⟨T1, h1, cA1, X1, e1, E1, A1, st1⟩ := newP X0 hx hZ (hwk hw 23 rfl) e0 (g := (mkF m 1 #[rv aC, iv (0 : Int32), iv (3 : Int32), .unset, .unset, .unset] [(.int (3 : Int32))])) rfl (hb hby dj52_16_1) rfl (by decide) (cap := 3) (by decide) (by decide) (by decide) (by decide)
  obtain ⟨b1, g1⟩ : ∃ z, z = h0.size := ⟨_, rfl⟩
  rw [← g1] at A1 st1
  have ne_aC_b1 : aC ≠ b1 := Nat.ne_of_lt (Nat.lt_of_lt_of_le VC.lt (Nat.le_of_eq g1.symm))
  have lo_b1 : n0 ≤ b1 := by have := Z0; omega
  have sz_b1 : h0.size ≤ b1 := by have := K0.1; omega
  have KK2 := K0.ext E1
  have V1 : Arv Z h1 b1 cA1 .byte (3 : Int32) [(.int (0 : Int32)), (.int (0 : Int32)), (.int (0 : Int32))] (.int (0 : Int32)) := (Arv.new A1 (by decide)).pad (pad_rep [] _ 3)
  refine Goes.st st1 ?_
  have Z1 : n0 ≤ h1.size := Nat.le_trans Z0 E1.1
  show Gs p e below _ T1 m 3 #[rv aC, iv (0 : Int32), iv (3 : Int32), .unset, .unset, .unset] [(.ref b1)]
  refine gastoreN X1 hx (hb hby dj52_16_3) trivial rfl (l' := #[rv aC, iv (0 : Int32), iv (3 : Int32), rv b1, .unset, .unset]) rfl ?_
  refine galoadN X1 hx (hb hby dj52_16_4) rfl rfl ?_
  refine giloadN X1 hx (hb hby dj52_16_5) rfl ?_
  refine galoadN X1 hx (hb hby dj52_16_6) rfl rfl ?_
  refine giconst X1 hx (hb hby dj52_16_7) ?_
  show Gs p e below _ T1 m 8 #[rv aC, iv (0 : Int32), iv (3 : Int32), rv b1, .unset, .unset] [(.int (0 : Int32)), (.ref b1), (.int (0 : Int32)), (.ref aC)]
  refine giloadN X1 hx (hb hby dj52_16_8) rfl ?_
  have f3 := (VC.ext E1)
  obtain ⟨_, _, ⟨T4, L4, k4, n4⟩, -, X4, ⟨Lc4, hQ4, l4, y4, z4⟩, st4⟩ := Jvm.LawKit.callS X1 hx (y := mN5) hown (mvT hZ (hwk hw 24 rfl)) (mvT hZ (hwk hw 25 rfl)) (mvT hZ (hwk hw 21 rfl)) (mvT hZ (hwk hw 26 rfl)) (by decide) (backOf (W := 0) (rmCm33 l Z a0 hw [] aC kC c0 c1 c2 b1 cA1 h1 n0 Z1 f3 V1 lo_b1 ne_aC_b1 hc0 hc1 hc2) hZ (hwk hw 26 rfl) (hwk hw 21 rfl) (by decide) (by decide)) (g := (mkF m 9 #[rv aC, iv (0 : Int32), iv (3 : Int32), rv b1, .unset, .unset] [(.int (3 : Int32)), (.int (0 : Int32)), (.ref b1), (.int (0 : Int32)), (.ref aC)])) rfl (by rw [hml]; rfl) (argsL := [(.ref aC), (.int (0 : Int32)), (.ref b1), (.int (0 : Int32)), (.int (3 : Int32))]) (rest := []) (lenOf pd___CI_BII_I_1ed0 rfl) rfl (by show 2 * 0 + _ ≤ _; exact Nat.le_of_eq rfl) (hb hby dj52_16_9) (fun _ _ => ⟨rfl, e1, (by decide : 1 + 0 ≤ 1), (by decide : 3 + 0 ≤ 3)⟩)
  dsimp only [Pt.U, Pt.locs, Pt.cells, Pt.slots] at X4 l4 y4 z4 st4 hQ4
  subst l4 y4 z4
  obtain ⟨vs4, rfl, N4q, K4, V4⟩ := hQ4
  have KK5 := KK2.trans K4 (allS (Or.inr sz_b1) all0)
  have Z4 : n0 ≤ T4.heap.size := Nat.le_trans Z1 K4.1
  have N4 := Fr.app N0 N4q
  refine Goes.st st4 ?_
  show Gs p e below _ T4 m 12 #[rv aC, iv (0 : Int32), iv (3 : Int32), rv b1, .unset, .unset] [(.int (3 : Int32))]
  refine gistore X4 hx (hb hby dj52_16_12) trivial (l' := #[rv aC, iv (0 : Int32), iv (3 : Int32), rv b1, iv (3 : Int32), .unset]) rfl ?_
  refine giload X4 hx (hb hby dj52_16_14) rfl ?_
  refine giloadN X4 hx (hb hby dj52_16_16) rfl ?_
  show Gs p e below _ T4 m 17 #[rv aC, iv (0 : Int32), iv (3 : Int32), rv b1, iv (3 : Int32), .unset] [(.int (3 : Int32)), (.int (3 : Int32))]
  refine gicmpYes X4 hx (pc' := 57) (hb hby dj52_16_17) (by decide) (by decide) (by decide) ?_
  show Gs p e below _ T4 m 57 #[rv aC, iv (0 : Int32), iv (3 : Int32), rv b1, iv (3 : Int32), .unset] []
  refine galoadN X4 hx (hb hby dj52_16_57) rfl rfl ?_
  show Gs p e below _ T4 m 58 #[rv aC, iv (0 : Int32), iv (3 : Int32), rv b1, iv (3 : Int32), .unset] [(.ref b1)]
  refine Goes.retA X4 hx hret rfl rfl rfl (hb hby dj52_16_58) (lvN X4 hlk (vsome hret) ?_ (by decide) (by decide))
  exact ⟨b1, cA1, _, rfl, N4, KK5, sz_b1, lo_b1, V4⟩
theorem ef_Cl33 (m : MethodId) (x0 : Addr) (x1 : Int32) : entryFrame m #[(.ref x0), (.int x1)] 2 = mkF m 0 #[rv x0, iv x1] [] := by first | (simp [entryFrame, mkF, argsToLocals, Value.category]; done) | rfl
def QCl33 (Z : State) (aB : Addr) (kB : ClassId) (vs : List Value) (h0 : Heap) (n0 : Nat) (v : Option Value) (h : Heap) (L : List Loc) : Prop := v = some (.int (0 : Int32)) ∧ Fr n0 L ∧ h = h0
set_option maxRecDepth 65536 in
set_option maxHeartbeats 40000000 in
theorem rmCl33 (l : Launch) (Z : State) (a0 : Array Value) (hw : ∀ d ∈ tables_1, d.before a0 Z = true) (ws : List Jvm.Cond) (aB : Addr) (kB : ClassId) (vs : List Value) (h0 : Heap) (n0 : Nat) (Z0 : n0 ≤ h0.size) (VB : Arv Z h0 aB kB .byte (3 : Int32) vs (.int (0 : Int32))) :
    MetFree l mN7 (head1 (Jvm.Cond.code mN7 jdk_52_method_15_code 2 (some .byte) :: ws) ({ frames := 0, cells := 0, slots := 0, locals := 0 } : Room)) (fun aa U => aa = #[(.ref aB), (.int (3 : Int32))] ∧ Z.Warmed39 U.vm ∧ U.heap = h0) (fun _ _ _ _ _ => True) (fun _ u1_ o_ u2_ => ∃ v_ l_, o_ = .returned v_ ∧ QCl33 Z aB kB vs h0 n0 v_ u2_.heap l_ ∧ FrameEnd u1_ o_ u2_ l_ ({ frames := 0, cells := 0, slots := 0, locals := 0 } : Room).cells ({ frames := 0, cells := 0, slots := 0, locals := 0 } : Room).slots) := by
  refine MetFree.of_bodySF (plainFor_of_name pn_java_lang_StringUTF16) hisR ?_
  intro p e s m args below meth c s₁ Bd hml0 hP hK
  obtain ⟨rfl, hZ, hh⟩ := hP
  have hx := Bd.exec
  have hby := Bd.bytes
  have hlk := BodyLoose.notSynchronized Bd
  have hret := Bd.returns
  have hml : c.maxLocals = 2 := hml0
  have hown : s.vm.findClass "java/lang/StringUTF16" = some m.cls := findClass_of_methodNamed Bd.named
  have hnm := (name_of_methodNamed Bd.named Bd.method).1
  have X0 : Stand p l e ({ frames := 0, cells := 0, slots := 0, locals := 0 } : Room) s m #[(.ref aB), (.int (3 : Int32))] below meth c s₁ [] 0 0 := Stand.of_body Bd
  have e0 : s₁.heap = h0 := by rw [← hh, Bd.state]; rfl
  have N0 := Fr.nil n0
  refine Goes.st (E := (EN s (QCl33 Z aB kB vs h0 n0) ({ frames := 0, cells := 0, slots := 0, locals := 0 } : Room).cells ({ frames := 0, cells := 0, slots := 0, locals := 0 } : Room).slots)) (fun tg kg => castTop (ef_Cl33 m aB (3 : Int32)) kg) ?_
  show Gs p e below _ s₁ m 0 #[rv aB, iv (3 : Int32)] []
  refine giloadN X0 hx (hb hby dj52_15_0) rfl ?_
  refine galoadN X0 hx (hb hby dj52_15_1) rfl rfl ?_
  show Gs p e below _ s₁ m 2 #[rv aB, iv (3 : Int32)] [(.ref aB), (.int (3 : Int32))]
  obtain ⟨cl1, Ar1, qk1, Sz1, qz1, Ha1, Gf1⟩ := id VB
  refine Goes.st (fun tg kg => X0.arraylength hx (cell := cl1) (by rw [e0]; exact Ar1.1) (State.isArrayOf_alike hZ.alike Ar1.2.1) (g := (mkF m 2 #[rv aB, iv (3 : Int32)] [(.ref aB), (.int (3 : Int32))])) rfl (rest := [(.int (3 : Int32))]) rfl (hb hby dj52_15_2) tg kg) ?_
  rw [len_of Sz1 qz1]
  show Gs p e below _ s₁ m 3 #[rv aB, iv (3 : Int32)] [(.int (3 : Int32)), (.int (3 : Int32))]
  refine gisub X0 hx (hb hby dj52_15_3) trivial ?_
  show Gs p e below _ s₁ m 4 #[rv aB, iv (3 : Int32)] [(.int ((3 : Int32) - (3 : Int32)))]
  rw [show ((3 : Int32) - (3 : Int32)) = (0 : Int32) from by decide]
  show Gs p e below _ s₁ m 4 #[rv aB, iv (3 : Int32)] [(.int (0 : Int32))]
  refine Goes.st (fun tg kg => XS.bipush X0.here hx rfl (hb hby dj52_15_4) kg) ?_
  show Gs p e below _ s₁ m 6 #[rv aB, iv (3 : Int32)] [(.int (31 : Int32)), (.int (0 : Int32))]
  refine Goes.st (fun tg kg => XT.iushr X0.here hx rfl (hb hby dj52_15_6) rfl kg) ?_
  show Gs p e below _ s₁ m 7 #[rv aB, iv (3 : Int32)] [(.int (XT.ushr (0 : Int32) (31 : Int32)))]
  rw [show (XT.ushr (0 : Int32) (31 : Int32)) = (0 : Int32) from by decide]
  show Gs p e below _ s₁ m 7 #[rv aB, iv (3 : Int32)] [(.int (0 : Int32))]
  refine Goes.st (fun tg kg => XT.i2b X0.here hx rfl (hb hby dj52_15_7) rfl kg) ?_
  show Gs p e below _ s₁ m 8 #[rv aB, iv (3 : Int32)] [(.int ((0 : Int32)).toInt8.toInt32)]
  rw [show ((0 : Int32)).toInt8.toInt32 = (0 : Int32) from by decide]
  show Gs p e below _ s₁ m 8 #[rv aB, iv (3 : Int32)] [(.int (0 : Int32))]
  refine Goes.retN X0 hx hret (by simp) (hb hby dj52_15_8) (by decide) (lvN X0 hlk (vsome hret) ?_ (by decide) (by decide))
  rw [e0]
  exact ⟨rfl, N0, rfl⟩
theorem ef_Iv33 (m : MethodId) (x0 : Addr) (x1 : Addr) (x2 : Int32) (x3 : Int32) : entryFrame m #[(.ref x0), (.ref x1), (.int x2), (.int x3), .null] 6 = mkF m 0 #[rv x0, rv x1, iv x2, iv x3, .val .null, .unset] [] := by first | (simp [entryFrame, mkF, argsToLocals, Value.category]; done) | rfl
def QIv33 (Z : State) (a : Addr) (cs : Int32) (aC : Addr) (kC : ClassId) (c0 c1 c2 : Int32) (h0 : Heap) (n0 : Nat) (v : Option Value) (h : Heap) (L : List Loc) : Prop := v = none ∧ Fr n0 L ∧ Keep h0 h [a]
set_option maxRecDepth 65536 in
set_option maxHeartbeats 40000000 in
theorem rmIv33 (l : Launch) (Z : State) (a0 : Array Value) (hw : ∀ d ∈ tables_1, d.before a0 Z = true) (ws : List Jvm.Cond) (a : Addr) (cs : Int32) (aC : Addr) (kC : ClassId) (c0 c1 c2 : Int32) (h0 : Heap) (n0 : Nat) (Z0 : n0 ≤ h0.size) (Scs : Sta Z h0 "java/lang/String" "COMPACT_STRINGS" "Z" (.int cs)) (hcs : ¬ cs = (0 : Int32)) (Sd : Sta Z h0 "java/lang/StringUTF16" "$assertionsDisabled" "Z" (.int (1 : Int32))) (Sh : Sta Z h0 "java/lang/StringUTF16" "HI_BYTE_SHIFT" "I" (.int (0 : Int32))) (Sl : Sta Z h0 "java/lang/StringUTF16" "LO_BYTE_SHIFT" "I" (.int (8 : Int32))) (Ea : Exa Z h0 a "java/lang/String") (ga : n0 ≤ a) (Fv : Fld Z h0 a "java/lang/String" "value" "[B" .null) (Fc : Fld Z h0 a "java/lang/String" "coder" "B" (.int (0 : Int32))) (VC : Arv Z h0 aC kC .char (3 : Int32) [(.int c0), (.int c1), (.int c2)] (.int (0 : Int32))) (naC : a ≠ aC) (hc0 : ¬ (255 : Int32) < c0) (hc1 : ¬ (255 : Int32) < c1) (hc2 : ¬ (255 : Int32) < c2) :
    MetFree l mN8 (head1 (Jvm.Cond.code mN8 jdk_42_method_149_code 6 none :: ws) ({ frames := 2, cells := 1, slots := 3, locals := 35 } : Room)) (fun aa U => aa = #[(.ref a), (.ref aC), (.int (0 : Int32)), (.int (3 : Int32)), .null] ∧ Z.Warmed39 U.vm ∧ U.heap = h0) (fun _ _ _ _ _ => True) (fun _ u1_ o_ u2_ => ∃ v_ l_, o_ = .returned v_ ∧ QIv33 Z a cs aC kC c0 c1 c2 h0 n0 v_ u2_.heap l_ ∧ FrameEnd u1_ o_ u2_ l_ ({ frames := 2, cells := 1, slots := 3, locals := 35 } : Room).cells ({ frames := 2, cells := 1, slots := 3, locals := 35 } : Room).slots) := by
  refine MetFree.of_bodySF (plainFor_of_name pn_java_lang_String) hisR ?_
  intro p e s m args below meth c s₁ Bd hml0 hP hK
  obtain ⟨rfl, hZ, hh⟩ := hP
  have hx := Bd.exec
  have hby := Bd.bytes
  have hlk := BodyLoose.notSynchronized Bd
  have hret := Bd.returns
  have hml : c.maxLocals = 6 := hml0
  have hown : s.vm.findClass "java/lang/String" = some m.cls := findClass_of_methodNamed Bd.named
  have hnm := (name_of_methodNamed Bd.named Bd.method).1
  have X0 : Stand p l e ({ frames := 2, cells := 1, slots := 3, locals := 35 } : Room) s m #[(.ref a), (.ref aC), (.int (0 : Int32)), (.int (3 : Int32)), .null] below meth c s₁ [] 0 0 := Stand.of_body Bd
  have e0 : s₁.heap = h0 := by rw [← hh, Bd.state]; rfl
  have N0 := Fr.nil n0
  refine Goes.st (E := (EN s (QIv33 Z a cs aC kC c0 c1 c2 h0 n0) ({ frames := 2, cells := 1, slots := 3, locals := 35 } : Room).cells ({ frames := 2, cells := 1, slots := 3, locals := 35 } : Room).slots)) (fun tg kg => castTop (ef_Iv33 m a aC (0 : Int32) (3 : Int32)) kg) ?_
  have K0 : Keep h0 h0 [a] := Keep.refl _ _
  show Gs p e below _ s₁ m 0 #[rv a, rv aC, iv (0 : Int32), iv (3 : Int32), .val .null, .unset] []
  refine galoadN X0 hx (hb hby dj42_149_0) rfl rfl ?_
  obtain ⟨T1, X1, e1, st1⟩ := initO X0 hx hZ hown (hwk hw 15 rfl) (hwk hw 16 rfl) (hwk hw 17 rfl) e0 (g := (mkF m 1 #[rv a, rv aC, iv (0 : Int32), iv (3 : Int32), .val .null, .unset] [(.ref a)])) rfl (by rw [hml]; rfl) rfl (hb hby dj42_149_1) (by decide) (W := 0) (by show 2 * 0 + _ ≤ _; exact Nat.le_of_eq rfl) (by decide)
  refine Goes.st st1 ?_
  show Gs p e below _ T1 m 4 #[rv a, rv aC, iv (0 : Int32), iv (3 : Int32), .val .null, .unset] []
  refine giloadN X1 hx (hb hby dj42_149_4) rfl ?_
  show Gs p e below _ T1 m 5 #[rv a, rv aC, iv (0 : Int32), iv (3 : Int32), .val .null, .unset] [(.int (3 : Int32))]
  refine gifYes X1 hx (pc' := 27) (hb hby dj42_149_5) (by decide) (by decide) (by decide) ?_
  show Gs p e below _ T1 m 27 #[rv a, rv aC, iv (0 : Int32), iv (3 : Int32), .val .null, .unset] []
  obtain ⟨T2, X2, e2, st2⟩ := getS X1 hx hZ hown (host := "") (hwk hw 18 rfl) Via.refl e1 Scs (g := (mkF m 27 #[rv a, rv aC, iv (0 : Int32), iv (3 : Int32), .val .null, .unset] [])) rfl (hb hby dj42_149_27)
  refine Goes.st st2 ?_
  show Gs p e below _ T2 m 30 #[rv a, rv aC, iv (0 : Int32), iv (3 : Int32), .val .null, .unset] [(.int cs)]
  refine gifNo X2 hx (hb hby dj42_149_30) ((if0 _ _).trans (feq hcs).1) ?_
  show Gs p e below _ T2 m 33 #[rv a, rv aC, iv (0 : Int32), iv (3 : Int32), .val .null, .unset] []
  refine galoadN X2 hx (hb hby dj42_149_33) rfl rfl ?_
  refine giloadN X2 hx (hb hby dj42_149_34) rfl ?_
  refine giloadN X2 hx (hb hby dj42_149_35) rfl ?_
  have lt3 : a < h0.size := Ea.lt
  have lt4 : aC < h0.size := VC.lt
  obtain ⟨_, _, ⟨T5, L5, k5, n5⟩, -, X5, ⟨Lc5, hQ5, l5, y5, z5⟩, st5⟩ := Jvm.LawKit.callS X2 hx (y := mN6) hown (mvT hZ (hwk hw 19 rfl)) (mvT hZ (hwk hw 20 rfl)) (mvT hZ (hwk hw 21 rfl)) (mvT hZ (hwk hw 22 rfl)) (by decide) (backOf (W := 0) (rmCx33 l Z a0 hw [] aC kC c0 c1 c2 h0 n0 Z0 Sd Sh Sl VC hc0 hc1 hc2) hZ (hwk hw 22 rfl) (hwk hw 21 rfl) (by decide) (by decide)) (g := (mkF m 36 #[rv a, rv aC, iv (0 : Int32), iv (3 : Int32), .val .null, .unset] [(.int (3 : Int32)), (.int (0 : Int32)), (.ref aC)])) rfl (by rw [hml]; rfl) (argsL := [(.ref aC), (.int (0 : Int32)), (.int (3 : Int32))]) (rest := []) (lenOf pd___CII__B_166f rfl) rfl (by show 2 * 0 + _ ≤ _; exact Nat.le_of_eq rfl) (hb hby dj42_149_36) (fun _ _ => ⟨rfl, e2, (by decide : 0 + 1 ≤ 1), (by decide : 0 + 3 ≤ 3)⟩)
  dsimp only [Pt.U, Pt.locs, Pt.cells, Pt.slots] at X5 l5 y5 z5 st5 hQ5
  subst l5 y5 z5
  obtain ⟨b5, kB5, vs5, rfl, N5q, K5, szq5, loq5, V5⟩ := hQ5
  have KK6 := K0.trans K5 all0
  have ne_a_b5 : a ≠ b5 := Nat.ne_of_lt (Nat.lt_of_lt_of_le lt3 szq5)
  have ne_aC_b5 : aC ≠ b5 := Nat.ne_of_lt (Nat.lt_of_lt_of_le lt4 szq5)
  have sz_b5 : h0.size ≤ b5 := by have := KK6.1; have := szq5; omega
  have Z5 : n0 ≤ T5.heap.size := Nat.le_trans Z0 K5.1
  have N5 := Fr.app N0 N5q
  refine Goes.st st5 ?_
  show Gs p e below _ T5 m 39 #[rv a, rv aC, iv (0 : Int32), iv (3 : Int32), .val .null, .unset] [(.ref b5)]
  refine gastore X5 hx (hb hby dj42_149_39) trivial rfl (l' := #[rv a, rv aC, iv (0 : Int32), iv (3 : Int32), .val .null, rv b5]) rfl ?_
  refine galoadN X5 hx (hb hby dj42_149_41) rfl rfl ?_
  refine gaload X5 hx (hb hby dj42_149_42) rfl rfl ?_
  refine giloadN X5 hx (hb hby dj42_149_44) rfl ?_
  obtain ⟨_, _, ⟨T7, L7, k7, n7⟩, -, X7, ⟨Lc7, hQ7, l7, y7, z7⟩, st7⟩ := Jvm.LawKit.callS X5 hx (y := mN7) hown (mvT hZ (hwk hw 27 rfl)) (mvT hZ (hwk hw 28 rfl)) (mvT hZ (hwk hw 21 rfl)) (mvT hZ (hwk hw 29 rfl)) (by decide) (backOf (W := 1) (rmCl33 l Z a0 hw [] b5 kB5 vs5 T5.heap n0 Z5 V5) hZ (hwk hw 29 rfl) (hwk hw 21 rfl) (by decide) (by decide)) (g := (mkF m 45 #[rv a, rv aC, iv (0 : Int32), iv (3 : Int32), .val .null, rv b5] [(.int (3 : Int32)), (.ref b5), (.ref a)])) rfl (by rw [hml]; rfl) (argsL := [(.ref b5), (.int (3 : Int32))]) (rest := [(.ref a)]) (lenOf pd___BI_B_df7 rfl) rfl (by show 2 * 0 + _ ≤ _; exact Nat.le_of_eq rfl) (hb hby dj42_149_45) (fun _ _ => ⟨rfl, rfl, (by decide : 1 + 0 ≤ 1), (by decide : 3 + 0 ≤ 3)⟩)
  dsimp only [Pt.U, Pt.locs, Pt.cells, Pt.slots] at X7 l7 y7 z7 st7 hQ7
  subst l7 y7 z7
  obtain ⟨rfl, N7q, eh7⟩ := hQ7
  have N7 := Fr.app N5 N7q
  refine Goes.st st7 ?_
  show Gs p e below _ T7 m 48 #[rv a, rv aC, iv (0 : Int32), iv (3 : Int32), .val .null, rv b5] [(.int (0 : Int32)), (.ref a)]
  have f9 := (Fc.keep K5 nin0)
  have f10 := (Ea.keep K5)
  obtain ⟨T8, h8, X8, e8, W8, st8⟩ := putFN X7 hx hZ hown (hwk hw 30 rfl) Via.refl eh7 f9 f10 (Or.inr ⟨(hwk hw 31 rfl), rfl, hnm⟩) (hwk hw 5 rfl) (ty := .byte) (v' := (.int (0 : Int32))) (by decide) rfl (by decide) (g := (mkF m 48 #[rv a, rv aC, iv (0 : Int32), iv (3 : Int32), .val .null, rv b5] [(.int (0 : Int32)), (.ref a)])) rfl rfl (hb hby dj42_149_48)
  have N8 := Fr.snoc X8 N7 ga
  have G8 := f9.same W8
  refine Goes.st st8 ?_
  have KK11 := KK6.wr W8 (Or.inl (List.mem_of_getElem? (i := 0) rfl))
  have Z8 : n0 ≤ h8.size := by have := W8.size; have := Z5; omega
  show Gs p e below _ T8 m 51 #[rv a, rv aC, iv (0 : Int32), iv (3 : Int32), .val .null, rv b5] []
  refine galoadN X8 hx (hb hby dj42_149_51) rfl rfl ?_
  refine gaload X8 hx (hb hby dj42_149_52) rfl rfl ?_
  have f13 := ((Fv.keep K5 nin0).other W8 (Or.inr (slot_ne (Or.inr (hwk hw 33 rfl)) (Or.inr (hwk hw 31 rfl)) (by decide) (t := (.array .byte)) (t' := .byte) (by decide) (by decide))))
  have f14 := (f10.wr W8)
  obtain ⟨T12, h12, X12, e12, W12, st12⟩ := putF X8 hx hZ hown (host := "") (Or.inl (hwk hw 32 rfl)) Via.refl e8 f13 f14 (Or.inr ⟨(hwk hw 33 rfl), rfl, hnm⟩) (hwk hw 5 rfl) (ty := (.array .byte)) (by decide) rfl rfl (g := (mkF m 54 #[rv a, rv aC, iv (0 : Int32), iv (3 : Int32), .val .null, rv b5] [(.ref b5), (.ref a)])) rfl rfl (hb hby dj42_149_54)
  have N12 := Fr.snoc X12 N8 ga
  have G12 := f13.same W12
  refine Goes.st st12 ?_
  have KK15 := KK11.wr W12 (Or.inl (List.mem_of_getElem? (i := 0) rfl))
  have Z12 : n0 ≤ h12.size := by have := W12.size; have := Z8; omega
  show Gs p e below _ T12 m 57 #[rv a, rv aC, iv (0 : Int32), iv (3 : Int32), .val .null, rv b5] []
  refine Goes.retV X12 hx hret (hb hby dj42_149_57) (lvN X12 hlk (fun _ => rfl) ?_ (by decide) (by decide))
  rw [e12]
  exact ⟨rfl, N12, KK15⟩
theorem ef_Ic33 (m : MethodId) (x0 : Addr) (x1 : Addr) : entryFrame m #[(.ref x0), (.ref x1)] 2 = mkF m 0 #[rv x0, rv x1] [] := by first | (simp [entryFrame, mkF, argsToLocals, Value.category]; done) | rfl
def QIc33 (Z : State) (a : Addr) (cs : Int32) (aC : Addr) (kC : ClassId) (c0 c1 c2 : Int32) (h0 : Heap) (n0 : Nat) (v : Option Value) (h : Heap) (L : List Loc) : Prop := v = none ∧ Fr n0 L ∧ Keep h0 h [a]
set_option maxRecDepth 65536 in
set_option maxHeartbeats 40000000 in
theorem rmIc33 (l : Launch) (Z : State) (a0 : Array Value) (hw : ∀ d ∈ tables_1, d.before a0 Z = true) (ws : List Jvm.Cond) (a : Addr) (cs : Int32) (aC : Addr) (kC : ClassId) (c0 c1 c2 : Int32) (h0 : Heap) (n0 : Nat) (Z0 : n0 ≤ h0.size) (Scs : Sta Z h0 "java/lang/String" "COMPACT_STRINGS" "Z" (.int cs)) (hcs : ¬ cs = (0 : Int32)) (Sd : Sta Z h0 "java/lang/StringUTF16" "$assertionsDisabled" "Z" (.int (1 : Int32))) (Sh : Sta Z h0 "java/lang/StringUTF16" "HI_BYTE_SHIFT" "I" (.int (0 : Int32))) (Sl : Sta Z h0 "java/lang/StringUTF16" "LO_BYTE_SHIFT" "I" (.int (8 : Int32))) (Ea : Exa Z h0 a "java/lang/String") (ga : n0 ≤ a) (Fv : Fld Z h0 a "java/lang/String" "value" "[B" .null) (Fc : Fld Z h0 a "java/lang/String" "coder" "B" (.int (0 : Int32))) (VC : Arv Z h0 aC kC .char (3 : Int32) [(.int c0), (.int c1), (.int c2)] (.int (0 : Int32))) (naC : a ≠ aC) (hc0 : ¬ (255 : Int32) < c0) (hc1 : ¬ (255 : Int32) < c1) (hc2 : ¬ (255 : Int32) < c2) :
    MetFree l mN9 (head1 (Jvm.Cond.code mN9 jdk_42_method_3_code 2 none :: ws) ({ frames := 3, cells := 1, slots := 3, locals := 52 } : Room)) (fun aa U => aa = #[(.ref a), (.ref aC)] ∧ Z.Warmed39 U.vm ∧ U.heap = h0) (fun _ _ _ _ _ => True) (fun _ u1_ o_ u2_ => ∃ v_ l_, o_ = .returned v_ ∧ QIc33 Z a cs aC kC c0 c1 c2 h0 n0 v_ u2_.heap l_ ∧ FrameEnd u1_ o_ u2_ l_ ({ frames := 3, cells := 1, slots := 3, locals := 52 } : Room).cells ({ frames := 3, cells := 1, slots := 3, locals := 52 } : Room).slots) := by
  refine MetFree.of_bodySF (plainFor_of_name pn_java_lang_String) hisR ?_
  intro p e s m args below meth c s₁ Bd hml0 hP hK
  obtain ⟨rfl, hZ, hh⟩ := hP
  have hx := Bd.exec
  have hby := Bd.bytes
  have hlk := BodyLoose.notSynchronized Bd
  have hret := Bd.returns
  have hml : c.maxLocals = 2 := hml0
  have hown : s.vm.findClass "java/lang/String" = some m.cls := findClass_of_methodNamed Bd.named
  have hnm := (name_of_methodNamed Bd.named Bd.method).1
  have X0 : Stand p l e ({ frames := 3, cells := 1, slots := 3, locals := 52 } : Room) s m #[(.ref a), (.ref aC)] below meth c s₁ [] 0 0 := Stand.of_body Bd
  have e0 : s₁.heap = h0 := by rw [← hh, Bd.state]; rfl
  have N0 := Fr.nil n0
  refine Goes.st (E := (EN s (QIc33 Z a cs aC kC c0 c1 c2 h0 n0) ({ frames := 3, cells := 1, slots := 3, locals := 52 } : Room).cells ({ frames := 3, cells := 1, slots := 3, locals := 52 } : Room).slots)) (fun tg kg => castTop (ef_Ic33 m a aC) kg) ?_
  have K0 : Keep h0 h0 [a] := Keep.refl _ _
  show Gs p e below _ s₁ m 0 #[rv a, rv aC] []
  refine galoadN X0 hx (hb hby dj42_3_0) rfl rfl ?_
  refine galoadN X0 hx (hb hby dj42_3_1) rfl rfl ?_
  refine giconst X0 hx (hb hby dj42_3_2) ?_
  refine galoadN X0 hx (hb hby dj42_3_3) rfl rfl ?_
  show Gs p e below _ s₁ m 4 #[rv a, rv aC] [(.ref aC), (.int (0 : Int32)), (.ref aC), (.ref a)]
  obtain ⟨cl1, Ar1, qk1, Sz1, qz1, Ha1, Gf1⟩ := id VC
  refine Goes.st (fun tg kg => X0.arraylength hx (cell := cl1) (by rw [e0]; exact Ar1.1) (State.isArrayOf_alike hZ.alike Ar1.2.1) (g := (mkF m 4 #[rv a, rv aC] [(.ref aC), (.int (0 : Int32)), (.ref aC), (.ref a)])) rfl (rest := [(.int (0 : Int32)), (.ref aC), (.ref a)]) rfl (hb hby dj42_3_4) tg kg) ?_
  rw [len_of Sz1 qz1]
  show Gs p e below _ s₁ m 5 #[rv a, rv aC] [(.int (3 : Int32)), (.int (0 : Int32)), (.ref aC), (.ref a)]
  refine Goes.st (fun tg kg => XS.aconstNull X0.here hx rfl (hb hby dj42_3_5) kg) ?_
  obtain ⟨_, _, ⟨T2, L2, k2, n2⟩, -, X2, ⟨Lc2, hQ2, l2, y2, z2⟩, st2⟩ := X0.specialBack hx (y := mN8) rfl hown (mvT hZ (hwk hw 11 rfl)) (mvT hZ (hwk hw 12 rfl)) (mvT hZ (hwk hw 14 rfl)) (by decide) (backOf (W := 0) (rmIv33 l Z a0 hw [] a cs aC kC c0 c1 c2 h0 n0 Z0 Scs hcs Sd Sh Sl Ea ga Fv Fc VC naC hc0 hc1 hc2) hZ (hwk hw 14 rfl) (hwk hw 6 rfl) (by decide) (by decide)) (g := (mkF m 6 #[rv a, rv aC] [.null, (.int (3 : Int32)), (.int (0 : Int32)), (.ref aC), (.ref a)])) rfl (by rw [hml]; rfl) (Steps.refl _) (a := a) (argsL := [(.ref aC), (.int (0 : Int32)), (.int (3 : Int32)), .null]) (rest := []) (lenOf pd___CIILjava_lang_Void__V_897f rfl) rfl (by show 2 * 0 + _ ≤ _; exact Nat.le_of_eq rfl) (hb hby dj42_3_6) (fun _ _ => ⟨rfl, e0, (by decide : 0 + 1 ≤ 1), (by decide : 0 + 3 ≤ 3)⟩)
  dsimp only [Pt.U, Pt.locs, Pt.cells, Pt.slots] at X2 l2 y2 z2 st2 hQ2
  subst l2 y2 z2
  obtain ⟨rfl, N2q, K2⟩ := hQ2
  have KK3 := K0.trans K2 (allS (Or.inl (List.mem_of_getElem? (i := 0) rfl)) all0)
  have Z2 : n0 ≤ T2.heap.size := Nat.le_trans Z0 K2.1
  have N2 := Fr.app N0 N2q
  refine Goes.sts st2 ?_
  show Gs p e below _ T2 m 9 #[rv a, rv aC] []
  refine Goes.retV X2 hx hret (hb hby dj42_3_9) (lvN X2 hlk (fun _ => rfl) ?_ (by decide) (by decide))
  exact ⟨rfl, N2, KK3⟩
theorem ef_Iv0 (m : MethodId) (x0 : Addr) (x1 : Addr) (x2 : Int32) (x3 : Int32) : entryFrame m #[(.ref x0), (.ref x1), (.int x2), (.int x3), .null] 6 = mkF m 0 #[rv x0, rv x1, iv x2, iv x3, .val .null, .unset] [] := by first | (simp [entryFrame, mkF, argsToLocals, Value.category]; done) | rfl
def QIv0 (Z : State) (a : Addr) (aC : Addr) (kC : ClassId) (h0 : Heap) (n0 : Nat) (v : Option Value) (h : Heap) (L : List Loc) : Prop := v = none ∧ Fr n0 L ∧ Keep h0 h [a]
set_option maxRecDepth 65536 in
set_option maxHeartbeats 40000000 in
theorem rmIv0 (l : Launch) (Z : State) (a0 : Array Value) (hw : ∀ d ∈ tables_1, d.before a0 Z = true) (ws : List Jvm.Cond) (a : Addr) (aC : Addr) (kC : ClassId) (h0 : Heap) (n0 : Nat) (Z0 : n0 ≤ h0.size) (Ea : Exa Z h0 a "java/lang/String") (ga : n0 ≤ a) (Fv : Fld Z h0 a "java/lang/String" "value" "[B" .null) (Fc : Fld Z h0 a "java/lang/String" "coder" "B" (.int (0 : Int32))) :
    MetFree l mN8 (head1 (Jvm.Cond.code mN8 jdk_42_method_149_code 6 none :: ws) ({ frames := 1, cells := 2, slots := 4, locals := 12 } : Room)) (fun aa U => aa = #[(.ref a), (.ref aC), (.int (0 : Int32)), (.int (0 : Int32)), .null] ∧ Z.Warmed39 U.vm ∧ U.heap = h0 ∧ CHv Z ELs U.vm h0) (fun _ _ _ _ _ => True) (fun _ u1_ o_ u2_ => ∃ v_ l_, o_ = .returned v_ ∧ QIv0 Z a aC kC h0 n0 v_ u2_.heap l_ ∧ ReturnedEndW u1_ o_ u2_ l_ ({ frames := 1, cells := 2, slots := 4, locals := 12 } : Room).cells ({ frames := 1, cells := 2, slots := 4, locals := 12 } : Room).slots) := by
  refine MetFree.of_bodySF (plainFor_of_name pn_java_lang_String) hisR ?_
  intro p e s m args below meth c s₁ Bd hml0 hP hK
  obtain ⟨rfl, hZ, hh, hH⟩ := hP
  have hx := Bd.exec
  have hby := Bd.bytes
  have hlk := BodyLoose.notSynchronized Bd
  have hret := Bd.returns
  have hml : c.maxLocals = 6 := hml0
  have hown : s.vm.findClass "java/lang/String" = some m.cls := findClass_of_methodNamed Bd.named
  have hnm := (name_of_methodNamed Bd.named Bd.method).1
  have X0 : Stand p l e ({ frames := 1, cells := 2, slots := 4, locals := 12 } : Room) (s.setVm s.vm) m #[(.ref a), (.ref aC), (.int (0 : Int32)), (.int (0 : Int32)), .null] below meth c s₁ [] 0 0 := Stand.of_body Bd
  have hS := (State.WarmedH.refl s).since 0
  have hk : 0 ≤ h0.size := Nat.zero_le _
  have e0 : s₁.heap = h0 := by rw [← hh, Bd.state]; rfl
  have N0 := Fr.nil n0
  refine Goes.st (E := (EV s (QIv0 Z a aC kC h0 n0) ({ frames := 1, cells := 2, slots := 4, locals := 12 } : Room).cells ({ frames := 1, cells := 2, slots := 4, locals := 12 } : Room).slots)) (fun tg kg => castTop (ef_Iv0 m a aC (0 : Int32) (0 : Int32)) kg) ?_
  have K0 : Keep h0 h0 [a] := Keep.refl _ _
  show Gs p e below _ s₁ m 0 #[rv a, rv aC, iv (0 : Int32), iv (0 : Int32), .val .null, .unset] []
  refine galoadN X0 hx (hb hby dj42_149_0) rfl rfl ?_
  obtain ⟨T1, X1, e1, st1⟩ := initO X0 hx hZ hown (hwk hw 15 rfl) (hwk hw 16 rfl) (hwk hw 17 rfl) e0 (g := (mkF m 1 #[rv a, rv aC, iv (0 : Int32), iv (0 : Int32), .val .null, .unset] [(.ref a)])) rfl (by rw [hml]; rfl) rfl (hb hby dj42_149_1) (by decide) (W := 0) (by show 2 * 0 + _ ≤ _; exact Nat.le_of_eq rfl) (by decide)
  refine Goes.st st1 ?_
  show Gs p e below _ T1 m 4 #[rv a, rv aC, iv (0 : Int32), iv (0 : Int32), .val .null, .unset] []
  refine giloadN X1 hx (hb hby dj42_149_4) rfl ?_
  show Gs p e below _ T1 m 5 #[rv a, rv aC, iv (0 : Int32), iv (0 : Int32), .val .null, .unset] [(.int (0 : Int32))]
  refine gifNo X1 hx (hb hby dj42_149_5) (by decide) ?_
  show Gs p e below _ T1 m 8 #[rv a, rv aC, iv (0 : Int32), iv (0 : Int32), .val .null, .unset] []
  refine galoadN X1 hx (hb hby dj42_149_8) rfl rfl ?_
  show Gs p e below _ T1 m 9 #[rv a, rv aC, iv (0 : Int32), iv (0 : Int32), .val .null, .unset] [(.ref a)]
  obtain ⟨b2, T2, h2, kk2, bb2, kb2, X2, e2, E2, hS, hk, hZ, hown, LE2, LC2, LV2, LA2, la2, lb2, hCr2, Li2, hSf2, st2⟩ := ldcCH X1 hx hZ hown (hwk hw 72 rfl) (strW (hwk hw 6 rfl) (hwk hw 5 rfl) (hwk hw 23 rfl) (hwk hw 33 rfl) (hwk hw 31 rfl) (hwk hw 73 rfl) (hwk hw 74 rfl)) e1 hS hk (hELs hw) (by decide) hH (vs := []) (z := (0 : Int32)) (by decide) (by decide) (by decide) (g := (mkF m 9 #[rv a, rv aC, iv (0 : Int32), iv (0 : Int32), .val .null, .unset] [(.ref a)])) rfl (hb hby dj42_149_9) (n := 0) (by decide) (by decide) (by decide) (by decide)
  have hH := hCr2.1
  refine Goes.st st2 ?_
  have KK3 := K0.ext E2
  have Z2 : n0 ≤ h2.size := Nat.le_trans Z0 E2.1
  have f4 := (Fv.ext E2)
  have ne_a_b2 : a ≠ b2 := Fld.ne f4 LV2 (by simp)
  show Gs p e below _ T2 m 11 #[rv a, rv aC, iv (0 : Int32), iv (0 : Int32), .val .null, .unset] [(.ref b2), (.ref a)]
  obtain ⟨T5, X5, e5, st5⟩ := getF X2 hx hZ hown (host := "") (Or.inl (hwk hw 32 rfl)) Via.refl e2 LV2 (g := (mkF m 11 #[rv a, rv aC, iv (0 : Int32), iv (0 : Int32), .val .null, .unset] [(.ref b2), (.ref a)])) rfl rfl (hb hby dj42_149_11)
  refine Goes.st st5 ?_
  have f7 := (Ea.ext E2)
  obtain ⟨T6, h6, X6, e6, W6, st6⟩ := putF X5 hx hZ hown (host := "") (Or.inl (hwk hw 32 rfl)) Via.refl e5 f4 f7 (Or.inr ⟨(hwk hw 33 rfl), rfl, hnm⟩) (hwk hw 5 rfl) (ty := (.array .byte)) (by decide) rfl rfl (g := (mkF m 14 #[rv a, rv aC, iv (0 : Int32), iv (0 : Int32), .val .null, .unset] [(.ref bb2), (.ref a)])) rfl rfl (hb hby dj42_149_14)
  have N6 := Fr.snoc X6 N0 ga
  have G6 := f4.same W6
  refine Goes.st st6 ?_
  have hk := Nat.le_trans hk (Nat.le_of_eq W6.size.symm)
  have KK8 := KK3.wr W6 (Or.inl (List.mem_of_getElem? (i := 0) rfl))
  have Z6 : n0 ≤ h6.size := by have := W6.size; have := Z2; omega
  show Gs p e below _ T6 m 17 #[rv a, rv aC, iv (0 : Int32), iv (0 : Int32), .val .null, .unset] []
  refine galoadN X6 hx (hb hby dj42_149_17) rfl rfl ?_
  show Gs p e below _ T6 m 18 #[rv a, rv aC, iv (0 : Int32), iv (0 : Int32), .val .null, .unset] [(.ref a)]
  refine Goes.st (ldcAgain X6 hx hZ hown (hwk hw 72 rfl) Li2 (g := (mkF m 18 #[rv a, rv aC, iv (0 : Int32), iv (0 : Int32), .val .null, .unset] [(.ref a)])) rfl (hb hby dj42_149_18)) ?_
  show Gs p e below _ T6 m 20 #[rv a, rv aC, iv (0 : Int32), iv (0 : Int32), .val .null, .unset] [(.ref b2), (.ref a)]
  have f11 := (LC2.other W6 (Or.inl (Ne.symm ne_a_b2)))
  obtain ⟨T10, X10, e10, st10⟩ := getF X6 hx hZ hown (host := "") (Or.inl (hwk hw 30 rfl)) Via.refl e6 f11 (g := (mkF m 20 #[rv a, rv aC, iv (0 : Int32), iv (0 : Int32), .val .null, .unset] [(.ref b2), (.ref a)])) rfl rfl (hb hby dj42_149_20)
  refine Goes.st st10 ?_
  have f13 := ((Fc.ext E2).other W6 (Or.inr (slot_ne (Or.inr (hwk hw 31 rfl)) (Or.inr (hwk hw 33 rfl)) (by decide) (t := .byte) (t' := (.array .byte)) (by decide) (by decide))))
  have f14 := (f7.wr W6)
  obtain ⟨T12, h12, X12, e12, W12, st12⟩ := putFN X10 hx hZ hown (hwk hw 30 rfl) Via.refl e10 f13 f14 (Or.inr ⟨(hwk hw 31 rfl), rfl, hnm⟩) (hwk hw 5 rfl) (ty := .byte) (v' := (.int (0 : Int32))) (by decide) rfl (by decide) (g := (mkF m 23 #[rv a, rv aC, iv (0 : Int32), iv (0 : Int32), .val .null, .unset] [(.int (0 : Int32)), (.ref a)])) rfl rfl (hb hby dj42_149_23)
  have N12 := Fr.snoc X12 N6 ga
  have G12 := f13.same W12
  refine Goes.st st12 ?_
  have hk := Nat.le_trans hk (Nat.le_of_eq W12.size.symm)
  have KK15 := KK8.wr W12 (Or.inl (List.mem_of_getElem? (i := 0) rfl))
  have Z12 : n0 ≤ h12.size := by have := W12.size; have := Z6; omega
  show Gs p e below _ T12 m 26 #[rv a, rv aC, iv (0 : Int32), iv (0 : Int32), .val .null, .unset] []
  refine Goes.retV X12 hx hret (hb hby dj42_149_26) (lvV X12 hlk hS (by rw [e12]; exact hk) (fun _ => rfl) ?_ (by decide) (by decide))
  rw [e12]
  exact ⟨rfl, N12, KK15⟩
theorem ef_Ic0 (m : MethodId) (x0 : Addr) (x1 : Addr) : entryFrame m #[(.ref x0), (.ref x1)] 2 = mkF m 0 #[rv x0, rv x1] [] := by first | (simp [entryFrame, mkF, argsToLocals, Value.category]; done) | rfl
def QIc0 (Z : State) (a : Addr) (aC : Addr) (kC : ClassId) (h0 : Heap) (n0 : Nat) (v : Option Value) (h : Heap) (L : List Loc) : Prop := v = none ∧ Fr n0 L ∧ Keep h0 h [a]
set_option maxRecDepth 65536 in
set_option maxHeartbeats 40000000 in
theorem rmIc0 (l : Launch) (Z : State) (a0 : Array Value) (hw : ∀ d ∈ tables_1, d.before a0 Z = true) (ws : List Jvm.Cond) (a : Addr) (aC : Addr) (kC : ClassId) (h0 : Heap) (n0 : Nat) (Z0 : n0 ≤ h0.size) (Ea : Exa Z h0 a "java/lang/String") (ga : n0 ≤ a) (Fv : Fld Z h0 a "java/lang/String" "value" "[B" .null) (Fc : Fld Z h0 a "java/lang/String" "coder" "B" (.int (0 : Int32))) (VC : Arv Z h0 aC kC .char (0 : Int32) [] (.int (0 : Int32))) :
    MetFree l mN9 (head1 (Jvm.Cond.code mN9 jdk_42_method_3_code 2 none :: ws) ({ frames := 2, cells := 2, slots := 4, locals := 29 } : Room)) (fun aa U => aa = #[(.ref a), (.ref aC)] ∧ Z.Warmed39 U.vm ∧ U.heap = h0 ∧ CHv Z ELs U.vm h0) (fun _ _ _ _ _ => True) (fun _ u1_ o_ u2_ => ∃ v_ l_, o_ = .returned v_ ∧ QIc0 Z a aC kC h0 n0 v_ u2_.heap l_ ∧ ReturnedEndW u1_ o_ u2_ l_ ({ frames := 2, cells := 2, slots := 4, locals := 29 } : Room).cells ({ frames := 2, cells := 2, slots := 4, locals := 29 } : Room).slots) := by
  refine MetFree.of_bodySF (plainFor_of_name pn_java_lang_String) hisR ?_
  intro p e s m args below meth c s₁ Bd hml0 hP hK
  obtain ⟨rfl, hZ, hh, hH⟩ := hP
  have hx := Bd.exec
  have hby := Bd.bytes
  have hlk := BodyLoose.notSynchronized Bd
  have hret := Bd.returns
  have hml : c.maxLocals = 2 := hml0
  have hown : s.vm.findClass "java/lang/String" = some m.cls := findClass_of_methodNamed Bd.named
  have hnm := (name_of_methodNamed Bd.named Bd.method).1
  have X0 : Stand p l e ({ frames := 2, cells := 2, slots := 4, locals := 29 } : Room) (s.setVm s.vm) m #[(.ref a), (.ref aC)] below meth c s₁ [] 0 0 := Stand.of_body Bd
  have hS := (State.WarmedH.refl s).since 0
  have hk : 0 ≤ h0.size := Nat.zero_le _
  have e0 : s₁.heap = h0 := by rw [← hh, Bd.state]; rfl
  have N0 := Fr.nil n0
  refine Goes.st (E := (EV s (QIc0 Z a aC kC h0 n0) ({ frames := 2, cells := 2, slots := 4, locals := 29 } : Room).cells ({ frames := 2, cells := 2, slots := 4, locals := 29 } : Room).slots)) (fun tg kg => castTop (ef_Ic0 m a aC) kg) ?_
  have K0 : Keep h0 h0 [a] := Keep.refl _ _
  show Gs p e below _ s₁ m 0 #[rv a, rv aC] []
  refine galoadN X0 hx (hb hby dj42_3_0) rfl rfl ?_
  refine galoadN X0 hx (hb hby dj42_3_1) rfl rfl ?_
  refine giconst X0 hx (hb hby dj42_3_2) ?_
  refine galoadN X0 hx (hb hby dj42_3_3) rfl rfl ?_
  show Gs p e below _ s₁ m 4 #[rv a, rv aC] [(.ref aC), (.int (0 : Int32)), (.ref aC), (.ref a)]
  obtain ⟨cl1, Ar1, qk1, Sz1, qz1, Ha1, Gf1⟩ := id VC
  refine Goes.st (fun tg kg => X0.arraylength hx (cell := cl1) (by rw [e0]; exact Ar1.1) (State.isArrayOf_alike hZ.alike Ar1.2.1) (g := (mkF m 4 #[rv a, rv aC] [(.ref aC), (.int (0 : Int32)), (.ref aC), (.ref a)])) rfl (rest := [(.int (0 : Int32)), (.ref aC), (.ref a)]) rfl (hb hby dj42_3_4) tg kg) ?_
  rw [len_of Sz1 qz1]
  show Gs p e below _ s₁ m 5 #[rv a, rv aC] [(.int (0 : Int32)), (.int (0 : Int32)), (.ref aC), (.ref a)]
  refine Goes.st (fun tg kg => XS.aconstNull X0.here hx rfl (hb hby dj42_3_5) kg) ?_
  obtain ⟨_, _, ⟨T2, L2, k2, n2⟩, -, X2, hS2, hg2, ⟨Lc2, hQ2, l2, y2, z2⟩, st2⟩ := X0.specialBackS hx (y := mN8) rfl hown (mvT hZ (hwk hw 11 rfl)) (mvT hZ (hwk hw 12 rfl)) (mvT hZ (hwk hw 14 rfl)) (by decide) (backOfSI (W := 0) (rmIv0 l Z a0 hw [] a aC kC h0 n0 Z0 Ea ga Fv Fc) hZ (hwk hw 14 rfl) (hwk hw 6 rfl) (by decide) (by decide) (hELs hw) hH) (g := (mkF m 6 #[rv a, rv aC] [.null, (.int (0 : Int32)), (.int (0 : Int32)), (.ref aC), (.ref a)])) rfl (by rw [hml]; rfl) (Steps.refl _) (a := a) (argsL := [(.ref aC), (.int (0 : Int32)), (.int (0 : Int32)), .null]) (rest := []) (lenOf pd___CIILjava_lang_Void__V_897f rfl) rfl (by show 2 * 0 + _ ≤ _; exact Nat.le_of_eq rfl) (hb hby dj42_3_6) (fun _ _ => ⟨rfl, e0, (by decide : 0 + 2 ≤ 2), (by decide : 0 + 4 ≤ 4)⟩)
  dsimp only [Pt.U, Pt.locs, Pt.cells, Pt.slots] at X2 l2 y2 z2 st2 hQ2 hS2 hg2
  subst l2 y2 z2
  obtain ⟨X2, hS, hZ, hown⟩ := rebS hS (by rw [e0]; exact hk) X2 hS2 hg2 hZ hown
  have hk := Nat.le_refl T2.heap.size
  obtain ⟨rfl, N2q, K2⟩ := hQ2
  have KK3 := K0.trans K2 (allS (Or.inl (List.mem_of_getElem? (i := 0) rfl)) all0)
  have Z2 : n0 ≤ T2.heap.size := Nat.le_trans Z0 K2.1
  have N2 := Fr.app N0 N2q
  refine Goes.sts st2 ?_
  show Gs p e below _ T2 m 9 #[rv a, rv aC] []
  refine Goes.retV X2 hx hret (hb hby dj42_3_9) (lvV X2 hlk hS hk (fun _ => rfl) ?_ (by decide) (by decide))
  exact ⟨rfl, N2, KK3⟩
theorem own_and3 (x : Int32) : x &&& 3 = 0 ∨ x &&& 3 = 1 ∨ x &&& 3 = 2 ∨ x &&& 3 = 3 := by
  have h := c_mask x 3 2 (by decide) (by decide)
  have h4 : (x &&& 3).toInt = 0 ∨ (x &&& 3).toInt = 1 ∨ (x &&& 3).toInt = 2 ∨ (x &&& 3).toInt = 3 := by
    rw [h]; have := Int.emod_nonneg x.toInt (b := ((2 ^ 2 : Nat) : Int)) (by decide); have := Int.emod_lt_of_pos x.toInt (b := ((2 ^ 2 : Nat) : Int)) (by decide)
    have e : ((2 ^ 2 : Nat) : Int) = 4 := by decide
    omega
  rcases h4 with q | q | q | q
  · exact Or.inl (Int32.toInt_inj.mp q)
  · exact Or.inr (Or.inl (Int32.toInt_inj.mp q))
  · exact Or.inr (Or.inr (Or.inl (Int32.toInt_inj.mp q)))
  · exact Or.inr (Or.inr (Or.inr (Int32.toInt_inj.mp q)))
theorem dmethod_2_0 : decode method_2_code 0 = .ok (.iload_n 0, 1) := by decide +kernel
theorem dmethod_2_1 : decode method_2_code 1 = .ok (.iconst 3, 1) := by decide +kernel
theorem dmethod_2_2 : decode method_2_code 2 = .ok (.iand, 1) := by decide +kernel
theorem dmethod_2_3 : decode method_2_code 3 = .ok (.istore 4, 2) := by decide +kernel
theorem dmethod_2_5 : decode method_2_code 5 = .ok (.iload 4, 2) := by decide +kernel
theorem dmethod_2_7 : decode method_2_code 7 = .ok (.ifCond .ne 14, 3) := by decide +kernel
theorem dmethod_2_10 : decode method_2_code 10 = .ok (.new 7, 3) := by decide +kernel
theorem dmethod_2_13 : decode method_2_code 13 = .ok (.dup, 1) := by decide +kernel
theorem dmethod_2_14 : decode method_2_code 14 = .ok (.iconst 0, 1) := by decide +kernel
theorem dmethod_2_15 : decode method_2_code 15 = .ok (.newarray .char, 2) := by decide +kernel
theorem dmethod_2_17 : decode method_2_code 17 = .ok (.invokespecial 9, 3) := by decide +kernel
theorem dmethod_2_20 : decode method_2_code 20 = .ok (.areturn, 1) := by decide +kernel
theorem dmethod_2_21 : decode method_2_code 21 = .ok (.iload 4, 2) := by decide +kernel
theorem dmethod_2_23 : decode method_2_code 23 = .ok (.iconst 1, 1) := by decide +kernel
theorem dmethod_2_24 : decode method_2_code 24 = .ok (.if_icmp .ne 19, 3) := by decide +kernel
theorem dmethod_2_27 : decode method_2_code 27 = .ok (.new 7, 3) := by decide +kernel
theorem dmethod_2_30 : decode method_2_code 30 = .ok (.dup, 1) := by decide +kernel
theorem dmethod_2_31 : decode method_2_code 31 = .ok (.iconst 1, 1) := by decide +kernel
theorem dmethod_2_32 : decode method_2_code 32 = .ok (.newarray .char, 2) := by decide +kernel
theorem dmethod_2_34 : decode method_2_code 34 = .ok (.dup, 1) := by decide +kernel
theorem dmethod_2_35 : decode method_2_code 35 = .ok (.iconst 0, 1) := by decide +kernel
theorem dmethod_2_36 : decode method_2_code 36 = .ok (.iload_n 1, 1) := by decide +kernel
theorem dmethod_2_37 : decode method_2_code 37 = .ok (.i2c, 1) := by decide +kernel
theorem dmethod_2_38 : decode method_2_code 38 = .ok (.castore, 1) := by decide +kernel
theorem dmethod_2_39 : decode method_2_code 39 = .ok (.invokespecial 9, 3) := by decide +kernel
theorem dmethod_2_42 : decode method_2_code 42 = .ok (.areturn, 1) := by decide +kernel
theorem dmethod_2_43 : decode method_2_code 43 = .ok (.iload 4, 2) := by decide +kernel
theorem dmethod_2_45 : decode method_2_code 45 = .ok (.iconst 2, 1) := by decide +kernel
theorem dmethod_2_46 : decode method_2_code 46 = .ok (.if_icmp .ne 24, 3) := by decide +kernel
theorem dmethod_2_49 : decode method_2_code 49 = .ok (.new 7, 3) := by decide +kernel
theorem dmethod_2_52 : decode method_2_code 52 = .ok (.dup, 1) := by decide +kernel
theorem dmethod_2_53 : decode method_2_code 53 = .ok (.iconst 2, 1) := by decide +kernel
theorem dmethod_2_54 : decode method_2_code 54 = .ok (.newarray .char, 2) := by decide +kernel
theorem dmethod_2_56 : decode method_2_code 56 = .ok (.dup, 1) := by decide +kernel
theorem dmethod_2_57 : decode method_2_code 57 = .ok (.iconst 0, 1) := by decide +kernel
theorem dmethod_2_58 : decode method_2_code 58 = .ok (.iload_n 1, 1) := by decide +kernel
theorem dmethod_2_59 : decode method_2_code 59 = .ok (.i2c, 1) := by decide +kernel
theorem dmethod_2_60 : decode method_2_code 60 = .ok (.castore, 1) := by decide +kernel
theorem dmethod_2_61 : decode method_2_code 61 = .ok (.dup, 1) := by decide +kernel
theorem dmethod_2_62 : decode method_2_code 62 = .ok (.iconst 1, 1) := by decide +kernel
theorem dmethod_2_63 : decode method_2_code 63 = .ok (.iload_n 2, 1) := by decide +kernel
theorem dmethod_2_64 : decode method_2_code 64 = .ok (.i2c, 1) := by decide +kernel
theorem dmethod_2_65 : decode method_2_code 65 = .ok (.castore, 1) := by decide +kernel
theorem dmethod_2_66 : decode method_2_code 66 = .ok (.invokespecial 9, 3) := by decide +kernel
theorem dmethod_2_69 : decode method_2_code 69 = .ok (.areturn, 1) := by decide +kernel
theorem dmethod_2_70 : decode method_2_code 70 = .ok (.new 7, 3) := by decide +kernel
theorem dmethod_2_73 : decode method_2_code 73 = .ok (.dup, 1) := by decide +kernel
theorem dmethod_2_74 : decode method_2_code 74 = .ok (.iconst 3, 1) := by decide +kernel
theorem dmethod_2_75 : decode method_2_code 75 = .ok (.newarray .char, 2) := by decide +kernel
theorem dmethod_2_77 : decode method_2_code 77 = .ok (.dup, 1) := by decide +kernel
theorem dmethod_2_78 : decode method_2_code 78 = .ok (.iconst 0, 1) := by decide +kernel
theorem dmethod_2_79 : decode method_2_code 79 = .ok (.iload_n 1, 1) := by decide +kernel
theorem dmethod_2_80 : decode method_2_code 80 = .ok (.i2c, 1) := by decide +kernel
theorem dmethod_2_81 : decode method_2_code 81 = .ok (.castore, 1) := by decide +kernel
theorem dmethod_2_82 : decode method_2_code 82 = .ok (.dup, 1) := by decide +kernel
theorem dmethod_2_83 : decode method_2_code 83 = .ok (.iconst 1, 1) := by decide +kernel
theorem dmethod_2_84 : decode method_2_code 84 = .ok (.iload_n 2, 1) := by decide +kernel
theorem dmethod_2_85 : decode method_2_code 85 = .ok (.i2c, 1) := by decide +kernel
theorem dmethod_2_86 : decode method_2_code 86 = .ok (.castore, 1) := by decide +kernel
theorem dmethod_2_87 : decode method_2_code 87 = .ok (.dup, 1) := by decide +kernel
theorem dmethod_2_88 : decode method_2_code 88 = .ok (.iconst 2, 1) := by decide +kernel
theorem dmethod_2_89 : decode method_2_code 89 = .ok (.iload_n 3, 1) := by decide +kernel
theorem dmethod_2_90 : decode method_2_code 90 = .ok (.i2c, 1) := by decide +kernel
theorem dmethod_2_91 : decode method_2_code 91 = .ok (.castore, 1) := by decide +kernel
theorem dmethod_2_92 : decode method_2_code 92 = .ok (.invokespecial 9, 3) := by decide +kernel
theorem dmethod_2_95 : decode method_2_code 95 = .ok (.areturn, 1) := by decide +kernel
theorem pn_lucerna_ontology_RoleInversePinLaw : plainName "lucerna/ontology/RoleInversePinLaw" = true := by first | (simp [plainName, overriddenIn]; done) | decide +kernel
theorem pd___C_V_b97 : parseMethodDescriptor "([C)V" = some ⟨[(.array .char)], none⟩ := by decide +kernel
theorem ef_Dr (m : MethodId) (x0 : Int32) (x1 : Int32) (x2 : Int32) (x3 : Int32) : entryFrame m #[(.int x0), (.int x1), (.int x2), (.int x3)] 5 = mkF m 0 #[iv x0, iv x1, iv x2, iv x3, .unset] [] := by first | (simp [entryFrame, mkF, argsToLocals, Value.category]; done) | rfl
def QDr (Z : State) (q1 q2 q3 q4 cs : Int32) (h0 : Heap) (n0 : Nat) (v : Option Value) (h : Heap) (L : List Loc) : Prop := ∃ (b : Addr), v = some (.ref b) ∧ Fr n0 L ∧ Keep h0 h [] ∧ h0.size ≤ b ∧ n0 ≤ b ∧ Exa Z h b "java/lang/String"
set_option maxRecDepth 65536 in
set_option maxHeartbeats 40000000 in
theorem rmDr (l : Launch) (Z : State) (a0 : Array Value) (hw : ∀ d ∈ tables_1, d.before a0 Z = true) (ws : List Jvm.Cond) (q1 q2 q3 q4 cs : Int32) (h0 : Heap) (n0 : Nat) (Z0 : n0 ≤ h0.size) (Scs : Sta Z h0 "java/lang/String" "COMPACT_STRINGS" "Z" (.int cs)) (hcs : ¬ cs = (0 : Int32)) (Sd : Sta Z h0 "java/lang/StringUTF16" "$assertionsDisabled" "Z" (.int (1 : Int32))) (Sh : Sta Z h0 "java/lang/StringUTF16" "HI_BYTE_SHIFT" "I" (.int (0 : Int32))) (Sl : Sta Z h0 "java/lang/StringUTF16" "LO_BYTE_SHIFT" "I" (.int (8 : Int32))) :
    MetFree l mN10 (head1 (Jvm.Cond.code mN10 method_2_code 5 (some (.object "java/lang/String")) :: ws) ({ frames := 6, cells := 4, slots := 16, locals := 88 } : Room)) (fun aa U => aa = #[(.int q1), (.int q2), (.int q3), (.int q4)] ∧ Z.Warmed39 U.vm ∧ U.heap = h0 ∧ CHv Z ELs U.vm h0) (fun _ _ _ _ _ => True) (fun _ u1_ o_ u2_ => ∃ v_ l_, o_ = .returned v_ ∧ QDr Z q1 q2 q3 q4 cs h0 n0 v_ u2_.heap l_ ∧ ReturnedEndW u1_ o_ u2_ l_ ({ frames := 6, cells := 4, slots := 16, locals := 88 } : Room).cells ({ frames := 6, cells := 4, slots := 16, locals := 88 } : Room).slots) := by
  refine MetFree.of_bodySF (plainFor_of_name pn_lucerna_ontology_RoleInversePinLaw) hisR ?_
  intro p e s m args below meth c s₁ Bd hml0 hP hK
  obtain ⟨rfl, hZ, hh, hH⟩ := hP
  have hx := Bd.exec
  have hby := Bd.bytes
  have hlk := BodyLoose.notSynchronized Bd
  have hret := Bd.returns
  have hml : c.maxLocals = 5 := hml0
  have hown : s.vm.findClass "lucerna/ontology/RoleInversePinLaw" = some m.cls := findClass_of_methodNamed Bd.named
  have hnm := (name_of_methodNamed Bd.named Bd.method).1
  have X0 : Stand p l e ({ frames := 6, cells := 4, slots := 16, locals := 88 } : Room) (s.setVm s.vm) m #[(.int q1), (.int q2), (.int q3), (.int q4)] below meth c s₁ [] 0 0 := Stand.of_body Bd
  have hS := (State.WarmedH.refl s).since 0
  have hk : 0 ≤ h0.size := Nat.zero_le _
  have e0 : s₁.heap = h0 := by rw [← hh, Bd.state]; rfl
  have N0 := Fr.nil n0
  refine Goes.st (E := (EV s (QDr Z q1 q2 q3 q4 cs h0 n0) ({ frames := 6, cells := 4, slots := 16, locals := 88 } : Room).cells ({ frames := 6, cells := 4, slots := 16, locals := 88 } : Room).slots)) (fun tg kg => castTop (ef_Dr m q1 q2 q3 q4) kg) ?_
  have K0 : Keep h0 h0 [] := Keep.refl _ _
  show Gs p e below _ s₁ m 0 #[iv q1, iv q2, iv q3, iv q4, .unset] []
  refine giloadN X0 hx (hb hby dmethod_2_0) rfl ?_
  refine giconst X0 hx (hb hby dmethod_2_1) ?_
  refine giand X0 hx (hb hby dmethod_2_2) trivial ?_
  show Gs p e below _ s₁ m 3 #[iv q1, iv q2, iv q3, iv q4, .unset] [(.int (q1 &&& (3 : Int32)))]
  rcases own_and3 q1 with hn | hn | hn | hn
  · rw [hn]
    show Gs p e below _ s₁ m 3 #[iv q1, iv q2, iv q3, iv q4, .unset] [(.int (0 : Int32))]
    refine gistore X0 hx (hb hby dmethod_2_3) trivial (l' := #[iv q1, iv q2, iv q3, iv q4, iv (0 : Int32)]) rfl ?_
    refine giload X0 hx (hb hby dmethod_2_5) rfl ?_
    show Gs p e below _ s₁ m 7 #[iv q1, iv q2, iv q3, iv q4, iv (0 : Int32)] [(.int (0 : Int32))]
    refine gifNo X0 hx (hb hby dmethod_2_7) (by decide) ?_
    show Gs p e below _ s₁ m 10 #[iv q1, iv q2, iv q3, iv q4, iv (0 : Int32)] []
    obtain ⟨T1, h1, X1, e1, E1, A1, D1, -, st1⟩ := newO X0 hx hZ hown (hwk hw 4 rfl) (hwk hw 5 rfl) (hwk hw 6 rfl) e0 (g := (mkF m 10 #[iv q1, iv q2, iv q3, iv q4, iv (0 : Int32)] [])) rfl (hb hby dmethod_2_10) (by decide) (by decide)
    obtain ⟨b1, g1⟩ : ∃ z, z = h0.size := ⟨_, rfl⟩
    rw [← g1] at A1 D1 st1
    have lo_b1 : n0 ≤ b1 := by have := Z0; omega
    have sz_b1 : h0.size ≤ b1 := by have := K0.1; omega
    refine Goes.st st1 ?_
    have hk := Nat.le_trans hk E1.1
    have hH := hH.ext E1
    have KK2 := K0.ext E1
    have Z1 : n0 ≤ h1.size := Nat.le_trans Z0 E1.1
    have F1_coder : Fld Z h1 b1 "java/lang/String" "coder" "B" (.int (0 : Int32)) := D1 (Or.inr (hwk hw 31 rfl)) (ty := .byte) (by decide)
    have F1_value : Fld Z h1 b1 "java/lang/String" "value" "[B" .null := D1 (Or.inr (hwk hw 33 rfl)) (ty := (.array .byte)) (by decide)
    show Gs p e below _ T1 m 13 #[iv q1, iv q2, iv q3, iv q4, iv (0 : Int32)] [(.ref b1)]
    refine gdup X1 hx (hb hby dmethod_2_13) trivial rfl ?_
    refine giconst X1 hx (hb hby dmethod_2_14) ?_
    obtain ⟨T3, h3, cA3, X3, e3, E3, A3, st3⟩ := newP X1 hx hZ (hwk hw 7 rfl) e1 (g := (mkF m 15 #[iv q1, iv q2, iv q3, iv q4, iv (0 : Int32)] [(.int (0 : Int32)), (.ref b1), (.ref b1)])) rfl (hb hby dmethod_2_15) rfl (by decide) (cap := 0) (by decide) (by decide) (by decide) (by decide)
    obtain ⟨b3, g3⟩ : ∃ z, z = h1.size := ⟨_, rfl⟩
    rw [← g3] at A3 st3
    have ne_b1_b3 : b1 ≠ b3 := Nat.ne_of_lt (Nat.lt_of_lt_of_le A1.lt (Nat.le_of_eq g3.symm))
    have lo_b3 : n0 ≤ b3 := by have := Z1; omega
    have sz_b3 : h0.size ≤ b3 := by have := KK2.1; omega
    have hk := Nat.le_trans hk E3.1
    have hH := hH.ext E3
    have KK4 := KK2.ext E3
    have V3 : Arv Z h3 b3 cA3 .char (0 : Int32) [] (.int (0 : Int32)) := (Arv.new A3 (by decide)).pad (pad_rep [] _ 0)
    refine Goes.st st3 ?_
    have Z3 : n0 ≤ h3.size := Nat.le_trans Z1 E3.1
    show Gs p e below _ T3 m 17 #[iv q1, iv q2, iv q3, iv q4, iv (0 : Int32)] [(.ref b3), (.ref b1), (.ref b1)]
    have f5 := (A1.ext E3)
    have f6 := (F1_value.ext E3)
    have f7 := (F1_coder.ext E3)
    obtain ⟨_, _, ⟨T8, L8, k8, n8⟩, -, X8, hS8, hg8, ⟨Lc8, hQ8, l8, y8, z8⟩, st8⟩ := X3.specialBackS hx (y := mN9) rfl hown (mvT hZ (hwk hw 8 rfl)) (mvT hZ (hwk hw 9 rfl)) (mvT hZ (hwk hw 10 rfl)) (by decide) (backOfSI (W := 1) (rmIc0 l Z a0 hw [] b1 b3 cA3 h3 n0 Z3 f5 lo_b1 f6 f7 V3) hZ (hwk hw 10 rfl) (hwk hw 6 rfl) (by decide) (by decide) (hELs hw) hH) (g := (mkF m 17 #[iv q1, iv q2, iv q3, iv q4, iv (0 : Int32)] [(.ref b3), (.ref b1), (.ref b1)])) rfl (by rw [hml]; rfl) (Steps.refl _) (a := b1) (argsL := [(.ref b3)]) (rest := [(.ref b1)]) (lenOf pd___C_V_b97 rfl) rfl (by show 2 * 0 + _ ≤ _; exact Nat.le_of_eq rfl) (hb hby dmethod_2_17) (fun _ _ => ⟨rfl, e3, (by decide : 2 + 2 ≤ 4), (by decide : 4 + 4 ≤ 16)⟩)
    dsimp only [Pt.U, Pt.locs, Pt.cells, Pt.slots] at X8 l8 y8 z8 st8 hQ8 hS8 hg8
    subst l8 y8 z8
    obtain ⟨X8, hS, hZ, hown⟩ := rebS hS (by rw [e3]; exact hk) X8 hS8 hg8 hZ hown
    have hk := Nat.le_refl T8.heap.size
    obtain ⟨rfl, N8q, K8⟩ := hQ8
    have KK9 := KK4.trans K8 (allS (Or.inr sz_b1) all0)
    have Z8 : n0 ≤ T8.heap.size := Nat.le_trans Z3 K8.1
    have N8 := Fr.app N0 N8q
    refine Goes.sts st8 ?_
    show Gs p e below _ T8 m 20 #[iv q1, iv q2, iv q3, iv q4, iv (0 : Int32)] [(.ref b1)]
    have f10 := (f5.keep K8)
    refine Goes.retA X8 hx hret rfl rfl rfl (hb hby dmethod_2_20) (lvV X8 hlk hS hk (vsome hret) ?_ (by decide) (by decide))
    exact ⟨b1, rfl, N8, KK9, sz_b1, lo_b1, f10⟩
  · rw [hn]
    show Gs p e below _ s₁ m 3 #[iv q1, iv q2, iv q3, iv q4, .unset] [(.int (1 : Int32))]
    refine gistore X0 hx (hb hby dmethod_2_3) trivial (l' := #[iv q1, iv q2, iv q3, iv q4, iv (1 : Int32)]) rfl ?_
    refine giload X0 hx (hb hby dmethod_2_5) rfl ?_
    show Gs p e below _ s₁ m 7 #[iv q1, iv q2, iv q3, iv q4, iv (1 : Int32)] [(.int (1 : Int32))]
    refine gifYes X0 hx (pc' := 21) (hb hby dmethod_2_7) (by decide) (by decide) (by decide) ?_
    show Gs p e below _ s₁ m 21 #[iv q1, iv q2, iv q3, iv q4, iv (1 : Int32)] []
    refine giload X0 hx (hb hby dmethod_2_21) rfl ?_
    refine giconst X0 hx (hb hby dmethod_2_23) ?_
    show Gs p e below _ s₁ m 24 #[iv q1, iv q2, iv q3, iv q4, iv (1 : Int32)] [(.int (1 : Int32)), (.int (1 : Int32))]
    refine gicmpNo X0 hx (hb hby dmethod_2_24) (by decide) ?_
    show Gs p e below _ s₁ m 27 #[iv q1, iv q2, iv q3, iv q4, iv (1 : Int32)] []
    obtain ⟨T11, h11, X11, e11, E11, A11, D11, -, st11⟩ := newO X0 hx hZ hown (hwk hw 4 rfl) (hwk hw 5 rfl) (hwk hw 6 rfl) e0 (g := (mkF m 27 #[iv q1, iv q2, iv q3, iv q4, iv (1 : Int32)] [])) rfl (hb hby dmethod_2_27) (by decide) (by decide)
    obtain ⟨b11, g11⟩ : ∃ z, z = h0.size := ⟨_, rfl⟩
    rw [← g11] at A11 D11 st11
    have lo_b11 : n0 ≤ b11 := by have := Z0; omega
    have sz_b11 : h0.size ≤ b11 := by have := K0.1; omega
    refine Goes.st st11 ?_
    have hk := Nat.le_trans hk E11.1
    have hH := hH.ext E11
    have KK12 := K0.ext E11
    have Z11 : n0 ≤ h11.size := Nat.le_trans Z0 E11.1
    have F11_coder : Fld Z h11 b11 "java/lang/String" "coder" "B" (.int (0 : Int32)) := D11 (Or.inr (hwk hw 31 rfl)) (ty := .byte) (by decide)
    have F11_value : Fld Z h11 b11 "java/lang/String" "value" "[B" .null := D11 (Or.inr (hwk hw 33 rfl)) (ty := (.array .byte)) (by decide)
    show Gs p e below _ T11 m 30 #[iv q1, iv q2, iv q3, iv q4, iv (1 : Int32)] [(.ref b11)]
    refine gdup X11 hx (hb hby dmethod_2_30) trivial rfl ?_
    refine giconst X11 hx (hb hby dmethod_2_31) ?_
    obtain ⟨T13, h13, cA13, X13, e13, E13, A13, st13⟩ := newP X11 hx hZ (hwk hw 7 rfl) e11 (g := (mkF m 32 #[iv q1, iv q2, iv q3, iv q4, iv (1 : Int32)] [(.int (1 : Int32)), (.ref b11), (.ref b11)])) rfl (hb hby dmethod_2_32) rfl (by decide) (cap := 1) (by decide) (by decide) (by decide) (by decide)
    obtain ⟨b13, g13⟩ : ∃ z, z = h11.size := ⟨_, rfl⟩
    rw [← g13] at A13 st13
    have ne_b11_b13 : b11 ≠ b13 := Nat.ne_of_lt (Nat.lt_of_lt_of_le A11.lt (Nat.le_of_eq g13.symm))
    have lo_b13 : n0 ≤ b13 := by have := Z11; omega
    have sz_b13 : h0.size ≤ b13 := by have := KK12.1; omega
    have hk := Nat.le_trans hk E13.1
    have hH := hH.ext E13
    have KK14 := KK12.ext E13
    have V13 : Arv Z h13 b13 cA13 .char (1 : Int32) [(.int (0 : Int32))] (.int (0 : Int32)) := (Arv.new A13 (by decide)).pad (pad_rep [] _ 1)
    refine Goes.st st13 ?_
    have Z13 : n0 ≤ h13.size := Nat.le_trans Z11 E13.1
    show Gs p e below _ T13 m 34 #[iv q1, iv q2, iv q3, iv q4, iv (1 : Int32)] [(.ref b13), (.ref b11), (.ref b11)]
    refine gdup X13 hx (hb hby dmethod_2_34) trivial rfl ?_
    refine giconst X13 hx (hb hby dmethod_2_35) ?_
    refine giloadN X13 hx (hb hby dmethod_2_36) rfl ?_
    show Gs p e below _ T13 m 37 #[iv q1, iv q2, iv q3, iv q4, iv (1 : Int32)] [(.int q2), (.int (0 : Int32)), (.ref b13), (.ref b13), (.ref b11), (.ref b11)]
    refine Goes.st (fun tg kg => XT.i2c X13.here hx rfl (hb hby dmethod_2_37) rfl kg) ?_
    show Gs p e below _ T13 m 38 #[iv q1, iv q2, iv q3, iv q4, iv (1 : Int32)] [(.int (q2).toUInt32.toUInt16.toUInt32.toInt32), (.int (0 : Int32)), (.ref b13), (.ref b13), (.ref b11), (.ref b11)]
    obtain ⟨cl15, Ar15, qk15, Sz15, qz15, Ha15, Gf15⟩ := id V13
    obtain ⟨T15, h15, X15, e15, W15, st15⟩ := stC X13 hx hZ e13 Ar15 (inb_of Sz15 ⟨by decide, by decide⟩) (g := (mkF m 38 #[iv q1, iv q2, iv q3, iv q4, iv (1 : Int32)] [(.int (q2).toUInt32.toUInt16.toUInt32.toInt32), (.int (0 : Int32)), (.ref b13), (.ref b13), (.ref b11), (.ref b11)])) rfl rfl (hb hby dmethod_2_38)
    have N15 := Fr.snoc X15 N0 lo_b13
    have V15 : Arv Z h15 b13 cA13 .char (1 : Int32) [(.int (nar .char (q2).toUInt32.toUInt16.toUInt32.toInt32))] (.int (0 : Int32)) := Arv.set Ar15 qk15 Sz15 qz15 Ha15 Gf15 (fits_nar_char _) W15 0 (by decide) (by simp)
    refine Goes.st st15 ?_
    have hk := Nat.le_trans hk (Nat.le_of_eq W15.size.symm)
    have KK16 := KK14.wr W15 (Or.inr sz_b13)
    have Z15 : n0 ≤ h15.size := by have := W15.size; have := Z13; omega
    show Gs p e below _ T15 m 39 #[iv q1, iv q2, iv q3, iv q4, iv (1 : Int32)] [(.ref b13), (.ref b11), (.ref b11)]
    by_cases c17 : (255 : Int32) < (nar .char (q2).toUInt32.toUInt16.toUInt32.toInt32)
    · have f18 := ((A11.ext E13).wr W15)
      have f19 := ((F11_value.ext E13).other W15 (Or.inl ne_b11_b13))
      have f20 := ((F11_coder.ext E13).other W15 (Or.inl ne_b11_b13))
      have f21 := (((Scs.ext E11).ext E13).wr W15)
      have f22 := (((Sd.ext E11).ext E13).wr W15)
      have f23 := (((Sh.ext E11).ext E13).wr W15)
      have f24 := (((Sl.ext E11).ext E13).wr W15)
      obtain ⟨_, _, ⟨T25, L25, k25, n25⟩, -, X25, ⟨Lc25, hQ25, l25, y25, z25⟩, st25⟩ := X15.specialBack hx (y := mN9) rfl hown (mvT hZ (hwk hw 8 rfl)) (mvT hZ (hwk hw 9 rfl)) (mvT hZ (hwk hw 10 rfl)) (by decide) (backOf (W := 1) (rmIc10 l Z a0 hw [] b11 cs b13 cA13 (nar .char (q2).toUInt32.toUInt16.toUInt32.toInt32) h15 n0 Z15 f21 hcs f22 f23 f24 f18 lo_b11 f19 f20 V15 ne_b11_b13 c17 (own_rng _)) hZ (hwk hw 10 rfl) (hwk hw 6 rfl) (by decide) (by decide)) (g := (mkF m 39 #[iv q1, iv q2, iv q3, iv q4, iv (1 : Int32)] [(.ref b13), (.ref b11), (.ref b11)])) rfl (by rw [hml]; rfl) (Steps.refl _) (a := b11) (argsL := [(.ref b13)]) (rest := [(.ref b11)]) (lenOf pd___C_V_b97 rfl) rfl (by show 2 * 0 + _ ≤ _; exact Nat.le_of_eq rfl) (hb hby dmethod_2_39) (fun _ _ => ⟨rfl, e15, (by decide : 2 + 2 ≤ 4), (by decide : 5 + 3 ≤ 16)⟩)
      dsimp only [Pt.U, Pt.locs, Pt.cells, Pt.slots] at X25 l25 y25 z25 st25 hQ25
      subst l25 y25 z25
      obtain ⟨rfl, N25q, K25⟩ := hQ25
      have hk := Nat.le_trans hk K25.1
      have KK26 := KK16.trans K25 (allS (Or.inr sz_b11) all0)
      have Z25 : n0 ≤ T25.heap.size := Nat.le_trans Z15 K25.1
      have N25 := Fr.app N15 N25q
      refine Goes.sts st25 ?_
      show Gs p e below _ T25 m 42 #[iv q1, iv q2, iv q3, iv q4, iv (1 : Int32)] [(.ref b11)]
      have f27 := (f18.keep K25)
      refine Goes.retA X25 hx hret rfl rfl rfl (hb hby dmethod_2_42) (lvV X25 hlk hS hk (vsome hret) ?_ (by decide) (by decide))
      exact ⟨b11, rfl, N25, KK26, sz_b11, lo_b11, f27⟩
    · have f28 := ((A11.ext E13).wr W15)
      have f29 := ((F11_value.ext E13).other W15 (Or.inl ne_b11_b13))
      have f30 := ((F11_coder.ext E13).other W15 (Or.inl ne_b11_b13))
      have f31 := (((Scs.ext E11).ext E13).wr W15)
      have f32 := (((Sd.ext E11).ext E13).wr W15)
      have f33 := (((Sh.ext E11).ext E13).wr W15)
      have f34 := (((Sl.ext E11).ext E13).wr W15)
      obtain ⟨_, _, ⟨T35, L35, k35, n35⟩, -, X35, ⟨Lc35, hQ35, l35, y35, z35⟩, st35⟩ := X15.specialBack hx (y := mN9) rfl hown (mvT hZ (hwk hw 8 rfl)) (mvT hZ (hwk hw 9 rfl)) (mvT hZ (hwk hw 10 rfl)) (by decide) (backOf (W := 1) (rmIc11 l Z a0 hw [] b11 cs b13 cA13 (nar .char (q2).toUInt32.toUInt16.toUInt32.toInt32) h15 n0 Z15 f31 hcs f32 f33 f34 f28 lo_b11 f29 f30 V15 ne_b11_b13 c17) hZ (hwk hw 10 rfl) (hwk hw 6 rfl) (by decide) (by decide)) (g := (mkF m 39 #[iv q1, iv q2, iv q3, iv q4, iv (1 : Int32)] [(.ref b13), (.ref b11), (.ref b11)])) rfl (by rw [hml]; rfl) (Steps.refl _) (a := b11) (argsL := [(.ref b13)]) (rest := [(.ref b11)]) (lenOf pd___C_V_b97 rfl) rfl (by show 2 * 0 + _ ≤ _; exact Nat.le_of_eq rfl) (hb hby dmethod_2_39) (fun _ _ => ⟨rfl, e15, (by decide : 2 + 1 ≤ 4), (by decide : 5 + 1 ≤ 16)⟩)
      dsimp only [Pt.U, Pt.locs, Pt.cells, Pt.slots] at X35 l35 y35 z35 st35 hQ35
      subst l35 y35 z35
      obtain ⟨rfl, N35q, K35⟩ := hQ35
      have hk := Nat.le_trans hk K35.1
      have KK36 := KK16.trans K35 (allS (Or.inr sz_b11) all0)
      have Z35 : n0 ≤ T35.heap.size := Nat.le_trans Z15 K35.1
      have N35 := Fr.app N15 N35q
      refine Goes.sts st35 ?_
      show Gs p e below _ T35 m 42 #[iv q1, iv q2, iv q3, iv q4, iv (1 : Int32)] [(.ref b11)]
      have f37 := (f28.keep K35)
      refine Goes.retA X35 hx hret rfl rfl rfl (hb hby dmethod_2_42) (lvV X35 hlk hS hk (vsome hret) ?_ (by decide) (by decide))
      exact ⟨b11, rfl, N35, KK36, sz_b11, lo_b11, f37⟩
  · rw [hn]
    show Gs p e below _ s₁ m 3 #[iv q1, iv q2, iv q3, iv q4, .unset] [(.int (2 : Int32))]
    refine gistore X0 hx (hb hby dmethod_2_3) trivial (l' := #[iv q1, iv q2, iv q3, iv q4, iv (2 : Int32)]) rfl ?_
    refine giload X0 hx (hb hby dmethod_2_5) rfl ?_
    show Gs p e below _ s₁ m 7 #[iv q1, iv q2, iv q3, iv q4, iv (2 : Int32)] [(.int (2 : Int32))]
    refine gifYes X0 hx (pc' := 21) (hb hby dmethod_2_7) (by decide) (by decide) (by decide) ?_
    show Gs p e below _ s₁ m 21 #[iv q1, iv q2, iv q3, iv q4, iv (2 : Int32)] []
    refine giload X0 hx (hb hby dmethod_2_21) rfl ?_
    refine giconst X0 hx (hb hby dmethod_2_23) ?_
    show Gs p e below _ s₁ m 24 #[iv q1, iv q2, iv q3, iv q4, iv (2 : Int32)] [(.int (1 : Int32)), (.int (2 : Int32))]
    refine gicmpYes X0 hx (pc' := 43) (hb hby dmethod_2_24) (by decide) (by decide) (by decide) ?_
    show Gs p e below _ s₁ m 43 #[iv q1, iv q2, iv q3, iv q4, iv (2 : Int32)] []
    refine giload X0 hx (hb hby dmethod_2_43) rfl ?_
    refine giconst X0 hx (hb hby dmethod_2_45) ?_
    show Gs p e below _ s₁ m 46 #[iv q1, iv q2, iv q3, iv q4, iv (2 : Int32)] [(.int (2 : Int32)), (.int (2 : Int32))]
    refine gicmpNo X0 hx (hb hby dmethod_2_46) (by decide) ?_
    show Gs p e below _ s₁ m 49 #[iv q1, iv q2, iv q3, iv q4, iv (2 : Int32)] []
    obtain ⟨T38, h38, X38, e38, E38, A38, D38, -, st38⟩ := newO X0 hx hZ hown (hwk hw 4 rfl) (hwk hw 5 rfl) (hwk hw 6 rfl) e0 (g := (mkF m 49 #[iv q1, iv q2, iv q3, iv q4, iv (2 : Int32)] [])) rfl (hb hby dmethod_2_49) (by decide) (by decide)
    obtain ⟨b38, g38⟩ : ∃ z, z = h0.size := ⟨_, rfl⟩
    rw [← g38] at A38 D38 st38
    have lo_b38 : n0 ≤ b38 := by have := Z0; omega
    have sz_b38 : h0.size ≤ b38 := by have := K0.1; omega
    refine Goes.st st38 ?_
    have hk := Nat.le_trans hk E38.1
    have hH := hH.ext E38
    have KK39 := K0.ext E38
    have Z38 : n0 ≤ h38.size := Nat.le_trans Z0 E38.1
    have F38_coder : Fld Z h38 b38 "java/lang/String" "coder" "B" (.int (0 : Int32)) := D38 (Or.inr (hwk hw 31 rfl)) (ty := .byte) (by decide)
    have F38_value : Fld Z h38 b38 "java/lang/String" "value" "[B" .null := D38 (Or.inr (hwk hw 33 rfl)) (ty := (.array .byte)) (by decide)
    show Gs p e below _ T38 m 52 #[iv q1, iv q2, iv q3, iv q4, iv (2 : Int32)] [(.ref b38)]
    refine gdup X38 hx (hb hby dmethod_2_52) trivial rfl ?_
    refine giconst X38 hx (hb hby dmethod_2_53) ?_
    obtain ⟨T40, h40, cA40, X40, e40, E40, A40, st40⟩ := newP X38 hx hZ (hwk hw 7 rfl) e38 (g := (mkF m 54 #[iv q1, iv q2, iv q3, iv q4, iv (2 : Int32)] [(.int (2 : Int32)), (.ref b38), (.ref b38)])) rfl (hb hby dmethod_2_54) rfl (by decide) (cap := 2) (by decide) (by decide) (by decide) (by decide)
    obtain ⟨b40, g40⟩ : ∃ z, z = h38.size := ⟨_, rfl⟩
    rw [← g40] at A40 st40
    have ne_b38_b40 : b38 ≠ b40 := Nat.ne_of_lt (Nat.lt_of_lt_of_le A38.lt (Nat.le_of_eq g40.symm))
    have lo_b40 : n0 ≤ b40 := by have := Z38; omega
    have sz_b40 : h0.size ≤ b40 := by have := KK39.1; omega
    have hk := Nat.le_trans hk E40.1
    have hH := hH.ext E40
    have KK41 := KK39.ext E40
    have V40 : Arv Z h40 b40 cA40 .char (2 : Int32) [(.int (0 : Int32)), (.int (0 : Int32))] (.int (0 : Int32)) := (Arv.new A40 (by decide)).pad (pad_rep [] _ 2)
    refine Goes.st st40 ?_
    have Z40 : n0 ≤ h40.size := Nat.le_trans Z38 E40.1
    show Gs p e below _ T40 m 56 #[iv q1, iv q2, iv q3, iv q4, iv (2 : Int32)] [(.ref b40), (.ref b38), (.ref b38)]
    refine gdup X40 hx (hb hby dmethod_2_56) trivial rfl ?_
    refine giconst X40 hx (hb hby dmethod_2_57) ?_
    refine giloadN X40 hx (hb hby dmethod_2_58) rfl ?_
    show Gs p e below _ T40 m 59 #[iv q1, iv q2, iv q3, iv q4, iv (2 : Int32)] [(.int q2), (.int (0 : Int32)), (.ref b40), (.ref b40), (.ref b38), (.ref b38)]
    refine Goes.st (fun tg kg => XT.i2c X40.here hx rfl (hb hby dmethod_2_59) rfl kg) ?_
    show Gs p e below _ T40 m 60 #[iv q1, iv q2, iv q3, iv q4, iv (2 : Int32)] [(.int (q2).toUInt32.toUInt16.toUInt32.toInt32), (.int (0 : Int32)), (.ref b40), (.ref b40), (.ref b38), (.ref b38)]
    obtain ⟨cl42, Ar42, qk42, Sz42, qz42, Ha42, Gf42⟩ := id V40
    obtain ⟨T42, h42, X42, e42, W42, st42⟩ := stC X40 hx hZ e40 Ar42 (inb_of Sz42 ⟨by decide, by decide⟩) (g := (mkF m 60 #[iv q1, iv q2, iv q3, iv q4, iv (2 : Int32)] [(.int (q2).toUInt32.toUInt16.toUInt32.toInt32), (.int (0 : Int32)), (.ref b40), (.ref b40), (.ref b38), (.ref b38)])) rfl rfl (hb hby dmethod_2_60)
    have N42 := Fr.snoc X42 N0 lo_b40
    have V42 : Arv Z h42 b40 cA40 .char (2 : Int32) [(.int (nar .char (q2).toUInt32.toUInt16.toUInt32.toInt32)), (.int (0 : Int32))] (.int (0 : Int32)) := Arv.set Ar42 qk42 Sz42 qz42 Ha42 Gf42 (fits_nar_char _) W42 0 (by decide) (by simp)
    refine Goes.st st42 ?_
    have hk := Nat.le_trans hk (Nat.le_of_eq W42.size.symm)
    have KK43 := KK41.wr W42 (Or.inr sz_b40)
    have Z42 : n0 ≤ h42.size := by have := W42.size; have := Z40; omega
    show Gs p e below _ T42 m 61 #[iv q1, iv q2, iv q3, iv q4, iv (2 : Int32)] [(.ref b40), (.ref b38), (.ref b38)]
    refine gdup X42 hx (hb hby dmethod_2_61) trivial rfl ?_
    refine giconst X42 hx (hb hby dmethod_2_62) ?_
    refine giloadN X42 hx (hb hby dmethod_2_63) rfl ?_
    show Gs p e below _ T42 m 64 #[iv q1, iv q2, iv q3, iv q4, iv (2 : Int32)] [(.int q3), (.int (1 : Int32)), (.ref b40), (.ref b40), (.ref b38), (.ref b38)]
    refine Goes.st (fun tg kg => XT.i2c X42.here hx rfl (hb hby dmethod_2_64) rfl kg) ?_
    show Gs p e below _ T42 m 65 #[iv q1, iv q2, iv q3, iv q4, iv (2 : Int32)] [(.int (q3).toUInt32.toUInt16.toUInt32.toInt32), (.int (1 : Int32)), (.ref b40), (.ref b40), (.ref b38), (.ref b38)]
    obtain ⟨cl44, Ar44, qk44, Sz44, qz44, Ha44, Gf44⟩ := id V42
    obtain ⟨T44, h44, X44, e44, W44, st44⟩ := stC X42 hx hZ e42 Ar44 (inb_of Sz44 ⟨by decide, by decide⟩) (g := (mkF m 65 #[iv q1, iv q2, iv q3, iv q4, iv (2 : Int32)] [(.int (q3).toUInt32.toUInt16.toUInt32.toInt32), (.int (1 : Int32)), (.ref b40), (.ref b40), (.ref b38), (.ref b38)])) rfl rfl (hb hby dmethod_2_65)
    have N44 := Fr.snoc X44 N42 lo_b40
    have V44 : Arv Z h44 b40 cA40 .char (2 : Int32) [(.int (nar .char (q2).toUInt32.toUInt16.toUInt32.toInt32)), (.int (nar .char (q3).toUInt32.toUInt16.toUInt32.toInt32))] (.int (0 : Int32)) := Arv.set Ar44 qk44 Sz44 qz44 Ha44 Gf44 (fits_nar_char _) W44 1 (by decide) (by simp)
    refine Goes.st st44 ?_
    have hk := Nat.le_trans hk (Nat.le_of_eq W44.size.symm)
    have KK45 := KK43.wr W44 (Or.inr sz_b40)
    have Z44 : n0 ≤ h44.size := by have := W44.size; have := Z42; omega
    show Gs p e below _ T44 m 66 #[iv q1, iv q2, iv q3, iv q4, iv (2 : Int32)] [(.ref b40), (.ref b38), (.ref b38)]
    by_cases c46 : (255 : Int32) < (nar .char (q2).toUInt32.toUInt16.toUInt32.toInt32)
    · have f47 := (((A38.ext E40).wr W42).wr W44)
      have f48 := (((F38_value.ext E40).other W42 (Or.inl ne_b38_b40)).other W44 (Or.inl ne_b38_b40))
      have f49 := (((F38_coder.ext E40).other W42 (Or.inl ne_b38_b40)).other W44 (Or.inl ne_b38_b40))
      have f50 := ((((Scs.ext E38).ext E40).wr W42).wr W44)
      have f51 := ((((Sd.ext E38).ext E40).wr W42).wr W44)
      have f52 := ((((Sh.ext E38).ext E40).wr W42).wr W44)
      have f53 := ((((Sl.ext E38).ext E40).wr W42).wr W44)
      obtain ⟨_, _, ⟨T54, L54, k54, n54⟩, -, X54, ⟨Lc54, hQ54, l54, y54, z54⟩, st54⟩ := X44.specialBack hx (y := mN9) rfl hown (mvT hZ (hwk hw 8 rfl)) (mvT hZ (hwk hw 9 rfl)) (mvT hZ (hwk hw 10 rfl)) (by decide) (backOf (W := 1) (rmIc20 l Z a0 hw [] b38 cs b40 cA40 (nar .char (q2).toUInt32.toUInt16.toUInt32.toInt32) (nar .char (q3).toUInt32.toUInt16.toUInt32.toInt32) h44 n0 Z44 f50 hcs f51 f52 f53 f47 lo_b38 f48 f49 V44 ne_b38_b40 c46 (own_rng _)) hZ (hwk hw 10 rfl) (hwk hw 6 rfl) (by decide) (by decide)) (g := (mkF m 66 #[iv q1, iv q2, iv q3, iv q4, iv (2 : Int32)] [(.ref b40), (.ref b38), (.ref b38)])) rfl (by rw [hml]; rfl) (Steps.refl _) (a := b38) (argsL := [(.ref b40)]) (rest := [(.ref b38)]) (lenOf pd___C_V_b97 rfl) rfl (by show 2 * 0 + _ ≤ _; exact Nat.le_of_eq rfl) (hb hby dmethod_2_66) (fun _ _ => ⟨rfl, e44, (by decide : 2 + 2 ≤ 4), (by decide : 6 + 6 ≤ 16)⟩)
      dsimp only [Pt.U, Pt.locs, Pt.cells, Pt.slots] at X54 l54 y54 z54 st54 hQ54
      subst l54 y54 z54
      obtain ⟨rfl, N54q, K54⟩ := hQ54
      have hk := Nat.le_trans hk K54.1
      have KK55 := KK45.trans K54 (allS (Or.inr sz_b38) all0)
      have Z54 : n0 ≤ T54.heap.size := Nat.le_trans Z44 K54.1
      have N54 := Fr.app N44 N54q
      refine Goes.sts st54 ?_
      show Gs p e below _ T54 m 69 #[iv q1, iv q2, iv q3, iv q4, iv (2 : Int32)] [(.ref b38)]
      have f56 := (f47.keep K54)
      refine Goes.retA X54 hx hret rfl rfl rfl (hb hby dmethod_2_69) (lvV X54 hlk hS hk (vsome hret) ?_ (by decide) (by decide))
      exact ⟨b38, rfl, N54, KK55, sz_b38, lo_b38, f56⟩
    · by_cases c57 : (255 : Int32) < (nar .char (q3).toUInt32.toUInt16.toUInt32.toInt32)
      · have f58 := (((A38.ext E40).wr W42).wr W44)
        have f59 := (((F38_value.ext E40).other W42 (Or.inl ne_b38_b40)).other W44 (Or.inl ne_b38_b40))
        have f60 := (((F38_coder.ext E40).other W42 (Or.inl ne_b38_b40)).other W44 (Or.inl ne_b38_b40))
        have f61 := ((((Scs.ext E38).ext E40).wr W42).wr W44)
        have f62 := ((((Sd.ext E38).ext E40).wr W42).wr W44)
        have f63 := ((((Sh.ext E38).ext E40).wr W42).wr W44)
        have f64 := ((((Sl.ext E38).ext E40).wr W42).wr W44)
        obtain ⟨_, _, ⟨T65, L65, k65, n65⟩, -, X65, ⟨Lc65, hQ65, l65, y65, z65⟩, st65⟩ := X44.specialBack hx (y := mN9) rfl hown (mvT hZ (hwk hw 8 rfl)) (mvT hZ (hwk hw 9 rfl)) (mvT hZ (hwk hw 10 rfl)) (by decide) (backOf (W := 1) (rmIc21 l Z a0 hw [] b38 cs b40 cA40 (nar .char (q2).toUInt32.toUInt16.toUInt32.toInt32) (nar .char (q3).toUInt32.toUInt16.toUInt32.toInt32) h44 n0 Z44 f61 hcs f62 f63 f64 f58 lo_b38 f59 f60 V44 ne_b38_b40 c46 c57 (own_rng _)) hZ (hwk hw 10 rfl) (hwk hw 6 rfl) (by decide) (by decide)) (g := (mkF m 66 #[iv q1, iv q2, iv q3, iv q4, iv (2 : Int32)] [(.ref b40), (.ref b38), (.ref b38)])) rfl (by rw [hml]; rfl) (Steps.refl _) (a := b38) (argsL := [(.ref b40)]) (rest := [(.ref b38)]) (lenOf pd___C_V_b97 rfl) rfl (by show 2 * 0 + _ ≤ _; exact Nat.le_of_eq rfl) (hb hby dmethod_2_66) (fun _ _ => ⟨rfl, e44, (by decide : 2 + 2 ≤ 4), (by decide : 6 + 6 ≤ 16)⟩)
        dsimp only [Pt.U, Pt.locs, Pt.cells, Pt.slots] at X65 l65 y65 z65 st65 hQ65
        subst l65 y65 z65
        obtain ⟨rfl, N65q, K65⟩ := hQ65
        have hk := Nat.le_trans hk K65.1
        have KK66 := KK45.trans K65 (allS (Or.inr sz_b38) all0)
        have Z65 : n0 ≤ T65.heap.size := Nat.le_trans Z44 K65.1
        have N65 := Fr.app N44 N65q
        refine Goes.sts st65 ?_
        show Gs p e below _ T65 m 69 #[iv q1, iv q2, iv q3, iv q4, iv (2 : Int32)] [(.ref b38)]
        have f67 := (f58.keep K65)
        refine Goes.retA X65 hx hret rfl rfl rfl (hb hby dmethod_2_69) (lvV X65 hlk hS hk (vsome hret) ?_ (by decide) (by decide))
        exact ⟨b38, rfl, N65, KK66, sz_b38, lo_b38, f67⟩
      · have f68 := (((A38.ext E40).wr W42).wr W44)
        have f69 := (((F38_value.ext E40).other W42 (Or.inl ne_b38_b40)).other W44 (Or.inl ne_b38_b40))
        have f70 := (((F38_coder.ext E40).other W42 (Or.inl ne_b38_b40)).other W44 (Or.inl ne_b38_b40))
        have f71 := ((((Scs.ext E38).ext E40).wr W42).wr W44)
        have f72 := ((((Sd.ext E38).ext E40).wr W42).wr W44)
        have f73 := ((((Sh.ext E38).ext E40).wr W42).wr W44)
        have f74 := ((((Sl.ext E38).ext E40).wr W42).wr W44)
        obtain ⟨_, _, ⟨T75, L75, k75, n75⟩, -, X75, ⟨Lc75, hQ75, l75, y75, z75⟩, st75⟩ := X44.specialBack hx (y := mN9) rfl hown (mvT hZ (hwk hw 8 rfl)) (mvT hZ (hwk hw 9 rfl)) (mvT hZ (hwk hw 10 rfl)) (by decide) (backOf (W := 1) (rmIc22 l Z a0 hw [] b38 cs b40 cA40 (nar .char (q2).toUInt32.toUInt16.toUInt32.toInt32) (nar .char (q3).toUInt32.toUInt16.toUInt32.toInt32) h44 n0 Z44 f71 hcs f72 f73 f74 f68 lo_b38 f69 f70 V44 ne_b38_b40 c46 c57) hZ (hwk hw 10 rfl) (hwk hw 6 rfl) (by decide) (by decide)) (g := (mkF m 66 #[iv q1, iv q2, iv q3, iv q4, iv (2 : Int32)] [(.ref b40), (.ref b38), (.ref b38)])) rfl (by rw [hml]; rfl) (Steps.refl _) (a := b38) (argsL := [(.ref b40)]) (rest := [(.ref b38)]) (lenOf pd___C_V_b97 rfl) rfl (by show 2 * 0 + _ ≤ _; exact Nat.le_of_eq rfl) (hb hby dmethod_2_66) (fun _ _ => ⟨rfl, e44, (by decide : 2 + 1 ≤ 4), (by decide : 6 + 2 ≤ 16)⟩)
        dsimp only [Pt.U, Pt.locs, Pt.cells, Pt.slots] at X75 l75 y75 z75 st75 hQ75
        subst l75 y75 z75
        obtain ⟨rfl, N75q, K75⟩ := hQ75
        have hk := Nat.le_trans hk K75.1
        have KK76 := KK45.trans K75 (allS (Or.inr sz_b38) all0)
        have Z75 : n0 ≤ T75.heap.size := Nat.le_trans Z44 K75.1
        have N75 := Fr.app N44 N75q
        refine Goes.sts st75 ?_
        show Gs p e below _ T75 m 69 #[iv q1, iv q2, iv q3, iv q4, iv (2 : Int32)] [(.ref b38)]
        have f77 := (f68.keep K75)
        refine Goes.retA X75 hx hret rfl rfl rfl (hb hby dmethod_2_69) (lvV X75 hlk hS hk (vsome hret) ?_ (by decide) (by decide))
        exact ⟨b38, rfl, N75, KK76, sz_b38, lo_b38, f77⟩
  · rw [hn]
    show Gs p e below _ s₁ m 3 #[iv q1, iv q2, iv q3, iv q4, .unset] [(.int (3 : Int32))]
    refine gistore X0 hx (hb hby dmethod_2_3) trivial (l' := #[iv q1, iv q2, iv q3, iv q4, iv (3 : Int32)]) rfl ?_
    refine giload X0 hx (hb hby dmethod_2_5) rfl ?_
    show Gs p e below _ s₁ m 7 #[iv q1, iv q2, iv q3, iv q4, iv (3 : Int32)] [(.int (3 : Int32))]
    refine gifYes X0 hx (pc' := 21) (hb hby dmethod_2_7) (by decide) (by decide) (by decide) ?_
    show Gs p e below _ s₁ m 21 #[iv q1, iv q2, iv q3, iv q4, iv (3 : Int32)] []
    refine giload X0 hx (hb hby dmethod_2_21) rfl ?_
    refine giconst X0 hx (hb hby dmethod_2_23) ?_
    show Gs p e below _ s₁ m 24 #[iv q1, iv q2, iv q3, iv q4, iv (3 : Int32)] [(.int (1 : Int32)), (.int (3 : Int32))]
    refine gicmpYes X0 hx (pc' := 43) (hb hby dmethod_2_24) (by decide) (by decide) (by decide) ?_
    show Gs p e below _ s₁ m 43 #[iv q1, iv q2, iv q3, iv q4, iv (3 : Int32)] []
    refine giload X0 hx (hb hby dmethod_2_43) rfl ?_
    refine giconst X0 hx (hb hby dmethod_2_45) ?_
    show Gs p e below _ s₁ m 46 #[iv q1, iv q2, iv q3, iv q4, iv (3 : Int32)] [(.int (2 : Int32)), (.int (3 : Int32))]
    refine gicmpYes X0 hx (pc' := 70) (hb hby dmethod_2_46) (by decide) (by decide) (by decide) ?_
    show Gs p e below _ s₁ m 70 #[iv q1, iv q2, iv q3, iv q4, iv (3 : Int32)] []
    obtain ⟨T78, h78, X78, e78, E78, A78, D78, -, st78⟩ := newO X0 hx hZ hown (hwk hw 4 rfl) (hwk hw 5 rfl) (hwk hw 6 rfl) e0 (g := (mkF m 70 #[iv q1, iv q2, iv q3, iv q4, iv (3 : Int32)] [])) rfl (hb hby dmethod_2_70) (by decide) (by decide)
    obtain ⟨b78, g78⟩ : ∃ z, z = h0.size := ⟨_, rfl⟩
    rw [← g78] at A78 D78 st78
    have lo_b78 : n0 ≤ b78 := by have := Z0; omega
    have sz_b78 : h0.size ≤ b78 := by have := K0.1; omega
    refine Goes.st st78 ?_
    have hk := Nat.le_trans hk E78.1
    have hH := hH.ext E78
    have KK79 := K0.ext E78
    have Z78 : n0 ≤ h78.size := Nat.le_trans Z0 E78.1
    have F78_coder : Fld Z h78 b78 "java/lang/String" "coder" "B" (.int (0 : Int32)) := D78 (Or.inr (hwk hw 31 rfl)) (ty := .byte) (by decide)
    have F78_value : Fld Z h78 b78 "java/lang/String" "value" "[B" .null := D78 (Or.inr (hwk hw 33 rfl)) (ty := (.array .byte)) (by decide)
    show Gs p e below _ T78 m 73 #[iv q1, iv q2, iv q3, iv q4, iv (3 : Int32)] [(.ref b78)]
    refine gdup X78 hx (hb hby dmethod_2_73) trivial rfl ?_
    refine giconst X78 hx (hb hby dmethod_2_74) ?_
    obtain ⟨T80, h80, cA80, X80, e80, E80, A80, st80⟩ := newP X78 hx hZ (hwk hw 7 rfl) e78 (g := (mkF m 75 #[iv q1, iv q2, iv q3, iv q4, iv (3 : Int32)] [(.int (3 : Int32)), (.ref b78), (.ref b78)])) rfl (hb hby dmethod_2_75) rfl (by decide) (cap := 3) (by decide) (by decide) (by decide) (by decide)
    obtain ⟨b80, g80⟩ : ∃ z, z = h78.size := ⟨_, rfl⟩
    rw [← g80] at A80 st80
    have ne_b78_b80 : b78 ≠ b80 := Nat.ne_of_lt (Nat.lt_of_lt_of_le A78.lt (Nat.le_of_eq g80.symm))
    have lo_b80 : n0 ≤ b80 := by have := Z78; omega
    have sz_b80 : h0.size ≤ b80 := by have := KK79.1; omega
    have hk := Nat.le_trans hk E80.1
    have hH := hH.ext E80
    have KK81 := KK79.ext E80
    have V80 : Arv Z h80 b80 cA80 .char (3 : Int32) [(.int (0 : Int32)), (.int (0 : Int32)), (.int (0 : Int32))] (.int (0 : Int32)) := (Arv.new A80 (by decide)).pad (pad_rep [] _ 3)
    refine Goes.st st80 ?_
    have Z80 : n0 ≤ h80.size := Nat.le_trans Z78 E80.1
    show Gs p e below _ T80 m 77 #[iv q1, iv q2, iv q3, iv q4, iv (3 : Int32)] [(.ref b80), (.ref b78), (.ref b78)]
    refine gdup X80 hx (hb hby dmethod_2_77) trivial rfl ?_
    refine giconst X80 hx (hb hby dmethod_2_78) ?_
    refine giloadN X80 hx (hb hby dmethod_2_79) rfl ?_
    show Gs p e below _ T80 m 80 #[iv q1, iv q2, iv q3, iv q4, iv (3 : Int32)] [(.int q2), (.int (0 : Int32)), (.ref b80), (.ref b80), (.ref b78), (.ref b78)]
    refine Goes.st (fun tg kg => XT.i2c X80.here hx rfl (hb hby dmethod_2_80) rfl kg) ?_
    show Gs p e below _ T80 m 81 #[iv q1, iv q2, iv q3, iv q4, iv (3 : Int32)] [(.int (q2).toUInt32.toUInt16.toUInt32.toInt32), (.int (0 : Int32)), (.ref b80), (.ref b80), (.ref b78), (.ref b78)]
    obtain ⟨cl82, Ar82, qk82, Sz82, qz82, Ha82, Gf82⟩ := id V80
    obtain ⟨T82, h82, X82, e82, W82, st82⟩ := stC X80 hx hZ e80 Ar82 (inb_of Sz82 ⟨by decide, by decide⟩) (g := (mkF m 81 #[iv q1, iv q2, iv q3, iv q4, iv (3 : Int32)] [(.int (q2).toUInt32.toUInt16.toUInt32.toInt32), (.int (0 : Int32)), (.ref b80), (.ref b80), (.ref b78), (.ref b78)])) rfl rfl (hb hby dmethod_2_81)
    have N82 := Fr.snoc X82 N0 lo_b80
    have V82 : Arv Z h82 b80 cA80 .char (3 : Int32) [(.int (nar .char (q2).toUInt32.toUInt16.toUInt32.toInt32)), (.int (0 : Int32)), (.int (0 : Int32))] (.int (0 : Int32)) := Arv.set Ar82 qk82 Sz82 qz82 Ha82 Gf82 (fits_nar_char _) W82 0 (by decide) (by simp)
    refine Goes.st st82 ?_
    have hk := Nat.le_trans hk (Nat.le_of_eq W82.size.symm)
    have KK83 := KK81.wr W82 (Or.inr sz_b80)
    have Z82 : n0 ≤ h82.size := by have := W82.size; have := Z80; omega
    show Gs p e below _ T82 m 82 #[iv q1, iv q2, iv q3, iv q4, iv (3 : Int32)] [(.ref b80), (.ref b78), (.ref b78)]
    refine gdup X82 hx (hb hby dmethod_2_82) trivial rfl ?_
    refine giconst X82 hx (hb hby dmethod_2_83) ?_
    refine giloadN X82 hx (hb hby dmethod_2_84) rfl ?_
    show Gs p e below _ T82 m 85 #[iv q1, iv q2, iv q3, iv q4, iv (3 : Int32)] [(.int q3), (.int (1 : Int32)), (.ref b80), (.ref b80), (.ref b78), (.ref b78)]
    refine Goes.st (fun tg kg => XT.i2c X82.here hx rfl (hb hby dmethod_2_85) rfl kg) ?_
    show Gs p e below _ T82 m 86 #[iv q1, iv q2, iv q3, iv q4, iv (3 : Int32)] [(.int (q3).toUInt32.toUInt16.toUInt32.toInt32), (.int (1 : Int32)), (.ref b80), (.ref b80), (.ref b78), (.ref b78)]
    obtain ⟨cl84, Ar84, qk84, Sz84, qz84, Ha84, Gf84⟩ := id V82
    obtain ⟨T84, h84, X84, e84, W84, st84⟩ := stC X82 hx hZ e82 Ar84 (inb_of Sz84 ⟨by decide, by decide⟩) (g := (mkF m 86 #[iv q1, iv q2, iv q3, iv q4, iv (3 : Int32)] [(.int (q3).toUInt32.toUInt16.toUInt32.toInt32), (.int (1 : Int32)), (.ref b80), (.ref b80), (.ref b78), (.ref b78)])) rfl rfl (hb hby dmethod_2_86)
    have N84 := Fr.snoc X84 N82 lo_b80
    have V84 : Arv Z h84 b80 cA80 .char (3 : Int32) [(.int (nar .char (q2).toUInt32.toUInt16.toUInt32.toInt32)), (.int (nar .char (q3).toUInt32.toUInt16.toUInt32.toInt32)), (.int (0 : Int32))] (.int (0 : Int32)) := Arv.set Ar84 qk84 Sz84 qz84 Ha84 Gf84 (fits_nar_char _) W84 1 (by decide) (by simp)
    refine Goes.st st84 ?_
    have hk := Nat.le_trans hk (Nat.le_of_eq W84.size.symm)
    have KK85 := KK83.wr W84 (Or.inr sz_b80)
    have Z84 : n0 ≤ h84.size := by have := W84.size; have := Z82; omega
    show Gs p e below _ T84 m 87 #[iv q1, iv q2, iv q3, iv q4, iv (3 : Int32)] [(.ref b80), (.ref b78), (.ref b78)]
    refine gdup X84 hx (hb hby dmethod_2_87) trivial rfl ?_
    refine giconst X84 hx (hb hby dmethod_2_88) ?_
    refine giloadN X84 hx (hb hby dmethod_2_89) rfl ?_
    show Gs p e below _ T84 m 90 #[iv q1, iv q2, iv q3, iv q4, iv (3 : Int32)] [(.int q4), (.int (2 : Int32)), (.ref b80), (.ref b80), (.ref b78), (.ref b78)]
    refine Goes.st (fun tg kg => XT.i2c X84.here hx rfl (hb hby dmethod_2_90) rfl kg) ?_
    show Gs p e below _ T84 m 91 #[iv q1, iv q2, iv q3, iv q4, iv (3 : Int32)] [(.int (q4).toUInt32.toUInt16.toUInt32.toInt32), (.int (2 : Int32)), (.ref b80), (.ref b80), (.ref b78), (.ref b78)]
    obtain ⟨cl86, Ar86, qk86, Sz86, qz86, Ha86, Gf86⟩ := id V84
    obtain ⟨T86, h86, X86, e86, W86, st86⟩ := stC X84 hx hZ e84 Ar86 (inb_of Sz86 ⟨by decide, by decide⟩) (g := (mkF m 91 #[iv q1, iv q2, iv q3, iv q4, iv (3 : Int32)] [(.int (q4).toUInt32.toUInt16.toUInt32.toInt32), (.int (2 : Int32)), (.ref b80), (.ref b80), (.ref b78), (.ref b78)])) rfl rfl (hb hby dmethod_2_91)
    have N86 := Fr.snoc X86 N84 lo_b80
    have V86 : Arv Z h86 b80 cA80 .char (3 : Int32) [(.int (nar .char (q2).toUInt32.toUInt16.toUInt32.toInt32)), (.int (nar .char (q3).toUInt32.toUInt16.toUInt32.toInt32)), (.int (nar .char (q4).toUInt32.toUInt16.toUInt32.toInt32))] (.int (0 : Int32)) := Arv.set Ar86 qk86 Sz86 qz86 Ha86 Gf86 (fits_nar_char _) W86 2 (by decide) (by simp)
    refine Goes.st st86 ?_
    have hk := Nat.le_trans hk (Nat.le_of_eq W86.size.symm)
    have KK87 := KK85.wr W86 (Or.inr sz_b80)
    have Z86 : n0 ≤ h86.size := by have := W86.size; have := Z84; omega
    show Gs p e below _ T86 m 92 #[iv q1, iv q2, iv q3, iv q4, iv (3 : Int32)] [(.ref b80), (.ref b78), (.ref b78)]
    by_cases c88 : (255 : Int32) < (nar .char (q2).toUInt32.toUInt16.toUInt32.toInt32)
    · have f89 := ((((A78.ext E80).wr W82).wr W84).wr W86)
      have f90 := ((((F78_value.ext E80).other W82 (Or.inl ne_b78_b80)).other W84 (Or.inl ne_b78_b80)).other W86 (Or.inl ne_b78_b80))
      have f91 := ((((F78_coder.ext E80).other W82 (Or.inl ne_b78_b80)).other W84 (Or.inl ne_b78_b80)).other W86 (Or.inl ne_b78_b80))
      have f92 := (((((Scs.ext E78).ext E80).wr W82).wr W84).wr W86)
      have f93 := (((((Sd.ext E78).ext E80).wr W82).wr W84).wr W86)
      have f94 := (((((Sh.ext E78).ext E80).wr W82).wr W84).wr W86)
      have f95 := (((((Sl.ext E78).ext E80).wr W82).wr W84).wr W86)
      obtain ⟨_, _, ⟨T96, L96, k96, n96⟩, -, X96, ⟨Lc96, hQ96, l96, y96, z96⟩, st96⟩ := X86.specialBack hx (y := mN9) rfl hown (mvT hZ (hwk hw 8 rfl)) (mvT hZ (hwk hw 9 rfl)) (mvT hZ (hwk hw 10 rfl)) (by decide) (backOf (W := 1) (rmIc30 l Z a0 hw [] b78 cs b80 cA80 (nar .char (q2).toUInt32.toUInt16.toUInt32.toInt32) (nar .char (q3).toUInt32.toUInt16.toUInt32.toInt32) (nar .char (q4).toUInt32.toUInt16.toUInt32.toInt32) h86 n0 Z86 f92 hcs f93 f94 f95 f89 lo_b78 f90 f91 V86 ne_b78_b80 c88 (own_rng _)) hZ (hwk hw 10 rfl) (hwk hw 6 rfl) (by decide) (by decide)) (g := (mkF m 92 #[iv q1, iv q2, iv q3, iv q4, iv (3 : Int32)] [(.ref b80), (.ref b78), (.ref b78)])) rfl (by rw [hml]; rfl) (Steps.refl _) (a := b78) (argsL := [(.ref b80)]) (rest := [(.ref b78)]) (lenOf pd___C_V_b97 rfl) rfl (by show 2 * 0 + _ ≤ _; exact Nat.le_of_eq rfl) (hb hby dmethod_2_92) (fun _ _ => ⟨rfl, e86, (by decide : 2 + 2 ≤ 4), (by decide : 7 + 9 ≤ 16)⟩)
      dsimp only [Pt.U, Pt.locs, Pt.cells, Pt.slots] at X96 l96 y96 z96 st96 hQ96
      subst l96 y96 z96
      obtain ⟨rfl, N96q, K96⟩ := hQ96
      have hk := Nat.le_trans hk K96.1
      have KK97 := KK87.trans K96 (allS (Or.inr sz_b78) all0)
      have Z96 : n0 ≤ T96.heap.size := Nat.le_trans Z86 K96.1
      have N96 := Fr.app N86 N96q
      refine Goes.sts st96 ?_
      show Gs p e below _ T96 m 95 #[iv q1, iv q2, iv q3, iv q4, iv (3 : Int32)] [(.ref b78)]
      have f98 := (f89.keep K96)
      refine Goes.retA X96 hx hret rfl rfl rfl (hb hby dmethod_2_95) (lvV X96 hlk hS hk (vsome hret) ?_ (by decide) (by decide))
      exact ⟨b78, rfl, N96, KK97, sz_b78, lo_b78, f98⟩
    · by_cases c99 : (255 : Int32) < (nar .char (q3).toUInt32.toUInt16.toUInt32.toInt32)
      · have f100 := ((((A78.ext E80).wr W82).wr W84).wr W86)
        have f101 := ((((F78_value.ext E80).other W82 (Or.inl ne_b78_b80)).other W84 (Or.inl ne_b78_b80)).other W86 (Or.inl ne_b78_b80))
        have f102 := ((((F78_coder.ext E80).other W82 (Or.inl ne_b78_b80)).other W84 (Or.inl ne_b78_b80)).other W86 (Or.inl ne_b78_b80))
        have f103 := (((((Scs.ext E78).ext E80).wr W82).wr W84).wr W86)
        have f104 := (((((Sd.ext E78).ext E80).wr W82).wr W84).wr W86)
        have f105 := (((((Sh.ext E78).ext E80).wr W82).wr W84).wr W86)
        have f106 := (((((Sl.ext E78).ext E80).wr W82).wr W84).wr W86)
        obtain ⟨_, _, ⟨T107, L107, k107, n107⟩, -, X107, ⟨Lc107, hQ107, l107, y107, z107⟩, st107⟩ := X86.specialBack hx (y := mN9) rfl hown (mvT hZ (hwk hw 8 rfl)) (mvT hZ (hwk hw 9 rfl)) (mvT hZ (hwk hw 10 rfl)) (by decide) (backOf (W := 1) (rmIc31 l Z a0 hw [] b78 cs b80 cA80 (nar .char (q2).toUInt32.toUInt16.toUInt32.toInt32) (nar .char (q3).toUInt32.toUInt16.toUInt32.toInt32) (nar .char (q4).toUInt32.toUInt16.toUInt32.toInt32) h86 n0 Z86 f103 hcs f104 f105 f106 f100 lo_b78 f101 f102 V86 ne_b78_b80 c88 c99 (own_rng _)) hZ (hwk hw 10 rfl) (hwk hw 6 rfl) (by decide) (by decide)) (g := (mkF m 92 #[iv q1, iv q2, iv q3, iv q4, iv (3 : Int32)] [(.ref b80), (.ref b78), (.ref b78)])) rfl (by rw [hml]; rfl) (Steps.refl _) (a := b78) (argsL := [(.ref b80)]) (rest := [(.ref b78)]) (lenOf pd___C_V_b97 rfl) rfl (by show 2 * 0 + _ ≤ _; exact Nat.le_of_eq rfl) (hb hby dmethod_2_92) (fun _ _ => ⟨rfl, e86, (by decide : 2 + 2 ≤ 4), (by decide : 7 + 9 ≤ 16)⟩)
        dsimp only [Pt.U, Pt.locs, Pt.cells, Pt.slots] at X107 l107 y107 z107 st107 hQ107
        subst l107 y107 z107
        obtain ⟨rfl, N107q, K107⟩ := hQ107
        have hk := Nat.le_trans hk K107.1
        have KK108 := KK87.trans K107 (allS (Or.inr sz_b78) all0)
        have Z107 : n0 ≤ T107.heap.size := Nat.le_trans Z86 K107.1
        have N107 := Fr.app N86 N107q
        refine Goes.sts st107 ?_
        show Gs p e below _ T107 m 95 #[iv q1, iv q2, iv q3, iv q4, iv (3 : Int32)] [(.ref b78)]
        have f109 := (f100.keep K107)
        refine Goes.retA X107 hx hret rfl rfl rfl (hb hby dmethod_2_95) (lvV X107 hlk hS hk (vsome hret) ?_ (by decide) (by decide))
        exact ⟨b78, rfl, N107, KK108, sz_b78, lo_b78, f109⟩
      · by_cases c110 : (255 : Int32) < (nar .char (q4).toUInt32.toUInt16.toUInt32.toInt32)
        · have f111 := ((((A78.ext E80).wr W82).wr W84).wr W86)
          have f112 := ((((F78_value.ext E80).other W82 (Or.inl ne_b78_b80)).other W84 (Or.inl ne_b78_b80)).other W86 (Or.inl ne_b78_b80))
          have f113 := ((((F78_coder.ext E80).other W82 (Or.inl ne_b78_b80)).other W84 (Or.inl ne_b78_b80)).other W86 (Or.inl ne_b78_b80))
          have f114 := (((((Scs.ext E78).ext E80).wr W82).wr W84).wr W86)
          have f115 := (((((Sd.ext E78).ext E80).wr W82).wr W84).wr W86)
          have f116 := (((((Sh.ext E78).ext E80).wr W82).wr W84).wr W86)
          have f117 := (((((Sl.ext E78).ext E80).wr W82).wr W84).wr W86)
          obtain ⟨_, _, ⟨T118, L118, k118, n118⟩, -, X118, ⟨Lc118, hQ118, l118, y118, z118⟩, st118⟩ := X86.specialBack hx (y := mN9) rfl hown (mvT hZ (hwk hw 8 rfl)) (mvT hZ (hwk hw 9 rfl)) (mvT hZ (hwk hw 10 rfl)) (by decide) (backOf (W := 1) (rmIc32 l Z a0 hw [] b78 cs b80 cA80 (nar .char (q2).toUInt32.toUInt16.toUInt32.toInt32) (nar .char (q3).toUInt32.toUInt16.toUInt32.toInt32) (nar .char (q4).toUInt32.toUInt16.toUInt32.toInt32) h86 n0 Z86 f114 hcs f115 f116 f117 f111 lo_b78 f112 f113 V86 ne_b78_b80 c88 c99 c110 (own_rng _)) hZ (hwk hw 10 rfl) (hwk hw 6 rfl) (by decide) (by decide)) (g := (mkF m 92 #[iv q1, iv q2, iv q3, iv q4, iv (3 : Int32)] [(.ref b80), (.ref b78), (.ref b78)])) rfl (by rw [hml]; rfl) (Steps.refl _) (a := b78) (argsL := [(.ref b80)]) (rest := [(.ref b78)]) (lenOf pd___C_V_b97 rfl) rfl (by show 2 * 0 + _ ≤ _; exact Nat.le_of_eq rfl) (hb hby dmethod_2_92) (fun _ _ => ⟨rfl, e86, (by decide : 2 + 2 ≤ 4), (by decide : 7 + 9 ≤ 16)⟩)
          dsimp only [Pt.U, Pt.locs, Pt.cells, Pt.slots] at X118 l118 y118 z118 st118 hQ118
          subst l118 y118 z118
          obtain ⟨rfl, N118q, K118⟩ := hQ118
          have hk := Nat.le_trans hk K118.1
          have KK119 := KK87.trans K118 (allS (Or.inr sz_b78) all0)
          have Z118 : n0 ≤ T118.heap.size := Nat.le_trans Z86 K118.1
          have N118 := Fr.app N86 N118q
          refine Goes.sts st118 ?_
          show Gs p e below _ T118 m 95 #[iv q1, iv q2, iv q3, iv q4, iv (3 : Int32)] [(.ref b78)]
          have f120 := (f111.keep K118)
          refine Goes.retA X118 hx hret rfl rfl rfl (hb hby dmethod_2_95) (lvV X118 hlk hS hk (vsome hret) ?_ (by decide) (by decide))
          exact ⟨b78, rfl, N118, KK119, sz_b78, lo_b78, f120⟩
        · have f121 := ((((A78.ext E80).wr W82).wr W84).wr W86)
          have f122 := ((((F78_value.ext E80).other W82 (Or.inl ne_b78_b80)).other W84 (Or.inl ne_b78_b80)).other W86 (Or.inl ne_b78_b80))
          have f123 := ((((F78_coder.ext E80).other W82 (Or.inl ne_b78_b80)).other W84 (Or.inl ne_b78_b80)).other W86 (Or.inl ne_b78_b80))
          have f124 := (((((Scs.ext E78).ext E80).wr W82).wr W84).wr W86)
          have f125 := (((((Sd.ext E78).ext E80).wr W82).wr W84).wr W86)
          have f126 := (((((Sh.ext E78).ext E80).wr W82).wr W84).wr W86)
          have f127 := (((((Sl.ext E78).ext E80).wr W82).wr W84).wr W86)
          obtain ⟨_, _, ⟨T128, L128, k128, n128⟩, -, X128, ⟨Lc128, hQ128, l128, y128, z128⟩, st128⟩ := X86.specialBack hx (y := mN9) rfl hown (mvT hZ (hwk hw 8 rfl)) (mvT hZ (hwk hw 9 rfl)) (mvT hZ (hwk hw 10 rfl)) (by decide) (backOf (W := 1) (rmIc33 l Z a0 hw [] b78 cs b80 cA80 (nar .char (q2).toUInt32.toUInt16.toUInt32.toInt32) (nar .char (q3).toUInt32.toUInt16.toUInt32.toInt32) (nar .char (q4).toUInt32.toUInt16.toUInt32.toInt32) h86 n0 Z86 f124 hcs f125 f126 f127 f121 lo_b78 f122 f123 V86 ne_b78_b80 c88 c99 c110) hZ (hwk hw 10 rfl) (hwk hw 6 rfl) (by decide) (by decide)) (g := (mkF m 92 #[iv q1, iv q2, iv q3, iv q4, iv (3 : Int32)] [(.ref b80), (.ref b78), (.ref b78)])) rfl (by rw [hml]; rfl) (Steps.refl _) (a := b78) (argsL := [(.ref b80)]) (rest := [(.ref b78)]) (lenOf pd___C_V_b97 rfl) rfl (by show 2 * 0 + _ ≤ _; exact Nat.le_of_eq rfl) (hb hby dmethod_2_92) (fun _ _ => ⟨rfl, e86, (by decide : 2 + 1 ≤ 4), (by decide : 7 + 3 ≤ 16)⟩)
          dsimp only [Pt.U, Pt.locs, Pt.cells, Pt.slots] at X128 l128 y128 z128 st128 hQ128
          subst l128 y128 z128
          obtain ⟨rfl, N128q, K128⟩ := hQ128
          have hk := Nat.le_trans hk K128.1
          have KK129 := KK87.trans K128 (allS (Or.inr sz_b78) all0)
          have Z128 : n0 ≤ T128.heap.size := Nat.le_trans Z86 K128.1
          have N128 := Fr.app N86 N128q
          refine Goes.sts st128 ?_
          show Gs p e below _ T128 m 95 #[iv q1, iv q2, iv q3, iv q4, iv (3 : Int32)] [(.ref b78)]
          have f130 := (f121.keep K128)
          refine Goes.retA X128 hx hret rfl rfl rfl (hb hby dmethod_2_95) (lvV X128 hlk hS hk (vsome hret) ?_ (by decide) (by decide))
          exact ⟨b78, rfl, N128, KK129, sz_b78, lo_b78, f130⟩
theorem dj30_1_0 : decode jdk_30_method_1_code 0 = .ok (.aload_n 0, 1) := by decide +kernel
theorem dj30_1_1 : decode jdk_30_method_1_code 1 = .ok (.invokespecial 1, 3) := by decide +kernel
theorem dj30_1_4 : decode jdk_30_method_1_code 4 = .ok (.return_, 1) := by decide +kernel
theorem pn_java_lang_Record : plainName "java/lang/Record" = true := by first | (simp [plainName, overriddenIn]; done) | decide +kernel
theorem ef_Rec (m : MethodId) (x0 : Addr) : entryFrame m #[(.ref x0)] 1 = mkF m 0 #[rv x0] [] := by first | (simp [entryFrame, mkF, argsToLocals, Value.category]; done) | rfl
def QRec (Z : State) (a : Addr) (h0 : Heap) (n0 : Nat) (v : Option Value) (h : Heap) (L : List Loc) : Prop := v = none ∧ Fr n0 L ∧ h = h0
set_option maxRecDepth 65536 in
set_option maxHeartbeats 40000000 in
theorem rmRec (l : Launch) (Z : State) (a0 : Array Value) (hw : ∀ d ∈ tables_1, d.before a0 Z = true) (ws : List Jvm.Cond) (a : Addr) (h0 : Heap) (n0 : Nat) (Z0 : n0 ≤ h0.size)  :
    MetFree l mN11 (head1 (Jvm.Cond.code mN11 jdk_30_method_1_code 1 none :: ws) ({ frames := 1, cells := 0, slots := 0, locals := 12 } : Room)) (fun aa U => aa = #[(.ref a)] ∧ Z.Warmed39 U.vm ∧ U.heap = h0) (fun _ _ _ _ _ => True) (fun _ u1_ o_ u2_ => ∃ v_ l_, o_ = .returned v_ ∧ QRec Z a h0 n0 v_ u2_.heap l_ ∧ FrameEnd u1_ o_ u2_ l_ ({ frames := 1, cells := 0, slots := 0, locals := 12 } : Room).cells ({ frames := 1, cells := 0, slots := 0, locals := 12 } : Room).slots) := by
  refine MetFree.of_bodySF (plainFor_of_name pn_java_lang_Record) hisR ?_
  intro p e s m args below meth c s₁ Bd hml0 hP hK
  obtain ⟨rfl, hZ, hh⟩ := hP
  have hx := Bd.exec
  have hby := Bd.bytes
  have hlk := BodyLoose.notSynchronized Bd
  have hret := Bd.returns
  have hml : c.maxLocals = 1 := hml0
  have hown : s.vm.findClass "java/lang/Record" = some m.cls := findClass_of_methodNamed Bd.named
  have hnm := (name_of_methodNamed Bd.named Bd.method).1
  have X0 : Stand p l e ({ frames := 1, cells := 0, slots := 0, locals := 12 } : Room) s m #[(.ref a)] below meth c s₁ [] 0 0 := Stand.of_body Bd
  have e0 : s₁.heap = h0 := by rw [← hh, Bd.state]; rfl
  have N0 := Fr.nil n0
  refine Goes.st (E := (EN s (QRec Z a h0 n0) ({ frames := 1, cells := 0, slots := 0, locals := 12 } : Room).cells ({ frames := 1, cells := 0, slots := 0, locals := 12 } : Room).slots)) (fun tg kg => castTop (ef_Rec m a) kg) ?_
  show Gs p e below _ s₁ m 0 #[rv a] []
  refine galoadN X0 hx (hb hby dj30_1_0) rfl rfl ?_
  obtain ⟨T1, X1, e1, st1⟩ := initO X0 hx hZ hown (hwk hw 45 rfl) (hwk hw 16 rfl) (hwk hw 17 rfl) e0 (g := (mkF m 1 #[rv a] [(.ref a)])) rfl (by rw [hml]; rfl) rfl (hb hby dj30_1_1) (by decide) (W := 0) (by show 2 * 0 + _ ≤ _; exact Nat.le_of_eq rfl) (by decide)
  refine Goes.st st1 ?_
  show Gs p e below _ T1 m 4 #[rv a] []
  refine Goes.retV X1 hx hret (hb hby dj30_1_4) (lvN X1 hlk (fun _ => rfl) ?_ (by decide) (by decide))
  rw [e1]
  exact ⟨rfl, N0, rfl⟩
theorem dp14_1_0 : decode prog_14_method_1_code 0 = .ok (.aload_n 0, 1) := by decide +kernel
theorem dp14_1_1 : decode prog_14_method_1_code 1 = .ok (.invokespecial 1, 3) := by decide +kernel
theorem dp14_1_4 : decode prog_14_method_1_code 4 = .ok (.aload_n 0, 1) := by decide +kernel
theorem dp14_1_5 : decode prog_14_method_1_code 5 = .ok (.aload_n 1, 1) := by decide +kernel
theorem dp14_1_6 : decode prog_14_method_1_code 6 = .ok (.putfield 7, 3) := by decide +kernel
theorem dp14_1_9 : decode prog_14_method_1_code 9 = .ok (.aload_n 0, 1) := by decide +kernel
theorem dp14_1_10 : decode prog_14_method_1_code 10 = .ok (.iload_n 2, 1) := by decide +kernel
theorem dp14_1_11 : decode prog_14_method_1_code 11 = .ok (.putfield 13, 3) := by decide +kernel
theorem dp14_1_14 : decode prog_14_method_1_code 14 = .ok (.return_, 1) := by decide +kernel
theorem pn_lucerna_ontology_Role : plainName "lucerna/ontology/Role" = true := by first | (simp [plainName, overriddenIn]; done) | decide +kernel
theorem pd___V_566 : parseMethodDescriptor "()V" = some ⟨[], none⟩ := by decide +kernel
theorem ef_Ro (m : MethodId) (x0 : Addr) (x1 : Addr) (x2 : Int32) : entryFrame m #[(.ref x0), (.ref x1), (.int x2)] 3 = mkF m 0 #[rv x0, rv x1, iv x2] [] := by first | (simp [entryFrame, mkF, argsToLocals, Value.category]; done) | rfl
def QRo (Z : State) (a rp : Addr) (fb : Int32) (u0 u1 : Value) (h0 : Heap) (n0 : Nat) (v : Option Value) (h : Heap) (L : List Loc) : Prop := v = none ∧ Fr n0 L ∧ Keep h0 h [a] ∧ Fld Z h a "lucerna/ontology/Role" "property" "Ljava/lang/String;" (.ref rp) ∧ Fld Z h a "lucerna/ontology/Role" "inverted" "Z" (.int fb)
set_option maxRecDepth 65536 in
set_option maxHeartbeats 40000000 in
theorem rmRo (l : Launch) (Z : State) (a0 : Array Value) (hw : ∀ d ∈ tables_1, d.before a0 Z = true) (ws : List Jvm.Cond) (a rp : Addr) (fb : Int32) (u0 u1 : Value) (h0 : Heap) (n0 : Nat) (Z0 : n0 ≤ h0.size) (Ea : Exa Z h0 a "lucerna/ontology/Role") (ga : n0 ≤ a) (hfb : fb = 0 ∨ fb = 1) (Fproperty : Fld Z h0 a "lucerna/ontology/Role" "property" "Ljava/lang/String;" u0) (Finverted : Fld Z h0 a "lucerna/ontology/Role" "inverted" "Z" u1) :
    MetFree l mN12 (head1 (Jvm.Cond.code mN12 prog_14_method_1_code 3 none :: ws) ({ frames := 2, cells := 0, slots := 0, locals := 24 } : Room)) (fun aa U => aa = #[(.ref a), (.ref rp), (.int fb)] ∧ Z.Warmed39 U.vm ∧ U.heap = h0) (fun _ _ _ _ _ => True) (fun _ u1_ o_ u2_ => ∃ v_ l_, o_ = .returned v_ ∧ QRo Z a rp fb u0 u1 h0 n0 v_ u2_.heap l_ ∧ FrameEnd u1_ o_ u2_ l_ ({ frames := 2, cells := 0, slots := 0, locals := 24 } : Room).cells ({ frames := 2, cells := 0, slots := 0, locals := 24 } : Room).slots) := by
  refine MetFree.of_bodySF (plainFor_of_name pn_lucerna_ontology_Role) hisR ?_
  intro p e s m args below meth c s₁ Bd hml0 hP hK
  obtain ⟨rfl, hZ, hh⟩ := hP
  have hx := Bd.exec
  have hby := Bd.bytes
  have hlk := BodyLoose.notSynchronized Bd
  have hret := Bd.returns
  have hml : c.maxLocals = 3 := hml0
  have hown : s.vm.findClass "lucerna/ontology/Role" = some m.cls := findClass_of_methodNamed Bd.named
  have hnm := (name_of_methodNamed Bd.named Bd.method).1
  have X0 : Stand p l e ({ frames := 2, cells := 0, slots := 0, locals := 24 } : Room) s m #[(.ref a), (.ref rp), (.int fb)] below meth c s₁ [] 0 0 := Stand.of_body Bd
  have e0 : s₁.heap = h0 := by rw [← hh, Bd.state]; rfl
  have N0 := Fr.nil n0
  refine Goes.st (E := (EN s (QRo Z a rp fb u0 u1 h0 n0) ({ frames := 2, cells := 0, slots := 0, locals := 24 } : Room).cells ({ frames := 2, cells := 0, slots := 0, locals := 24 } : Room).slots)) (fun tg kg => castTop (ef_Ro m a rp fb) kg) ?_
  have K0 : Keep h0 h0 [a] := Keep.refl _ _
  show Gs p e below _ s₁ m 0 #[rv a, rv rp, iv fb] []
  refine galoadN X0 hx (hb hby dp14_1_0) rfl rfl ?_
  obtain ⟨_, _, ⟨T1, L1, k1, n1⟩, -, X1, ⟨Lc1, hQ1, l1, y1, z1⟩, st1⟩ := X0.specialBack hx (y := mN11) rfl hown (mvT hZ (hwk hw 40 rfl)) (mvT hZ (hwk hw 41 rfl)) (mvT hZ (hwk hw 44 rfl)) (by decide) (backOf (W := 0) (rmRec l Z a0 hw [] a h0 n0 Z0 ) hZ (hwk hw 44 rfl) (hwk hw 43 rfl) (by decide) (by decide)) (g := (mkF m 1 #[rv a, rv rp, iv fb] [(.ref a)])) rfl (by rw [hml]; rfl) (Steps.refl _) (a := a) (argsL := []) (rest := []) (lenOf pd___V_566 rfl) rfl (by show 2 * 0 + _ ≤ _; exact Nat.le_of_eq rfl) (hb hby dp14_1_1) (fun _ _ => ⟨rfl, e0, (by decide : 0 + 0 ≤ 0), (by decide : 0 + 0 ≤ 0)⟩)
  dsimp only [Pt.U, Pt.locs, Pt.cells, Pt.slots] at X1 l1 y1 z1 st1 hQ1
  subst l1 y1 z1
  obtain ⟨rfl, N1q, eh1⟩ := hQ1
  have N1 := Fr.app N0 N1q
  refine Goes.sts st1 ?_
  show Gs p e below _ T1 m 4 #[rv a, rv rp, iv fb] []
  refine galoadN X1 hx (hb hby dp14_1_4) rfl rfl ?_
  refine galoadN X1 hx (hb hby dp14_1_5) rfl rfl ?_
  obtain ⟨T2, h2, X2, e2, W2, st2⟩ := putF X1 hx hZ hown (host := "") (Or.inl (hwk hw 46 rfl)) Via.refl eh1 Fproperty Ea (Or.inr ⟨(hwk hw 47 rfl), rfl, hnm⟩) (hwk hw 35 rfl) (ty := (.object "java/lang/String")) (by decide) rfl rfl (g := (mkF m 6 #[rv a, rv rp, iv fb] [(.ref rp), (.ref a)])) rfl rfl (hb hby dp14_1_6)
  have N2 := Fr.snoc X2 N1 ga
  have G2 := Fproperty.same W2
  refine Goes.st st2 ?_
  have KK3 := K0.wr W2 (Or.inl (List.mem_of_getElem? (i := 0) rfl))
  have Z2 : n0 ≤ h2.size := by have := W2.size; have := Z0; omega
  show Gs p e below _ T2 m 9 #[rv a, rv rp, iv fb] []
  refine galoadN X2 hx (hb hby dp14_1_9) rfl rfl ?_
  refine giloadN X2 hx (hb hby dp14_1_10) rfl ?_
  have f5 := (Finverted.other W2 (Or.inr (slot_ne (Or.inr (hwk hw 49 rfl)) (Or.inr (hwk hw 47 rfl)) (by decide) (t := .boolean) (t' := (.object "java/lang/String")) (by decide) (by decide))))
  have f6 := (Ea.wr W2)
  obtain ⟨T4, h4, X4, e4, W4, st4⟩ := putFN X2 hx hZ hown (hwk hw 48 rfl) Via.refl e2 f5 f6 (Or.inr ⟨(hwk hw 49 rfl), rfl, hnm⟩) (hwk hw 35 rfl) (ty := .boolean) (v' := (.int fb)) (by decide) (by rcases hfb with rfl | rfl <;> rfl) (by rcases hfb with rfl | rfl <;> rfl) (g := (mkF m 11 #[rv a, rv rp, iv fb] [(.int fb), (.ref a)])) rfl rfl (hb hby dp14_1_11)
  have N4 := Fr.snoc X4 N2 ga
  have G4 := f5.same W4
  refine Goes.st st4 ?_
  have KK7 := KK3.wr W4 (Or.inl (List.mem_of_getElem? (i := 0) rfl))
  have Z4 : n0 ≤ h4.size := by have := W4.size; have := Z2; omega
  show Gs p e below _ T4 m 14 #[rv a, rv rp, iv fb] []
  have f8 := (G2.other W4 (Or.inr (slot_ne (Or.inr (hwk hw 47 rfl)) (Or.inr (hwk hw 49 rfl)) (by decide) (t := (.object "java/lang/String")) (t' := .boolean) (by decide) (by decide))))
  refine Goes.retV X4 hx hret (hb hby dp14_1_14) (lvN X4 hlk (fun _ => rfl) ?_ (by decide) (by decide))
  rw [e4]
  exact ⟨rfl, N4, KK7, f8, G4⟩
theorem dp14_4_0 : decode prog_14_method_4_code 0 = .ok (.new 8, 3) := by decide +kernel
theorem dp14_4_3 : decode prog_14_method_4_code 3 = .ok (.dup, 1) := by decide +kernel
theorem dp14_4_4 : decode prog_14_method_4_code 4 = .ok (.aload_n 0, 1) := by decide +kernel
theorem dp14_4_5 : decode prog_14_method_4_code 5 = .ok (.getfield 7, 3) := by decide +kernel
theorem dp14_4_8 : decode prog_14_method_4_code 8 = .ok (.aload_n 0, 1) := by decide +kernel
theorem dp14_4_9 : decode prog_14_method_4_code 9 = .ok (.getfield 13, 3) := by decide +kernel
theorem dp14_4_12 : decode prog_14_method_4_code 12 = .ok (.ifCond .ne 7, 3) := by decide +kernel
theorem dp14_4_15 : decode prog_14_method_4_code 15 = .ok (.iconst 1, 1) := by decide +kernel
theorem dp14_4_16 : decode prog_14_method_4_code 16 = .ok (.goto 4, 3) := by decide +kernel
theorem dp14_4_19 : decode prog_14_method_4_code 19 = .ok (.iconst 0, 1) := by decide +kernel
theorem dp14_4_20 : decode prog_14_method_4_code 20 = .ok (.invokespecial 31, 3) := by decide +kernel
theorem dp14_4_23 : decode prog_14_method_4_code 23 = .ok (.areturn, 1) := by decide +kernel
theorem pd__Ljava_lang_String_Z_V_855e : parseMethodDescriptor "(Ljava/lang/String;Z)V" = some ⟨[(.object "java/lang/String"), .boolean], none⟩ := by decide +kernel
theorem ef_In0 (m : MethodId) (x0 : Addr) : entryFrame m #[(.ref x0)] 1 = mkF m 0 #[rv x0] [] := by first | (simp [entryFrame, mkF, argsToLocals, Value.category]; done) | rfl
def QIn0 (Z : State) (a rp : Addr) (h0 : Heap) (n0 : Nat) (v : Option Value) (h : Heap) (L : List Loc) : Prop := ∃ (b : Addr), v = some (.ref b) ∧ Fr n0 L ∧ Keep h0 h [] ∧ h0.size ≤ b ∧ n0 ≤ b ∧ Exa Z h b "lucerna/ontology/Role" ∧ Fld Z h b "lucerna/ontology/Role" "property" "Ljava/lang/String;" (.ref rp) ∧ Fld Z h b "lucerna/ontology/Role" "inverted" "Z" (.int (1 : Int32))
set_option maxRecDepth 65536 in
set_option maxHeartbeats 40000000 in
theorem rmIn0 (l : Launch) (Z : State) (a0 : Array Value) (hw : ∀ d ∈ tables_1, d.before a0 Z = true) (ws : List Jvm.Cond) (a rp : Addr) (h0 : Heap) (n0 : Nat) (Z0 : n0 ≤ h0.size) (Fp : Fld Z h0 a "lucerna/ontology/Role" "property" "Ljava/lang/String;" (.ref rp)) (Fi : Fld Z h0 a "lucerna/ontology/Role" "inverted" "Z" (.int (0 : Int32))) :
    MetFree l mN13 (head1 (Jvm.Cond.code mN13 prog_14_method_4_code 1 (some (.object "lucerna/ontology/Role")) :: ws) ({ frames := 3, cells := 1, slots := 2, locals := 39 } : Room)) (fun aa U => aa = #[(.ref a)] ∧ Z.Warmed39 U.vm ∧ U.heap = h0) (fun _ _ _ _ _ => True) (fun _ u1_ o_ u2_ => ∃ v_ l_, o_ = .returned v_ ∧ QIn0 Z a rp h0 n0 v_ u2_.heap l_ ∧ FrameEnd u1_ o_ u2_ l_ ({ frames := 3, cells := 1, slots := 2, locals := 39 } : Room).cells ({ frames := 3, cells := 1, slots := 2, locals := 39 } : Room).slots) := by
  refine MetFree.of_bodySF (plainFor_of_name pn_lucerna_ontology_Role) hisR ?_
  intro p e s m args below meth c s₁ Bd hml0 hP hK
  obtain ⟨rfl, hZ, hh⟩ := hP
  have hx := Bd.exec
  have hby := Bd.bytes
  have hlk := BodyLoose.notSynchronized Bd
  have hret := Bd.returns
  have hml : c.maxLocals = 1 := hml0
  have hown : s.vm.findClass "lucerna/ontology/Role" = some m.cls := findClass_of_methodNamed Bd.named
  have hnm := (name_of_methodNamed Bd.named Bd.method).1
  have X0 : Stand p l e ({ frames := 3, cells := 1, slots := 2, locals := 39 } : Room) s m #[(.ref a)] below meth c s₁ [] 0 0 := Stand.of_body Bd
  have e0 : s₁.heap = h0 := by rw [← hh, Bd.state]; rfl
  have N0 := Fr.nil n0
  refine Goes.st (E := (EN s (QIn0 Z a rp h0 n0) ({ frames := 3, cells := 1, slots := 2, locals := 39 } : Room).cells ({ frames := 3, cells := 1, slots := 2, locals := 39 } : Room).slots)) (fun tg kg => castTop (ef_In0 m a) kg) ?_
  have K0 : Keep h0 h0 [] := Keep.refl _ _
  show Gs p e below _ s₁ m 0 #[rv a] []
  obtain ⟨T1, h1, X1, e1, E1, A1, D1, -, st1⟩ := newO X0 hx hZ hown (hwk hw 55 rfl) (hwk hw 35 rfl) (hwk hw 36 rfl) e0 (g := (mkF m 0 #[rv a] [])) rfl (hb hby dp14_4_0) (by decide) (by decide)
  obtain ⟨b1, g1⟩ : ∃ z, z = h0.size := ⟨_, rfl⟩
  rw [← g1] at A1 D1 st1
  have ne_a_b1 : a ≠ b1 := Nat.ne_of_lt (Nat.lt_of_lt_of_le Fp.lt (Nat.le_of_eq g1.symm))
  have lo_b1 : n0 ≤ b1 := by have := Z0; omega
  have sz_b1 : h0.size ≤ b1 := by have := K0.1; omega
  refine Goes.st st1 ?_
  have KK2 := K0.ext E1
  have Z1 : n0 ≤ h1.size := Nat.le_trans Z0 E1.1
  have F1_property : Fld Z h1 b1 "lucerna/ontology/Role" "property" "Ljava/lang/String;" .null := D1 (Or.inr (hwk hw 47 rfl)) (ty := (.object "java/lang/String")) (by decide)
  have F1_inverted : Fld Z h1 b1 "lucerna/ontology/Role" "inverted" "Z" (.int (0 : Int32)) := D1 (Or.inr (hwk hw 49 rfl)) (ty := .boolean) (by decide)
  show Gs p e below _ T1 m 3 #[rv a] [(.ref b1)]
  refine gdup X1 hx (hb hby dp14_4_3) trivial rfl ?_
  refine galoadN X1 hx (hb hby dp14_4_4) rfl rfl ?_
  have f4 := (Fp.ext E1)
  obtain ⟨T3, X3, e3, st3⟩ := getF X1 hx hZ hown (host := "") (Or.inl (hwk hw 46 rfl)) Via.refl e1 f4 (g := (mkF m 5 #[rv a] [(.ref a), (.ref b1), (.ref b1)])) rfl rfl (hb hby dp14_4_5)
  refine Goes.st st3 ?_
  refine galoadN X3 hx (hb hby dp14_4_8) rfl rfl ?_
  have f6 := (Fi.ext E1)
  obtain ⟨T5, X5, e5, st5⟩ := getF X3 hx hZ hown (host := "") (Or.inl (hwk hw 48 rfl)) Via.refl e3 f6 (g := (mkF m 9 #[rv a] [(.ref a), (.ref rp), (.ref b1), (.ref b1)])) rfl rfl (hb hby dp14_4_9)
  refine Goes.st st5 ?_
  show Gs p e below _ T5 m 12 #[rv a] [(.int (0 : Int32)), (.ref rp), (.ref b1), (.ref b1)]
  refine gifNo X5 hx (hb hby dp14_4_12) (by decide) ?_
  show Gs p e below _ T5 m 15 #[rv a] [(.ref rp), (.ref b1), (.ref b1)]
  refine giconst X5 hx (hb hby dp14_4_15) ?_
  show Gs p e below _ T5 m 16 #[rv a] [(.int (1 : Int32)), (.ref rp), (.ref b1), (.ref b1)]
  refine ggoto X5 hx (pc' := 20) (hb hby dp14_4_16) (by decide) (by decide) ?_
  show Gs p e below _ T5 m 20 #[rv a] [(.int (1 : Int32)), (.ref rp), (.ref b1), (.ref b1)]
  obtain ⟨_, _, ⟨T7, L7, k7, n7⟩, -, X7, ⟨Lc7, hQ7, l7, y7, z7⟩, st7⟩ := X5.specialBack hx (y := mN12) rfl hown (mvT hZ (hwk hw 56 rfl)) (mvT hZ (hwk hw 38 rfl)) (mvT hZ (hwk hw 39 rfl)) (by decide) (backOf (W := 1) (rmRo l Z a0 hw [] b1 rp (1 : Int32) .null (.int (0 : Int32)) h1 n0 Z1 A1 lo_b1 (by decide) F1_property F1_inverted) hZ (hwk hw 39 rfl) (hwk hw 36 rfl) (by decide) (by decide)) (g := (mkF m 20 #[rv a] [(.int (1 : Int32)), (.ref rp), (.ref b1), (.ref b1)])) rfl (by rw [hml]; rfl) (Steps.refl _) (a := b1) (argsL := [(.ref rp), (.int (1 : Int32))]) (rest := [(.ref b1)]) (lenOf pd__Ljava_lang_String_Z_V_855e rfl) rfl (by show 2 * 0 + _ ≤ _; exact Nat.le_of_eq rfl) (hb hby dp14_4_20) (fun _ _ => ⟨rfl, e5, (by decide : 1 + 0 ≤ 1), (by decide : 2 + 0 ≤ 2)⟩)
  dsimp only [Pt.U, Pt.locs, Pt.cells, Pt.slots] at X7 l7 y7 z7 st7 hQ7
  subst l7 y7 z7
  obtain ⟨rfl, N7q, K7, R7_0, R7_1⟩ := hQ7
  have KK8 := KK2.trans K7 (allS (Or.inr sz_b1) all0)
  have Z7 : n0 ≤ T7.heap.size := Nat.le_trans Z1 K7.1
  have N7 := Fr.app N0 N7q
  refine Goes.sts st7 ?_
  show Gs p e below _ T7 m 23 #[rv a] [(.ref b1)]
  have f9 := (A1.keep K7)
  refine Goes.retA X7 hx hret rfl rfl rfl (hb hby dp14_4_23) (lvN X7 hlk (vsome hret) ?_ (by decide) (by decide))
  exact ⟨b1, rfl, N7, KK8, sz_b1, lo_b1, f9, R7_0, R7_1⟩
theorem ef_In1 (m : MethodId) (x0 : Addr) : entryFrame m #[(.ref x0)] 1 = mkF m 0 #[rv x0] [] := by first | (simp [entryFrame, mkF, argsToLocals, Value.category]; done) | rfl
def QIn1 (Z : State) (a rp : Addr) (h0 : Heap) (n0 : Nat) (v : Option Value) (h : Heap) (L : List Loc) : Prop := ∃ (b : Addr), v = some (.ref b) ∧ Fr n0 L ∧ Keep h0 h [] ∧ h0.size ≤ b ∧ n0 ≤ b ∧ Exa Z h b "lucerna/ontology/Role" ∧ Fld Z h b "lucerna/ontology/Role" "property" "Ljava/lang/String;" (.ref rp) ∧ Fld Z h b "lucerna/ontology/Role" "inverted" "Z" (.int (0 : Int32))
set_option maxRecDepth 65536 in
set_option maxHeartbeats 40000000 in
theorem rmIn1 (l : Launch) (Z : State) (a0 : Array Value) (hw : ∀ d ∈ tables_1, d.before a0 Z = true) (ws : List Jvm.Cond) (a rp : Addr) (h0 : Heap) (n0 : Nat) (Z0 : n0 ≤ h0.size) (Fp : Fld Z h0 a "lucerna/ontology/Role" "property" "Ljava/lang/String;" (.ref rp)) (Fi : Fld Z h0 a "lucerna/ontology/Role" "inverted" "Z" (.int (1 : Int32))) :
    MetFree l mN13 (head1 (Jvm.Cond.code mN13 prog_14_method_4_code 1 (some (.object "lucerna/ontology/Role")) :: ws) ({ frames := 3, cells := 1, slots := 2, locals := 39 } : Room)) (fun aa U => aa = #[(.ref a)] ∧ Z.Warmed39 U.vm ∧ U.heap = h0) (fun _ _ _ _ _ => True) (fun _ u1_ o_ u2_ => ∃ v_ l_, o_ = .returned v_ ∧ QIn1 Z a rp h0 n0 v_ u2_.heap l_ ∧ FrameEnd u1_ o_ u2_ l_ ({ frames := 3, cells := 1, slots := 2, locals := 39 } : Room).cells ({ frames := 3, cells := 1, slots := 2, locals := 39 } : Room).slots) := by
  refine MetFree.of_bodySF (plainFor_of_name pn_lucerna_ontology_Role) hisR ?_
  intro p e s m args below meth c s₁ Bd hml0 hP hK
  obtain ⟨rfl, hZ, hh⟩ := hP
  have hx := Bd.exec
  have hby := Bd.bytes
  have hlk := BodyLoose.notSynchronized Bd
  have hret := Bd.returns
  have hml : c.maxLocals = 1 := hml0
  have hown : s.vm.findClass "lucerna/ontology/Role" = some m.cls := findClass_of_methodNamed Bd.named
  have hnm := (name_of_methodNamed Bd.named Bd.method).1
  have X0 : Stand p l e ({ frames := 3, cells := 1, slots := 2, locals := 39 } : Room) s m #[(.ref a)] below meth c s₁ [] 0 0 := Stand.of_body Bd
  have e0 : s₁.heap = h0 := by rw [← hh, Bd.state]; rfl
  have N0 := Fr.nil n0
  refine Goes.st (E := (EN s (QIn1 Z a rp h0 n0) ({ frames := 3, cells := 1, slots := 2, locals := 39 } : Room).cells ({ frames := 3, cells := 1, slots := 2, locals := 39 } : Room).slots)) (fun tg kg => castTop (ef_In1 m a) kg) ?_
  have K0 : Keep h0 h0 [] := Keep.refl _ _
  show Gs p e below _ s₁ m 0 #[rv a] []
  obtain ⟨T1, h1, X1, e1, E1, A1, D1, -, st1⟩ := newO X0 hx hZ hown (hwk hw 55 rfl) (hwk hw 35 rfl) (hwk hw 36 rfl) e0 (g := (mkF m 0 #[rv a] [])) rfl (hb hby dp14_4_0) (by decide) (by decide)
  obtain ⟨b1, g1⟩ : ∃ z, z = h0.size := ⟨_, rfl⟩
  rw [← g1] at A1 D1 st1
  have ne_a_b1 : a ≠ b1 := Nat.ne_of_lt (Nat.lt_of_lt_of_le Fp.lt (Nat.le_of_eq g1.symm))
  have lo_b1 : n0 ≤ b1 := by have := Z0; omega
  have sz_b1 : h0.size ≤ b1 := by have := K0.1; omega
  refine Goes.st st1 ?_
  have KK2 := K0.ext E1
  have Z1 : n0 ≤ h1.size := Nat.le_trans Z0 E1.1
  have F1_property : Fld Z h1 b1 "lucerna/ontology/Role" "property" "Ljava/lang/String;" .null := D1 (Or.inr (hwk hw 47 rfl)) (ty := (.object "java/lang/String")) (by decide)
  have F1_inverted : Fld Z h1 b1 "lucerna/ontology/Role" "inverted" "Z" (.int (0 : Int32)) := D1 (Or.inr (hwk hw 49 rfl)) (ty := .boolean) (by decide)
  show Gs p e below _ T1 m 3 #[rv a] [(.ref b1)]
  refine gdup X1 hx (hb hby dp14_4_3) trivial rfl ?_
  refine galoadN X1 hx (hb hby dp14_4_4) rfl rfl ?_
  have f4 := (Fp.ext E1)
  obtain ⟨T3, X3, e3, st3⟩ := getF X1 hx hZ hown (host := "") (Or.inl (hwk hw 46 rfl)) Via.refl e1 f4 (g := (mkF m 5 #[rv a] [(.ref a), (.ref b1), (.ref b1)])) rfl rfl (hb hby dp14_4_5)
  refine Goes.st st3 ?_
  refine galoadN X3 hx (hb hby dp14_4_8) rfl rfl ?_
  have f6 := (Fi.ext E1)
  obtain ⟨T5, X5, e5, st5⟩ := getF X3 hx hZ hown (host := "") (Or.inl (hwk hw 48 rfl)) Via.refl e3 f6 (g := (mkF m 9 #[rv a] [(.ref a), (.ref rp), (.ref b1), (.ref b1)])) rfl rfl (hb hby dp14_4_9)
  refine Goes.st st5 ?_
  show Gs p e below _ T5 m 12 #[rv a] [(.int (1 : Int32)), (.ref rp), (.ref b1), (.ref b1)]
  refine gifYes X5 hx (pc' := 19) (hb hby dp14_4_12) (by decide) (by decide) (by decide) ?_
  show Gs p e below _ T5 m 19 #[rv a] [(.ref rp), (.ref b1), (.ref b1)]
  refine giconst X5 hx (hb hby dp14_4_19) ?_
  obtain ⟨_, _, ⟨T7, L7, k7, n7⟩, -, X7, ⟨Lc7, hQ7, l7, y7, z7⟩, st7⟩ := X5.specialBack hx (y := mN12) rfl hown (mvT hZ (hwk hw 56 rfl)) (mvT hZ (hwk hw 38 rfl)) (mvT hZ (hwk hw 39 rfl)) (by decide) (backOf (W := 1) (rmRo l Z a0 hw [] b1 rp (0 : Int32) .null (.int (0 : Int32)) h1 n0 Z1 A1 lo_b1 (by decide) F1_property F1_inverted) hZ (hwk hw 39 rfl) (hwk hw 36 rfl) (by decide) (by decide)) (g := (mkF m 20 #[rv a] [(.int (0 : Int32)), (.ref rp), (.ref b1), (.ref b1)])) rfl (by rw [hml]; rfl) (Steps.refl _) (a := b1) (argsL := [(.ref rp), (.int (0 : Int32))]) (rest := [(.ref b1)]) (lenOf pd__Ljava_lang_String_Z_V_855e rfl) rfl (by show 2 * 0 + _ ≤ _; exact Nat.le_of_eq rfl) (hb hby dp14_4_20) (fun _ _ => ⟨rfl, e5, (by decide : 1 + 0 ≤ 1), (by decide : 2 + 0 ≤ 2)⟩)
  dsimp only [Pt.U, Pt.locs, Pt.cells, Pt.slots] at X7 l7 y7 z7 st7 hQ7
  subst l7 y7 z7
  obtain ⟨rfl, N7q, K7, R7_0, R7_1⟩ := hQ7
  have KK8 := KK2.trans K7 (allS (Or.inr sz_b1) all0)
  have Z7 : n0 ≤ T7.heap.size := Nat.le_trans Z1 K7.1
  have N7 := Fr.app N0 N7q
  refine Goes.sts st7 ?_
  show Gs p e below _ T7 m 23 #[rv a] [(.ref b1)]
  have f9 := (A1.keep K7)
  refine Goes.retA X7 hx hret rfl rfl rfl (hb hby dp14_4_23) (lvN X7 hlk (vsome hret) ?_ (by decide) (by decide))
  exact ⟨b1, rfl, N7, KK8, sz_b1, lo_b1, f9, R7_0, R7_1⟩
theorem dp14_8_0 : decode prog_14_method_8_code 0 = .ok (.aload_n 0, 1) := by decide +kernel
theorem dp14_8_1 : decode prog_14_method_8_code 1 = .ok (.getfield 7, 3) := by decide +kernel
theorem dp14_8_4 : decode prog_14_method_8_code 4 = .ok (.areturn, 1) := by decide +kernel
theorem ef_Gp (m : MethodId) (x0 : Addr) : entryFrame m #[(.ref x0)] 1 = mkF m 0 #[rv x0] [] := by first | (simp [entryFrame, mkF, argsToLocals, Value.category]; done) | rfl
def QGp (Z : State) (a rp : Addr) (h0 : Heap) (n0 : Nat) (v : Option Value) (h : Heap) (L : List Loc) : Prop := v = some (.ref rp) ∧ Fr n0 L ∧ h = h0
set_option maxRecDepth 65536 in
set_option maxHeartbeats 40000000 in
theorem rmGp (l : Launch) (Z : State) (a0 : Array Value) (hw : ∀ d ∈ tables_1, d.before a0 Z = true) (ws : List Jvm.Cond) (a rp : Addr) (h0 : Heap) (n0 : Nat) (Z0 : n0 ≤ h0.size) (Fp : Fld Z h0 a "lucerna/ontology/Role" "property" "Ljava/lang/String;" (.ref rp)) :
    MetFree l mN14 (head1 (Jvm.Cond.code mN14 prog_14_method_8_code 1 (some (.object "java/lang/String")) :: ws) ({ frames := 0, cells := 0, slots := 0, locals := 0 } : Room)) (fun aa U => aa = #[(.ref a)] ∧ Z.Warmed39 U.vm ∧ U.heap = h0) (fun _ _ _ _ _ => True) (fun _ u1_ o_ u2_ => ∃ v_ l_, o_ = .returned v_ ∧ QGp Z a rp h0 n0 v_ u2_.heap l_ ∧ FrameEnd u1_ o_ u2_ l_ ({ frames := 0, cells := 0, slots := 0, locals := 0 } : Room).cells ({ frames := 0, cells := 0, slots := 0, locals := 0 } : Room).slots) := by
  refine MetFree.of_bodySF (plainFor_of_name pn_lucerna_ontology_Role) hisR ?_
  intro p e s m args below meth c s₁ Bd hml0 hP hK
  obtain ⟨rfl, hZ, hh⟩ := hP
  have hx := Bd.exec
  have hby := Bd.bytes
  have hlk := BodyLoose.notSynchronized Bd
  have hret := Bd.returns
  have hml : c.maxLocals = 1 := hml0
  have hown : s.vm.findClass "lucerna/ontology/Role" = some m.cls := findClass_of_methodNamed Bd.named
  have hnm := (name_of_methodNamed Bd.named Bd.method).1
  have X0 : Stand p l e ({ frames := 0, cells := 0, slots := 0, locals := 0 } : Room) s m #[(.ref a)] below meth c s₁ [] 0 0 := Stand.of_body Bd
  have e0 : s₁.heap = h0 := by rw [← hh, Bd.state]; rfl
  have N0 := Fr.nil n0
  refine Goes.st (E := (EN s (QGp Z a rp h0 n0) ({ frames := 0, cells := 0, slots := 0, locals := 0 } : Room).cells ({ frames := 0, cells := 0, slots := 0, locals := 0 } : Room).slots)) (fun tg kg => castTop (ef_Gp m a) kg) ?_
  show Gs p e below _ s₁ m 0 #[rv a] []
  refine galoadN X0 hx (hb hby dp14_8_0) rfl rfl ?_
  obtain ⟨T1, X1, e1, st1⟩ := getF X0 hx hZ hown (host := "") (Or.inl (hwk hw 46 rfl)) Via.refl e0 Fp (g := (mkF m 1 #[rv a] [(.ref a)])) rfl rfl (hb hby dp14_8_1)
  refine Goes.st st1 ?_
  show Gs p e below _ T1 m 4 #[rv a] [(.ref rp)]
  refine Goes.retA X1 hx hret rfl rfl rfl (hb hby dp14_8_4) (lvN X1 hlk (vsome hret) ?_ (by decide) (by decide))
  rw [e1]
  exact ⟨rfl, N0, rfl⟩
theorem dp14_9_0 : decode prog_14_method_9_code 0 = .ok (.aload_n 0, 1) := by decide +kernel
theorem dp14_9_1 : decode prog_14_method_9_code 1 = .ok (.getfield 13, 3) := by decide +kernel
theorem dp14_9_4 : decode prog_14_method_9_code 4 = .ok (.ireturn, 1) := by decide +kernel
theorem ef_Gi (m : MethodId) (x0 : Addr) : entryFrame m #[(.ref x0)] 1 = mkF m 0 #[rv x0] [] := by first | (simp [entryFrame, mkF, argsToLocals, Value.category]; done) | rfl
def QGi (Z : State) (a : Addr) (fb : Int32) (h0 : Heap) (n0 : Nat) (v : Option Value) (h : Heap) (L : List Loc) : Prop := v = some (.int fb) ∧ Fr n0 L ∧ h = h0
set_option maxRecDepth 65536 in
set_option maxHeartbeats 40000000 in
theorem rmGi (l : Launch) (Z : State) (a0 : Array Value) (hw : ∀ d ∈ tables_1, d.before a0 Z = true) (ws : List Jvm.Cond) (a : Addr) (fb : Int32) (h0 : Heap) (n0 : Nat) (Z0 : n0 ≤ h0.size) (Fi : Fld Z h0 a "lucerna/ontology/Role" "inverted" "Z" (.int fb)) (hfb : fb = 0 ∨ fb = 1) :
    MetFree l mN15 (head1 (Jvm.Cond.code mN15 prog_14_method_9_code 1 (some .boolean) :: ws) ({ frames := 0, cells := 0, slots := 0, locals := 0 } : Room)) (fun aa U => aa = #[(.ref a)] ∧ Z.Warmed39 U.vm ∧ U.heap = h0) (fun _ _ _ _ _ => True) (fun _ u1_ o_ u2_ => ∃ v_ l_, o_ = .returned v_ ∧ QGi Z a fb h0 n0 v_ u2_.heap l_ ∧ FrameEnd u1_ o_ u2_ l_ ({ frames := 0, cells := 0, slots := 0, locals := 0 } : Room).cells ({ frames := 0, cells := 0, slots := 0, locals := 0 } : Room).slots) := by
  refine MetFree.of_bodySF (plainFor_of_name pn_lucerna_ontology_Role) hisR ?_
  intro p e s m args below meth c s₁ Bd hml0 hP hK
  obtain ⟨rfl, hZ, hh⟩ := hP
  have hx := Bd.exec
  have hby := Bd.bytes
  have hlk := BodyLoose.notSynchronized Bd
  have hret := Bd.returns
  have hml : c.maxLocals = 1 := hml0
  have hown : s.vm.findClass "lucerna/ontology/Role" = some m.cls := findClass_of_methodNamed Bd.named
  have hnm := (name_of_methodNamed Bd.named Bd.method).1
  have X0 : Stand p l e ({ frames := 0, cells := 0, slots := 0, locals := 0 } : Room) s m #[(.ref a)] below meth c s₁ [] 0 0 := Stand.of_body Bd
  have e0 : s₁.heap = h0 := by rw [← hh, Bd.state]; rfl
  have N0 := Fr.nil n0
  refine Goes.st (E := (EN s (QGi Z a fb h0 n0) ({ frames := 0, cells := 0, slots := 0, locals := 0 } : Room).cells ({ frames := 0, cells := 0, slots := 0, locals := 0 } : Room).slots)) (fun tg kg => castTop (ef_Gi m a) kg) ?_
  show Gs p e below _ s₁ m 0 #[rv a] []
  refine galoadN X0 hx (hb hby dp14_9_0) rfl rfl ?_
  obtain ⟨T1, X1, e1, st1⟩ := getF X0 hx hZ hown (host := "") (Or.inl (hwk hw 48 rfl)) Via.refl e0 Fi (g := (mkF m 1 #[rv a] [(.ref a)])) rfl rfl (hb hby dp14_9_1)
  refine Goes.st st1 ?_
  show Gs p e below _ T1 m 4 #[rv a] [(.int fb)]
  refine Goes.retN X1 hx hret (by simp) (hb hby dp14_9_4) (by rcases hfb with rfl | rfl <;> rfl) (lvN X1 hlk (vsome hret) ?_ (by decide) (by decide))
  rw [e1]
  exact ⟨rfl, N0, rfl⟩
theorem dj42_66_0 : decode jdk_42_method_66_code 0 = .ok (.aload_n 0, 1) := by decide +kernel
theorem dj42_66_1 : decode jdk_42_method_66_code 1 = .ok (.aload_n 1, 1) := by decide +kernel
theorem dj42_66_2 : decode jdk_42_method_66_code 2 = .ok (.if_acmp .ne 5, 3) := by decide +kernel
theorem dj42_66_5 : decode jdk_42_method_66_code 5 = .ok (.iconst 1, 1) := by decide +kernel
theorem dj42_66_6 : decode jdk_42_method_66_code 6 = .ok (.ireturn, 1) := by decide +kernel
theorem dj42_66_7 : decode jdk_42_method_66_code 7 = .ok (.aload_n 1, 1) := by decide +kernel
theorem dj42_66_8 : decode jdk_42_method_66_code 8 = .ok (.instanceof 10, 3) := by decide +kernel
theorem dj42_66_11 : decode jdk_42_method_66_code 11 = .ok (.ifCond .eq 43, 3) := by decide +kernel
theorem dj42_66_14 : decode jdk_42_method_66_code 14 = .ok (.aload_n 1, 1) := by decide +kernel
theorem dj42_66_15 : decode jdk_42_method_66_code 15 = .ok (.checkcast 10, 3) := by decide +kernel
theorem dj42_66_18 : decode jdk_42_method_66_code 18 = .ok (.astore_n 2, 1) := by decide +kernel
theorem dj42_66_19 : decode jdk_42_method_66_code 19 = .ok (.getstatic 38, 3) := by decide +kernel
theorem dj42_66_22 : decode jdk_42_method_66_code 22 = .ok (.ifCond .eq 14, 3) := by decide +kernel
theorem dj42_66_25 : decode jdk_42_method_66_code 25 = .ok (.aload_n 0, 1) := by decide +kernel
theorem dj42_66_26 : decode jdk_42_method_66_code 26 = .ok (.getfield 15, 3) := by decide +kernel
theorem dj42_66_29 : decode jdk_42_method_66_code 29 = .ok (.aload_n 2, 1) := by decide +kernel
theorem dj42_66_30 : decode jdk_42_method_66_code 30 = .ok (.getfield 15, 3) := by decide +kernel
theorem dj42_66_33 : decode jdk_42_method_66_code 33 = .ok (.if_icmp .ne 21, 3) := by decide +kernel
theorem dj42_66_36 : decode jdk_42_method_66_code 36 = .ok (.aload_n 0, 1) := by decide +kernel
theorem dj42_66_37 : decode jdk_42_method_66_code 37 = .ok (.getfield 9, 3) := by decide +kernel
theorem dj42_66_40 : decode jdk_42_method_66_code 40 = .ok (.aload_n 2, 1) := by decide +kernel
theorem dj42_66_41 : decode jdk_42_method_66_code 41 = .ok (.getfield 9, 3) := by decide +kernel
theorem dj42_66_44 : decode jdk_42_method_66_code 44 = .ok (.invokestatic 541, 3) := by decide +kernel
theorem dj42_66_47 : decode jdk_42_method_66_code 47 = .ok (.ifCond .eq 7, 3) := by decide +kernel
theorem dj42_66_50 : decode jdk_42_method_66_code 50 = .ok (.iconst 1, 1) := by decide +kernel
theorem dj42_66_51 : decode jdk_42_method_66_code 51 = .ok (.goto 4, 3) := by decide +kernel
theorem dj42_66_54 : decode jdk_42_method_66_code 54 = .ok (.iconst 0, 1) := by decide +kernel
theorem dj42_66_55 : decode jdk_42_method_66_code 55 = .ok (.ireturn, 1) := by decide +kernel
theorem ef_Eq (m : MethodId) (x0 : Addr) (x1 : Addr) : entryFrame m #[(.ref x0), (.ref x1)] 3 = mkF m 0 #[rv x0, rv x1, .unset] [] := by first | (simp [entryFrame, mkF, argsToLocals, Value.category]; done) | rfl
def QEq (Z : State) (a : Addr) (h0 : Heap) (n0 : Nat) (v : Option Value) (h : Heap) (L : List Loc) : Prop := v = some (.int 1) ∧ Fr n0 L ∧ h = h0
set_option maxRecDepth 65536 in
set_option maxHeartbeats 40000000 in
theorem rmEq (l : Launch) (Z : State) (a0 : Array Value) (hw : ∀ d ∈ tables_1, d.before a0 Z = true) (ws : List Jvm.Cond) (a : Addr) (h0 : Heap) (n0 : Nat) (Z0 : n0 ≤ h0.size)  :
    MetFree l mN16 (head1 (Jvm.Cond.code mN16 jdk_42_method_66_code 3 (some .boolean) :: ws) ({ frames := 0, cells := 0, slots := 0, locals := 0 } : Room)) (fun aa U => aa = #[(.ref a), (.ref a)] ∧ Z.Warmed39 U.vm ∧ U.heap = h0) (fun _ _ _ _ _ => True) (fun _ u1_ o_ u2_ => ∃ v_ l_, o_ = .returned v_ ∧ QEq Z a h0 n0 v_ u2_.heap l_ ∧ FrameEnd u1_ o_ u2_ l_ ({ frames := 0, cells := 0, slots := 0, locals := 0 } : Room).cells ({ frames := 0, cells := 0, slots := 0, locals := 0 } : Room).slots) := by
  refine MetFree.of_bodySF (plainFor_of_name pn_java_lang_String) hisR ?_
  intro p e s m args below meth c s₁ Bd hml0 hP hK
  obtain ⟨rfl, hZ, hh⟩ := hP
  have hx := Bd.exec
  have hby := Bd.bytes
  have hlk := BodyLoose.notSynchronized Bd
  have hret := Bd.returns
  have hml : c.maxLocals = 3 := hml0
  have hown : s.vm.findClass "java/lang/String" = some m.cls := findClass_of_methodNamed Bd.named
  have hnm := (name_of_methodNamed Bd.named Bd.method).1
  have X0 : Stand p l e ({ frames := 0, cells := 0, slots := 0, locals := 0 } : Room) s m #[(.ref a), (.ref a)] below meth c s₁ [] 0 0 := Stand.of_body Bd
  have e0 : s₁.heap = h0 := by rw [← hh, Bd.state]; rfl
  have N0 := Fr.nil n0
  refine Goes.st (E := (EN s (QEq Z a h0 n0) ({ frames := 0, cells := 0, slots := 0, locals := 0 } : Room).cells ({ frames := 0, cells := 0, slots := 0, locals := 0 } : Room).slots)) (fun tg kg => castTop (ef_Eq m a a) kg) ?_
  show Gs p e below _ s₁ m 0 #[rv a, rv a, .unset] []
  refine galoadN X0 hx (hb hby dj42_66_0) rfl rfl ?_
  refine galoadN X0 hx (hb hby dj42_66_1) rfl rfl ?_
  show Gs p e below _ s₁ m 2 #[rv a, rv a, .unset] [(.ref a), (.ref a)]
  refine Goes.st (fun tg kg => XT.acmpNo X0.here hx rfl (hb hby dj42_66_2) rfl rfl rfl (XT.aa_ne_f (rfl : ((.ref a) : Value) = (.ref a))) kg) ?_
  show Gs p e below _ s₁ m 5 #[rv a, rv a, .unset] []
  refine giconst X0 hx (hb hby dj42_66_5) ?_
  show Gs p e below _ s₁ m 6 #[rv a, rv a, .unset] [(.int (1 : Int32))]
  refine Goes.retN X0 hx hret (by simp) (hb hby dj42_66_6) (by decide) (lvN X0 hlk (vsome hret) ?_ (by decide) (by decide))
  rw [e0]
  exact ⟨rfl, N0, rfl⟩
theorem pd__IIII_Ljava_lang_String__9c61 : parseMethodDescriptor "(IIII)Ljava/lang/String;" = some ⟨[.int, .int, .int, .int], some (.object "java/lang/String")⟩ := by decide +kernel
theorem pd___Llucerna_ontology_Role__b191 : parseMethodDescriptor "()Llucerna/ontology/Role;" = some ⟨[], some (.object "lucerna/ontology/Role")⟩ := by decide +kernel
theorem pd___Ljava_lang_String__7667 : parseMethodDescriptor "()Ljava/lang/String;" = some ⟨[], some (.object "java/lang/String")⟩ := by decide +kernel
theorem pd__Ljava_lang_Object__Z_79ae : parseMethodDescriptor "(Ljava/lang/Object;)Z" = some ⟨[(.object "java/lang/Object")], some .boolean⟩ := by decide +kernel
theorem pd___Z_58a : parseMethodDescriptor "()Z" = some ⟨[], some .boolean⟩ := by decide +kernel
theorem ef_0 (m : MethodId) (x0 : Int32) (x1 : Int32) (x2 : Int32) (x3 : Int32) (x4 : Int32) : entryFrame m #[(.int x0), (.int x1), (.int x2), (.int x3), (.int x4)] maxLocals = mkF m 0 #[iv x0, iv x1, iv x2, iv x3, iv x4, .unset, .unset, .unset, .unset, .unset, .unset, .unset] [] := by first | (simp [entryFrame, mkF, argsToLocals, Value.category, maxLocals]; done) | rfl
def Q0 (Z : State) (q0 q1 q2 q3 q4 cs : Int32) (h0 : Heap) (n0 : Nat) (v : Option Value) (h : Heap) (L : List Loc) : Prop := v = some (.int 1) ∧ Fr n0 L
set_option maxRecDepth 65536 in
set_option maxHeartbeats 40000000 in
theorem rm0 (l : Launch) (Z : State) (a0 : Array Value) (hw : ∀ d ∈ tables_1, d.before a0 Z = true) (ws : List Jvm.Cond) (q0 q1 q2 q3 q4 cs : Int32) (h0 : Heap) (n0 : Nat) (Z0 : n0 ≤ h0.size) (Scs : Sta Z h0 "java/lang/String" "COMPACT_STRINGS" "Z" (.int cs)) (hcs : ¬ cs = (0 : Int32)) (Sd : Sta Z h0 "java/lang/StringUTF16" "$assertionsDisabled" "Z" (.int (1 : Int32))) (Sh : Sta Z h0 "java/lang/StringUTF16" "HI_BYTE_SHIFT" "I" (.int (0 : Int32))) (Sl : Sta Z h0 "java/lang/StringUTF16" "LO_BYTE_SHIFT" "I" (.int (8 : Int32))) :
    MetFree l x (head1 (Jvm.Cond.code x code maxLocals ret :: ws) room_1) (fun aa U => aa = #[(.int q0), (.int q1), (.int q2), (.int q3), (.int q4)] ∧ Z.Warmed39 U.vm ∧ U.heap = h0 ∧ CHv Z ELs U.vm h0) (fun _ _ _ _ _ => True) (fun _ u1_ o_ u2_ => ∃ v_ l_, o_ = .returned v_ ∧ Q0 Z q0 q1 q2 q3 q4 cs h0 n0 v_ u2_.heap l_ ∧ ReturnedEndW u1_ o_ u2_ l_ 24 1152) := by
  refine MetFree.of_bodySF (plainFor_of_name pn_lucerna_ontology_RoleInversePinLaw) hisR ?_
  intro p e s m args below meth c s₁ Bd hml0 hP hK
  obtain ⟨rfl, hZ, hh, hH⟩ := hP
  have hx := Bd.exec
  have hby := Bd.bytes
  have hlk := BodyLoose.notSynchronized Bd
  have hret := Bd.returns
  have hml : c.maxLocals = 12 := hml0
  have hown : s.vm.findClass "lucerna/ontology/RoleInversePinLaw" = some m.cls := findClass_of_methodNamed Bd.named
  have hnm := (name_of_methodNamed Bd.named Bd.method).1
  have X0 : Stand p l e room_1 (s.setVm s.vm) m #[(.int q0), (.int q1), (.int q2), (.int q3), (.int q4)] below meth c s₁ [] 0 0 := Stand.of_body Bd
  have hS := (State.WarmedH.refl s).since 0
  have hk : 0 ≤ h0.size := Nat.zero_le _
  have e0 : s₁.heap = h0 := by rw [← hh, Bd.state]; rfl
  have N0 := Fr.nil n0
  refine Goes.st (E := (EV s (Q0 Z q0 q1 q2 q3 q4 cs h0 n0) 24 1152)) (fun tg kg => castTop (ef_0 m q0 q1 q2 q3 q4) kg) ?_
  show Gs p e below _ s₁ m 0 #[iv q0, iv q1, iv q2, iv q3, iv q4, .unset, .unset, .unset, .unset, .unset, .unset, .unset] []
  refine giloadN X0 hx (hb hby at_0) rfl ?_
  refine giconst X0 hx (hb hby at_1) ?_
  refine giand X0 hx (hb hby at_2) trivial ?_
  show Gs p e below _ s₁ m 3 #[iv q0, iv q1, iv q2, iv q3, iv q4, .unset, .unset, .unset, .unset, .unset, .unset, .unset] [(.int (q0 &&& (1 : Int32)))]
  by_cases c1 : (q0 &&& (1 : Int32)) = (0 : Int32)
  · refine gifYes X0 hx (pc' := 10) (hb hby at_3) ((if0 _ _).trans (teq c1).1) (by decide) (by decide) ?_
    show Gs p e below _ s₁ m 10 #[iv q0, iv q1, iv q2, iv q3, iv q4, .unset, .unset, .unset, .unset, .unset, .unset, .unset] []
    refine giconst X0 hx (hb hby at_10) ?_
    refine gistore X0 hx (hb hby at_11) trivial (l' := #[iv q0, iv q1, iv q2, iv q3, iv q4, iv (0 : Int32), .unset, .unset, .unset, .unset, .unset, .unset]) rfl ?_
    refine giloadN X0 hx (hb hby at_13) rfl ?_
    refine giloadN X0 hx (hb hby at_14) rfl ?_
    refine giloadN X0 hx (hb hby at_15) rfl ?_
    show Gs p e below _ s₁ m 16 #[iv q0, iv q1, iv q2, iv q3, iv q4, iv (0 : Int32), .unset, .unset, .unset, .unset, .unset, .unset] [(.int q3), (.int q2), (.int q1)]
    refine giload X0 hx (hb hby at_16) rfl ?_
    obtain ⟨_, _, ⟨T2, L2, k2, n2⟩, -, X2, hS2, hg2, ⟨Lc2, hQ2, l2, y2, z2⟩, st2⟩ := callSS X0 hx (y := mN10) hown (mvT hZ (hwk hw 0 rfl)) (mvT hZ (hwk hw 1 rfl)) (mvT hZ (hwk hw 2 rfl)) (mvT hZ (hwk hw 3 rfl)) (by decide) (backOfSI (W := 0) (rmDr l Z a0 hw [] q1 q2 q3 q4 cs h0 n0 Z0 Scs hcs Sd Sh Sl) hZ (hwk hw 3 rfl) (hwk hw 2 rfl) (by decide) (by decide) (hELs hw) hH) (g := (mkF m 18 #[iv q0, iv q1, iv q2, iv q3, iv q4, iv (0 : Int32), .unset, .unset, .unset, .unset, .unset, .unset] [(.int q4), (.int q3), (.int q2), (.int q1)])) rfl (by rw [hml]; rfl) (argsL := [(.int q1), (.int q2), (.int q3), (.int q4)]) (rest := []) (lenOf pd__IIII_Ljava_lang_String__9c61 rfl) rfl (by show 2 * 0 + _ ≤ _; exact Nat.le_of_eq rfl) (hb hby at_18) (fun _ _ => ⟨rfl, e0, (by decide : 0 + 4 ≤ 24), (by decide : 0 + 16 ≤ 1152)⟩)
    dsimp only [Pt.U, Pt.locs, Pt.cells, Pt.slots] at X2 l2 y2 z2 st2 hQ2 hS2 hg2
    subst l2 y2 z2
    obtain ⟨X2, hS, hZ, hown⟩ := rebS hS (by rw [e0]; exact hk) X2 hS2 hg2 hZ hown
    have hk := Nat.le_refl T2.heap.size
    obtain ⟨b2, rfl, N2q, K2, szq2, loq2, V2⟩ := hQ2
    have hH := hH.keep K2 sf0
    have Z2 : n0 ≤ T2.heap.size := Nat.le_trans Z0 K2.1
    have N2 := Fr.app N0 N2q
    refine Goes.sts st2 ?_
    show Gs p e below _ T2 m 21 #[iv q0, iv q1, iv q2, iv q3, iv q4, iv (0 : Int32), .unset, .unset, .unset, .unset, .unset, .unset] [(.ref b2)]
    refine gastore X2 hx (hb hby at_21) trivial rfl (l' := #[iv q0, iv q1, iv q2, iv q3, iv q4, iv (0 : Int32), rv b2, .unset, .unset, .unset, .unset, .unset]) rfl ?_
    obtain ⟨T4, h4, X4, e4, E4, A4, D4, -, st4⟩ := newO X2 hx hZ hown (hwk hw 34 rfl) (hwk hw 35 rfl) (hwk hw 36 rfl) rfl (g := (mkF m 23 #[iv q0, iv q1, iv q2, iv q3, iv q4, iv (0 : Int32), rv b2, .unset, .unset, .unset, .unset, .unset] [])) rfl (hb hby at_23) (by decide) (by decide)
    obtain ⟨b4, g4⟩ : ∃ z, z = T2.heap.size := ⟨_, rfl⟩
    rw [← g4] at A4 D4 st4
    have ne_b2_b4 : b2 ≠ b4 := Nat.ne_of_lt (Nat.lt_of_lt_of_le V2.lt (Nat.le_of_eq g4.symm))
    have lo_b4 : n0 ≤ b4 := by have := Z2; omega
    refine Goes.st st4 ?_
    have hk := Nat.le_trans hk E4.1
    have hH := hH.ext E4
    have Z4 : n0 ≤ h4.size := Nat.le_trans Z2 E4.1
    have F4_property : Fld Z h4 b4 "lucerna/ontology/Role" "property" "Ljava/lang/String;" .null := D4 (Or.inr (hwk hw 47 rfl)) (ty := (.object "java/lang/String")) (by decide)
    have F4_inverted : Fld Z h4 b4 "lucerna/ontology/Role" "inverted" "Z" (.int (0 : Int32)) := D4 (Or.inr (hwk hw 49 rfl)) (ty := .boolean) (by decide)
    show Gs p e below _ T4 m 26 #[iv q0, iv q1, iv q2, iv q3, iv q4, iv (0 : Int32), rv b2, .unset, .unset, .unset, .unset, .unset] [(.ref b4)]
    refine gdup X4 hx (hb hby at_26) trivial rfl ?_
    refine gaload X4 hx (hb hby at_27) rfl rfl ?_
    refine giload X4 hx (hb hby at_29) rfl ?_
    obtain ⟨_, _, ⟨T6, L6, k6, n6⟩, -, X6, ⟨Lc6, hQ6, l6, y6, z6⟩, st6⟩ := X4.specialBack hx (y := mN12) rfl hown (mvT hZ (hwk hw 37 rfl)) (mvT hZ (hwk hw 38 rfl)) (mvT hZ (hwk hw 39 rfl)) (by decide) (backOf (W := 1) (rmRo l Z a0 hw [] b4 b2 (0 : Int32) .null (.int (0 : Int32)) h4 n0 Z4 A4 lo_b4 (by decide) F4_property F4_inverted) hZ (hwk hw 39 rfl) (hwk hw 36 rfl) (by decide) (by decide)) (g := (mkF m 31 #[iv q0, iv q1, iv q2, iv q3, iv q4, iv (0 : Int32), rv b2, .unset, .unset, .unset, .unset, .unset] [(.int (0 : Int32)), (.ref b2), (.ref b4), (.ref b4)])) rfl (by rw [hml]; rfl) (Steps.refl _) (a := b4) (argsL := [(.ref b2), (.int (0 : Int32))]) (rest := [(.ref b4)]) (lenOf pd__Ljava_lang_String_Z_V_855e rfl) rfl (by show 2 * 0 + _ ≤ _; exact Nat.le_of_eq rfl) (hb hby at_31) (fun _ _ => ⟨rfl, e4, (by decide : 5 + 0 ≤ 24), (by decide : 18 + 0 ≤ 1152)⟩)
    dsimp only [Pt.U, Pt.locs, Pt.cells, Pt.slots] at X6 l6 y6 z6 st6 hQ6
    subst l6 y6 z6
    obtain ⟨rfl, N6q, K6, R6_0, R6_1⟩ := hQ6
    have hk := Nat.le_trans hk K6.1
    have Z6 : n0 ≤ T6.heap.size := Nat.le_trans Z4 K6.1
    have N6 := Fr.app N2 N6q
    refine Goes.sts st6 ?_
    show Gs p e below _ T6 m 34 #[iv q0, iv q1, iv q2, iv q3, iv q4, iv (0 : Int32), rv b2, .unset, .unset, .unset, .unset, .unset] [(.ref b4)]
    refine gastore X6 hx (hb hby at_34) trivial rfl (l' := #[iv q0, iv q1, iv q2, iv q3, iv q4, iv (0 : Int32), rv b2, rv b4, .unset, .unset, .unset, .unset]) rfl ?_
    refine gaload X6 hx (hb hby at_36) rfl rfl ?_
    have f9 := ((V2.ext E4).keep K6)
    have lt8 : b2 < T6.heap.size := f9.lt
    have f11 := (A4.keep K6)
    have lt10 : b4 < T6.heap.size := f11.lt
    have f13 := (A4.keep K6)
    obtain ⟨cq12, kq12, qa12, qb12, qc12⟩ := isOf hZ rfl f13
    obtain ⟨_, _, ⟨T12, L12, k12, n12⟩, -, X12, ⟨Lc12, hQ12, l12, y12, z12⟩, st12⟩ := X6.virtualBack hx (y := mN13) (z := mN13) hown (mvT hZ (hwk hw 50 rfl)) (mvT hZ (hwk hw 51 rfl)) (notFace_of_selects (args := #[]) (mvT hZ (hwk hw 53 rfl))) (mvT hZ (hwk hw 53 rfl)) (mvT hZ (hwk hw 52 rfl)) (by decide) (backOf (W := 0) (rmIn0 l Z a0 hw [] b4 b2 T6.heap n0 Z6 R6_0 R6_1) hZ (hwk hw 54 rfl) (hwk hw 36 rfl) (by decide) (by decide)) qa12 qc12 (g := (mkF m 38 #[iv q0, iv q1, iv q2, iv q3, iv q4, iv (0 : Int32), rv b2, rv b4, .unset, .unset, .unset, .unset] [(.ref b4)])) rfl (by rw [hml]; rfl) (Steps.refl _) (argsL := []) (rest := []) (lenOf pd___Llucerna_ontology_Role__b191 rfl) rfl (by show 2 * 0 + _ ≤ _; exact Nat.le_of_eq rfl) (hb hby at_38) (fun _ _ => ⟨rfl, rfl, (by decide : 5 + 1 ≤ 24), (by decide : 18 + 2 ≤ 1152)⟩)
    dsimp only [Pt.U, Pt.locs, Pt.cells, Pt.slots] at X12 l12 y12 z12 st12 hQ12
    subst l12 y12 z12
    obtain ⟨b12, rfl, N12q, K12, szq12, loq12, V12, P12, I12⟩ := hQ12
    have hk := Nat.le_trans hk K12.1
    have ne_b2_b12 : b2 ≠ b12 := Nat.ne_of_lt (Nat.lt_of_lt_of_le lt8 szq12)
    have ne_b4_b12 : b4 ≠ b12 := Nat.ne_of_lt (Nat.lt_of_lt_of_le lt10 szq12)
    have Z12 : n0 ≤ T12.heap.size := Nat.le_trans Z6 K12.1
    have N12 := Fr.app N6 N12q
    refine Goes.sts st12 ?_
    show Gs p e below _ T12 m 41 #[iv q0, iv q1, iv q2, iv q3, iv q4, iv (0 : Int32), rv b2, rv b4, .unset, .unset, .unset, .unset] [(.ref b12)]
    refine gastore X12 hx (hb hby at_41) trivial rfl (l' := #[iv q0, iv q1, iv q2, iv q3, iv q4, iv (0 : Int32), rv b2, rv b4, rv b12, .unset, .unset, .unset]) rfl ?_
    refine gaload X12 hx (hb hby at_43) rfl rfl ?_
    have f16 := (f9.keep K12)
    have lt15 : b2 < T12.heap.size := f16.lt
    have f18 := (f11.keep K12)
    have lt17 : b4 < T12.heap.size := f18.lt
    have lt19 : b12 < T12.heap.size := V12.lt
    obtain ⟨cq20, kq20, qa20, qb20, qc20⟩ := isOf hZ rfl V12
    obtain ⟨_, _, ⟨T20, L20, k20, n20⟩, -, X20, ⟨Lc20, hQ20, l20, y20, z20⟩, st20⟩ := X12.virtualBack hx (y := mN13) (z := mN13) hown (mvT hZ (hwk hw 50 rfl)) (mvT hZ (hwk hw 51 rfl)) (notFace_of_selects (args := #[]) (mvT hZ (hwk hw 53 rfl))) (mvT hZ (hwk hw 53 rfl)) (mvT hZ (hwk hw 52 rfl)) (by decide) (backOf (W := 0) (rmIn1 l Z a0 hw [] b12 b2 T12.heap n0 Z12 P12 I12) hZ (hwk hw 54 rfl) (hwk hw 36 rfl) (by decide) (by decide)) qa20 qc20 (g := (mkF m 45 #[iv q0, iv q1, iv q2, iv q3, iv q4, iv (0 : Int32), rv b2, rv b4, rv b12, .unset, .unset, .unset] [(.ref b12)])) rfl (by rw [hml]; rfl) (Steps.refl _) (argsL := []) (rest := []) (lenOf pd___Llucerna_ontology_Role__b191 rfl) rfl (by show 2 * 0 + _ ≤ _; exact Nat.le_of_eq rfl) (hb hby at_45) (fun _ _ => ⟨rfl, rfl, (by decide : 6 + 1 ≤ 24), (by decide : 20 + 2 ≤ 1152)⟩)
    dsimp only [Pt.U, Pt.locs, Pt.cells, Pt.slots] at X20 l20 y20 z20 st20 hQ20
    subst l20 y20 z20
    obtain ⟨b20, rfl, N20q, K20, szq20, loq20, V20, P20, I20⟩ := hQ20
    have hk := Nat.le_trans hk K20.1
    have ne_b2_b20 : b2 ≠ b20 := Nat.ne_of_lt (Nat.lt_of_lt_of_le lt15 szq20)
    have ne_b4_b20 : b4 ≠ b20 := Nat.ne_of_lt (Nat.lt_of_lt_of_le lt17 szq20)
    have ne_b12_b20 : b12 ≠ b20 := Nat.ne_of_lt (Nat.lt_of_lt_of_le lt19 szq20)
    have Z20 : n0 ≤ T20.heap.size := Nat.le_trans Z12 K20.1
    have N20 := Fr.app N12 N20q
    refine Goes.sts st20 ?_
    show Gs p e below _ T20 m 48 #[iv q0, iv q1, iv q2, iv q3, iv q4, iv (0 : Int32), rv b2, rv b4, rv b12, .unset, .unset, .unset] [(.ref b20)]
    refine gastore X20 hx (hb hby at_48) trivial rfl (l' := #[iv q0, iv q1, iv q2, iv q3, iv q4, iv (0 : Int32), rv b2, rv b4, rv b12, rv b20, .unset, .unset]) rfl ?_
    refine gaload X20 hx (hb hby at_50) rfl rfl ?_
    have f22 := (P12.keep K20 nin0)
    have f24 := (V12.keep K20)
    obtain ⟨cq23, kq23, qa23, qb23, qc23⟩ := isOf hZ rfl f24
    obtain ⟨_, _, ⟨T23, L23, k23, n23⟩, -, X23, ⟨Lc23, hQ23, l23, y23, z23⟩, st23⟩ := X20.virtualBack hx (y := mN14) (z := mN14) hown (mvT hZ (hwk hw 57 rfl)) (mvT hZ (hwk hw 58 rfl)) (notFace_of_selects (args := #[]) (mvT hZ (hwk hw 60 rfl))) (mvT hZ (hwk hw 60 rfl)) (mvT hZ (hwk hw 59 rfl)) (by decide) (backOf (W := 0) (rmGp l Z a0 hw [] b12 b2 T20.heap n0 Z20 f22) hZ (hwk hw 61 rfl) (hwk hw 36 rfl) (by decide) (by decide)) qa23 qc23 (g := (mkF m 52 #[iv q0, iv q1, iv q2, iv q3, iv q4, iv (0 : Int32), rv b2, rv b4, rv b12, rv b20, .unset, .unset] [(.ref b12)])) rfl (by rw [hml]; rfl) (Steps.refl _) (argsL := []) (rest := []) (lenOf pd___Ljava_lang_String__7667 rfl) rfl (by show 2 * 0 + _ ≤ _; exact Nat.le_of_eq rfl) (hb hby at_52) (fun _ _ => ⟨rfl, rfl, (by decide : 7 + 0 ≤ 24), (by decide : 22 + 0 ≤ 1152)⟩)
    dsimp only [Pt.U, Pt.locs, Pt.cells, Pt.slots] at X23 l23 y23 z23 st23 hQ23
    subst l23 y23 z23
    obtain ⟨rfl, N23q, eh23⟩ := hQ23
    have N23 := Fr.app N20 N23q
    refine Goes.sts st23 ?_
    show Gs p e below _ T23 m 55 #[iv q0, iv q1, iv q2, iv q3, iv q4, iv (0 : Int32), rv b2, rv b4, rv b12, rv b20, .unset, .unset] [(.ref b2)]
    refine gaload X23 hx (hb hby at_55) rfl rfl ?_
    have f26 := (f16.keep K20)
    obtain ⟨cq25, kq25, qa25, qb25, qc25⟩ := isOf hZ eh23 f26
    obtain ⟨_, _, ⟨T25, L25, k25, n25⟩, -, X25, ⟨Lc25, hQ25, l25, y25, z25⟩, st25⟩ := X23.virtualBack hx (y := mN16) (z := mN16) hown (mvT hZ (hwk hw 62 rfl)) (mvT hZ (hwk hw 63 rfl)) (notFace_of_selects (args := #[]) (mvT hZ (hwk hw 65 rfl))) (mvT hZ (hwk hw 65 rfl)) (mvT hZ (hwk hw 64 rfl)) (by decide) (backOf (W := 0) (rmEq l Z a0 hw [] b2 T20.heap n0 Z20 ) hZ (hwk hw 66 rfl) (hwk hw 6 rfl) (by decide) (by decide)) qa25 qc25 (g := (mkF m 57 #[iv q0, iv q1, iv q2, iv q3, iv q4, iv (0 : Int32), rv b2, rv b4, rv b12, rv b20, .unset, .unset] [(.ref b2), (.ref b2)])) rfl (by rw [hml]; rfl) (Steps.refl _) (argsL := [(.ref b2)]) (rest := []) (lenOf pd__Ljava_lang_Object__Z_79ae rfl) rfl (by show 2 * 0 + _ ≤ _; exact Nat.le_of_eq rfl) (hb hby at_57) (fun _ _ => ⟨rfl, eh23, (by decide : 7 + 0 ≤ 24), (by decide : 22 + 0 ≤ 1152)⟩)
    dsimp only [Pt.U, Pt.locs, Pt.cells, Pt.slots] at X25 l25 y25 z25 st25 hQ25
    subst l25 y25 z25
    obtain ⟨rfl, N25q, eh25⟩ := hQ25
    have N25 := Fr.app N23 N25q
    refine Goes.sts st25 ?_
    show Gs p e below _ T25 m 60 #[iv q0, iv q1, iv q2, iv q3, iv q4, iv (0 : Int32), rv b2, rv b4, rv b12, rv b20, .unset, .unset] [(.int (1 : Int32))]
    refine gifNo X25 hx (hb hby at_60) (by decide) ?_
    show Gs p e below _ T25 m 63 #[iv q0, iv q1, iv q2, iv q3, iv q4, iv (0 : Int32), rv b2, rv b4, rv b12, rv b20, .unset, .unset] []
    refine gaload X25 hx (hb hby at_63) rfl rfl ?_
    have f27 := (I12.keep K20 nin0)
    obtain ⟨cq28, kq28, qa28, qb28, qc28⟩ := isOf hZ eh25 f24
    obtain ⟨_, _, ⟨T28, L28, k28, n28⟩, -, X28, ⟨Lc28, hQ28, l28, y28, z28⟩, st28⟩ := X25.virtualBack hx (y := mN15) (z := mN15) hown (mvT hZ (hwk hw 67 rfl)) (mvT hZ (hwk hw 68 rfl)) (notFace_of_selects (args := #[]) (mvT hZ (hwk hw 70 rfl))) (mvT hZ (hwk hw 70 rfl)) (mvT hZ (hwk hw 69 rfl)) (by decide) (backOf (W := 0) (rmGi l Z a0 hw [] b12 (1 : Int32) T20.heap n0 Z20 f27 (by decide)) hZ (hwk hw 71 rfl) (hwk hw 36 rfl) (by decide) (by decide)) qa28 qc28 (g := (mkF m 65 #[iv q0, iv q1, iv q2, iv q3, iv q4, iv (0 : Int32), rv b2, rv b4, rv b12, rv b20, .unset, .unset] [(.ref b12)])) rfl (by rw [hml]; rfl) (Steps.refl _) (argsL := []) (rest := []) (lenOf pd___Z_58a rfl) rfl (by show 2 * 0 + _ ≤ _; exact Nat.le_of_eq rfl) (hb hby at_65) (fun _ _ => ⟨rfl, eh25, (by decide : 7 + 0 ≤ 24), (by decide : 22 + 0 ≤ 1152)⟩)
    dsimp only [Pt.U, Pt.locs, Pt.cells, Pt.slots] at X28 l28 y28 z28 st28 hQ28
    subst l28 y28 z28
    obtain ⟨rfl, N28q, eh28⟩ := hQ28
    have N28 := Fr.app N25 N28q
    refine Goes.sts st28 ?_
    show Gs p e below _ T28 m 68 #[iv q0, iv q1, iv q2, iv q3, iv q4, iv (0 : Int32), rv b2, rv b4, rv b12, rv b20, .unset, .unset] [(.int (1 : Int32))]
    refine giload X28 hx (hb hby at_68) rfl ?_
    show Gs p e below _ T28 m 70 #[iv q0, iv q1, iv q2, iv q3, iv q4, iv (0 : Int32), rv b2, rv b4, rv b12, rv b20, .unset, .unset] [(.int (0 : Int32)), (.int (1 : Int32))]
    refine gifNo X28 hx (hb hby at_70) (by decide) ?_
    show Gs p e below _ T28 m 73 #[iv q0, iv q1, iv q2, iv q3, iv q4, iv (0 : Int32), rv b2, rv b4, rv b12, rv b20, .unset, .unset] [(.int (1 : Int32))]
    refine giconst X28 hx (hb hby at_73) ?_
    show Gs p e below _ T28 m 74 #[iv q0, iv q1, iv q2, iv q3, iv q4, iv (0 : Int32), rv b2, rv b4, rv b12, rv b20, .unset, .unset] [(.int (1 : Int32)), (.int (1 : Int32))]
    refine ggoto X28 hx (pc' := 78) (hb hby at_74) (by decide) (by decide) ?_
    show Gs p e below _ T28 m 78 #[iv q0, iv q1, iv q2, iv q3, iv q4, iv (0 : Int32), rv b2, rv b4, rv b12, rv b20, .unset, .unset] [(.int (1 : Int32)), (.int (1 : Int32))]
    refine gicmpNo X28 hx (hb hby at_78) (by decide) ?_
    show Gs p e below _ T28 m 81 #[iv q0, iv q1, iv q2, iv q3, iv q4, iv (0 : Int32), rv b2, rv b4, rv b12, rv b20, .unset, .unset] []
    refine giconst X28 hx (hb hby at_81) ?_
    show Gs p e below _ T28 m 82 #[iv q0, iv q1, iv q2, iv q3, iv q4, iv (0 : Int32), rv b2, rv b4, rv b12, rv b20, .unset, .unset] [(.int (1 : Int32))]
    refine ggoto X28 hx (pc' := 86) (hb hby at_82) (by decide) (by decide) ?_
    show Gs p e below _ T28 m 86 #[iv q0, iv q1, iv q2, iv q3, iv q4, iv (0 : Int32), rv b2, rv b4, rv b12, rv b20, .unset, .unset] [(.int (1 : Int32))]
    refine gistore X28 hx (hb hby at_86) trivial (l' := #[iv q0, iv q1, iv q2, iv q3, iv q4, iv (0 : Int32), rv b2, rv b4, rv b12, rv b20, iv (1 : Int32), .unset]) rfl ?_
    refine gaload X28 hx (hb hby at_88) rfl rfl ?_
    obtain ⟨cq29, kq29, qa29, qb29, qc29⟩ := isOf hZ eh28 V20
    obtain ⟨_, _, ⟨T29, L29, k29, n29⟩, -, X29, ⟨Lc29, hQ29, l29, y29, z29⟩, st29⟩ := X28.virtualBack hx (y := mN14) (z := mN14) hown (mvT hZ (hwk hw 57 rfl)) (mvT hZ (hwk hw 58 rfl)) (notFace_of_selects (args := #[]) (mvT hZ (hwk hw 60 rfl))) (mvT hZ (hwk hw 60 rfl)) (mvT hZ (hwk hw 59 rfl)) (by decide) (backOf (W := 0) (rmGp l Z a0 hw [] b20 b2 T20.heap n0 Z20 P20) hZ (hwk hw 61 rfl) (hwk hw 36 rfl) (by decide) (by decide)) qa29 qc29 (g := (mkF m 90 #[iv q0, iv q1, iv q2, iv q3, iv q4, iv (0 : Int32), rv b2, rv b4, rv b12, rv b20, iv (1 : Int32), .unset] [(.ref b20)])) rfl (by rw [hml]; rfl) (Steps.refl _) (argsL := []) (rest := []) (lenOf pd___Ljava_lang_String__7667 rfl) rfl (by show 2 * 0 + _ ≤ _; exact Nat.le_of_eq rfl) (hb hby at_90) (fun _ _ => ⟨rfl, eh28, (by decide : 7 + 0 ≤ 24), (by decide : 22 + 0 ≤ 1152)⟩)
    dsimp only [Pt.U, Pt.locs, Pt.cells, Pt.slots] at X29 l29 y29 z29 st29 hQ29
    subst l29 y29 z29
    obtain ⟨rfl, N29q, eh29⟩ := hQ29
    have N29 := Fr.app N28 N29q
    refine Goes.sts st29 ?_
    show Gs p e below _ T29 m 93 #[iv q0, iv q1, iv q2, iv q3, iv q4, iv (0 : Int32), rv b2, rv b4, rv b12, rv b20, iv (1 : Int32), .unset] [(.ref b2)]
    refine gaload X29 hx (hb hby at_93) rfl rfl ?_
    obtain ⟨cq30, kq30, qa30, qb30, qc30⟩ := isOf hZ eh29 f26
    obtain ⟨_, _, ⟨T30, L30, k30, n30⟩, -, X30, ⟨Lc30, hQ30, l30, y30, z30⟩, st30⟩ := X29.virtualBack hx (y := mN16) (z := mN16) hown (mvT hZ (hwk hw 62 rfl)) (mvT hZ (hwk hw 63 rfl)) (notFace_of_selects (args := #[]) (mvT hZ (hwk hw 65 rfl))) (mvT hZ (hwk hw 65 rfl)) (mvT hZ (hwk hw 64 rfl)) (by decide) (backOf (W := 0) (rmEq l Z a0 hw [] b2 T20.heap n0 Z20 ) hZ (hwk hw 66 rfl) (hwk hw 6 rfl) (by decide) (by decide)) qa30 qc30 (g := (mkF m 95 #[iv q0, iv q1, iv q2, iv q3, iv q4, iv (0 : Int32), rv b2, rv b4, rv b12, rv b20, iv (1 : Int32), .unset] [(.ref b2), (.ref b2)])) rfl (by rw [hml]; rfl) (Steps.refl _) (argsL := [(.ref b2)]) (rest := []) (lenOf pd__Ljava_lang_Object__Z_79ae rfl) rfl (by show 2 * 0 + _ ≤ _; exact Nat.le_of_eq rfl) (hb hby at_95) (fun _ _ => ⟨rfl, eh29, (by decide : 7 + 0 ≤ 24), (by decide : 22 + 0 ≤ 1152)⟩)
    dsimp only [Pt.U, Pt.locs, Pt.cells, Pt.slots] at X30 l30 y30 z30 st30 hQ30
    subst l30 y30 z30
    obtain ⟨rfl, N30q, eh30⟩ := hQ30
    have N30 := Fr.app N29 N30q
    refine Goes.sts st30 ?_
    show Gs p e below _ T30 m 98 #[iv q0, iv q1, iv q2, iv q3, iv q4, iv (0 : Int32), rv b2, rv b4, rv b12, rv b20, iv (1 : Int32), .unset] [(.int (1 : Int32))]
    refine gifNo X30 hx (hb hby at_98) (by decide) ?_
    show Gs p e below _ T30 m 101 #[iv q0, iv q1, iv q2, iv q3, iv q4, iv (0 : Int32), rv b2, rv b4, rv b12, rv b20, iv (1 : Int32), .unset] []
    refine gaload X30 hx (hb hby at_101) rfl rfl ?_
    obtain ⟨cq31, kq31, qa31, qb31, qc31⟩ := isOf hZ eh30 V20
    obtain ⟨_, _, ⟨T31, L31, k31, n31⟩, -, X31, ⟨Lc31, hQ31, l31, y31, z31⟩, st31⟩ := X30.virtualBack hx (y := mN15) (z := mN15) hown (mvT hZ (hwk hw 67 rfl)) (mvT hZ (hwk hw 68 rfl)) (notFace_of_selects (args := #[]) (mvT hZ (hwk hw 70 rfl))) (mvT hZ (hwk hw 70 rfl)) (mvT hZ (hwk hw 69 rfl)) (by decide) (backOf (W := 0) (rmGi l Z a0 hw [] b20 (0 : Int32) T20.heap n0 Z20 I20 (by decide)) hZ (hwk hw 71 rfl) (hwk hw 36 rfl) (by decide) (by decide)) qa31 qc31 (g := (mkF m 103 #[iv q0, iv q1, iv q2, iv q3, iv q4, iv (0 : Int32), rv b2, rv b4, rv b12, rv b20, iv (1 : Int32), .unset] [(.ref b20)])) rfl (by rw [hml]; rfl) (Steps.refl _) (argsL := []) (rest := []) (lenOf pd___Z_58a rfl) rfl (by show 2 * 0 + _ ≤ _; exact Nat.le_of_eq rfl) (hb hby at_103) (fun _ _ => ⟨rfl, eh30, (by decide : 7 + 0 ≤ 24), (by decide : 22 + 0 ≤ 1152)⟩)
    dsimp only [Pt.U, Pt.locs, Pt.cells, Pt.slots] at X31 l31 y31 z31 st31 hQ31
    subst l31 y31 z31
    obtain ⟨rfl, N31q, eh31⟩ := hQ31
    have N31 := Fr.app N30 N31q
    refine Goes.sts st31 ?_
    show Gs p e below _ T31 m 106 #[iv q0, iv q1, iv q2, iv q3, iv q4, iv (0 : Int32), rv b2, rv b4, rv b12, rv b20, iv (1 : Int32), .unset] [(.int (0 : Int32))]
    refine giload X31 hx (hb hby at_106) rfl ?_
    show Gs p e below _ T31 m 108 #[iv q0, iv q1, iv q2, iv q3, iv q4, iv (0 : Int32), rv b2, rv b4, rv b12, rv b20, iv (1 : Int32), .unset] [(.int (0 : Int32)), (.int (0 : Int32))]
    refine gicmpNo X31 hx (hb hby at_108) (by decide) ?_
    show Gs p e below _ T31 m 111 #[iv q0, iv q1, iv q2, iv q3, iv q4, iv (0 : Int32), rv b2, rv b4, rv b12, rv b20, iv (1 : Int32), .unset] []
    refine giconst X31 hx (hb hby at_111) ?_
    show Gs p e below _ T31 m 112 #[iv q0, iv q1, iv q2, iv q3, iv q4, iv (0 : Int32), rv b2, rv b4, rv b12, rv b20, iv (1 : Int32), .unset] [(.int (1 : Int32))]
    refine ggoto X31 hx (pc' := 116) (hb hby at_112) (by decide) (by decide) ?_
    show Gs p e below _ T31 m 116 #[iv q0, iv q1, iv q2, iv q3, iv q4, iv (0 : Int32), rv b2, rv b4, rv b12, rv b20, iv (1 : Int32), .unset] [(.int (1 : Int32))]
    refine gistore X31 hx (hb hby at_116) trivial (l' := #[iv q0, iv q1, iv q2, iv q3, iv q4, iv (0 : Int32), rv b2, rv b4, rv b12, rv b20, iv (1 : Int32), iv (1 : Int32)]) rfl ?_
    refine giload X31 hx (hb hby at_118) rfl ?_
    show Gs p e below _ T31 m 120 #[iv q0, iv q1, iv q2, iv q3, iv q4, iv (0 : Int32), rv b2, rv b4, rv b12, rv b20, iv (1 : Int32), iv (1 : Int32)] [(.int (1 : Int32))]
    refine gifNo X31 hx (hb hby at_120) (by decide) ?_
    show Gs p e below _ T31 m 123 #[iv q0, iv q1, iv q2, iv q3, iv q4, iv (0 : Int32), rv b2, rv b4, rv b12, rv b20, iv (1 : Int32), iv (1 : Int32)] []
    refine giload X31 hx (hb hby at_123) rfl ?_
    show Gs p e below _ T31 m 125 #[iv q0, iv q1, iv q2, iv q3, iv q4, iv (0 : Int32), rv b2, rv b4, rv b12, rv b20, iv (1 : Int32), iv (1 : Int32)] [(.int (1 : Int32))]
    refine gifNo X31 hx (hb hby at_125) (by decide) ?_
    show Gs p e below _ T31 m 128 #[iv q0, iv q1, iv q2, iv q3, iv q4, iv (0 : Int32), rv b2, rv b4, rv b12, rv b20, iv (1 : Int32), iv (1 : Int32)] []
    refine giconst X31 hx (hb hby at_128) ?_
    show Gs p e below _ T31 m 129 #[iv q0, iv q1, iv q2, iv q3, iv q4, iv (0 : Int32), rv b2, rv b4, rv b12, rv b20, iv (1 : Int32), iv (1 : Int32)] [(.int (1 : Int32))]
    refine ggoto X31 hx (pc' := 133) (hb hby at_129) (by decide) (by decide) ?_
    show Gs p e below _ T31 m 133 #[iv q0, iv q1, iv q2, iv q3, iv q4, iv (0 : Int32), rv b2, rv b4, rv b12, rv b20, iv (1 : Int32), iv (1 : Int32)] [(.int (1 : Int32))]
    refine Goes.retN X31 hx hret (by simp) (hb hby at_133) (by decide) (lvV X31 hlk hS (by rw [eh31]; exact hk) (vsome hret) ?_ (by decide) (by decide))
    rw [eh31]
    exact ⟨rfl, N31⟩
  · refine gifNo X0 hx (hb hby at_3) ((if0 _ _).trans (feq c1).1) ?_
    show Gs p e below _ s₁ m 6 #[iv q0, iv q1, iv q2, iv q3, iv q4, .unset, .unset, .unset, .unset, .unset, .unset, .unset] []
    refine giconst X0 hx (hb hby at_6) ?_
    show Gs p e below _ s₁ m 7 #[iv q0, iv q1, iv q2, iv q3, iv q4, .unset, .unset, .unset, .unset, .unset, .unset, .unset] [(.int (1 : Int32))]
    refine ggoto X0 hx (pc' := 11) (hb hby at_7) (by decide) (by decide) ?_
    show Gs p e below _ s₁ m 11 #[iv q0, iv q1, iv q2, iv q3, iv q4, .unset, .unset, .unset, .unset, .unset, .unset, .unset] [(.int (1 : Int32))]
    refine gistore X0 hx (hb hby at_11) trivial (l' := #[iv q0, iv q1, iv q2, iv q3, iv q4, iv (1 : Int32), .unset, .unset, .unset, .unset, .unset, .unset]) rfl ?_
    refine giloadN X0 hx (hb hby at_13) rfl ?_
    refine giloadN X0 hx (hb hby at_14) rfl ?_
    refine giloadN X0 hx (hb hby at_15) rfl ?_
    refine giload X0 hx (hb hby at_16) rfl ?_
    show Gs p e below _ s₁ m 18 #[iv q0, iv q1, iv q2, iv q3, iv q4, iv (1 : Int32), .unset, .unset, .unset, .unset, .unset, .unset] [(.int q4), (.int q3), (.int q2), (.int q1)]
    obtain ⟨_, _, ⟨T32, L32, k32, n32⟩, -, X32, hS32, hg32, ⟨Lc32, hQ32, l32, y32, z32⟩, st32⟩ := callSS X0 hx (y := mN10) hown (mvT hZ (hwk hw 0 rfl)) (mvT hZ (hwk hw 1 rfl)) (mvT hZ (hwk hw 2 rfl)) (mvT hZ (hwk hw 3 rfl)) (by decide) (backOfSI (W := 0) (rmDr l Z a0 hw [] q1 q2 q3 q4 cs h0 n0 Z0 Scs hcs Sd Sh Sl) hZ (hwk hw 3 rfl) (hwk hw 2 rfl) (by decide) (by decide) (hELs hw) hH) (g := (mkF m 18 #[iv q0, iv q1, iv q2, iv q3, iv q4, iv (1 : Int32), .unset, .unset, .unset, .unset, .unset, .unset] [(.int q4), (.int q3), (.int q2), (.int q1)])) rfl (by rw [hml]; rfl) (argsL := [(.int q1), (.int q2), (.int q3), (.int q4)]) (rest := []) (lenOf pd__IIII_Ljava_lang_String__9c61 rfl) rfl (by show 2 * 0 + _ ≤ _; exact Nat.le_of_eq rfl) (hb hby at_18) (fun _ _ => ⟨rfl, e0, (by decide : 0 + 4 ≤ 24), (by decide : 0 + 16 ≤ 1152)⟩)
    dsimp only [Pt.U, Pt.locs, Pt.cells, Pt.slots] at X32 l32 y32 z32 st32 hQ32 hS32 hg32
    subst l32 y32 z32
    obtain ⟨X32, hS, hZ, hown⟩ := rebS hS (by rw [e0]; exact hk) X32 hS32 hg32 hZ hown
    have hk := Nat.le_refl T32.heap.size
    obtain ⟨b32, rfl, N32q, K32, szq32, loq32, V32⟩ := hQ32
    have hH := hH.keep K32 sf0
    have Z32 : n0 ≤ T32.heap.size := Nat.le_trans Z0 K32.1
    have N32 := Fr.app N0 N32q
    refine Goes.sts st32 ?_
    show Gs p e below _ T32 m 21 #[iv q0, iv q1, iv q2, iv q3, iv q4, iv (1 : Int32), .unset, .unset, .unset, .unset, .unset, .unset] [(.ref b32)]
    refine gastore X32 hx (hb hby at_21) trivial rfl (l' := #[iv q0, iv q1, iv q2, iv q3, iv q4, iv (1 : Int32), rv b32, .unset, .unset, .unset, .unset, .unset]) rfl ?_
    obtain ⟨T34, h34, X34, e34, E34, A34, D34, -, st34⟩ := newO X32 hx hZ hown (hwk hw 34 rfl) (hwk hw 35 rfl) (hwk hw 36 rfl) rfl (g := (mkF m 23 #[iv q0, iv q1, iv q2, iv q3, iv q4, iv (1 : Int32), rv b32, .unset, .unset, .unset, .unset, .unset] [])) rfl (hb hby at_23) (by decide) (by decide)
    obtain ⟨b34, g34⟩ : ∃ z, z = T32.heap.size := ⟨_, rfl⟩
    rw [← g34] at A34 D34 st34
    have ne_b32_b34 : b32 ≠ b34 := Nat.ne_of_lt (Nat.lt_of_lt_of_le V32.lt (Nat.le_of_eq g34.symm))
    have lo_b34 : n0 ≤ b34 := by have := Z32; omega
    refine Goes.st st34 ?_
    have hk := Nat.le_trans hk E34.1
    have hH := hH.ext E34
    have Z34 : n0 ≤ h34.size := Nat.le_trans Z32 E34.1
    have F34_property : Fld Z h34 b34 "lucerna/ontology/Role" "property" "Ljava/lang/String;" .null := D34 (Or.inr (hwk hw 47 rfl)) (ty := (.object "java/lang/String")) (by decide)
    have F34_inverted : Fld Z h34 b34 "lucerna/ontology/Role" "inverted" "Z" (.int (0 : Int32)) := D34 (Or.inr (hwk hw 49 rfl)) (ty := .boolean) (by decide)
    show Gs p e below _ T34 m 26 #[iv q0, iv q1, iv q2, iv q3, iv q4, iv (1 : Int32), rv b32, .unset, .unset, .unset, .unset, .unset] [(.ref b34)]
    refine gdup X34 hx (hb hby at_26) trivial rfl ?_
    refine gaload X34 hx (hb hby at_27) rfl rfl ?_
    refine giload X34 hx (hb hby at_29) rfl ?_
    obtain ⟨_, _, ⟨T36, L36, k36, n36⟩, -, X36, ⟨Lc36, hQ36, l36, y36, z36⟩, st36⟩ := X34.specialBack hx (y := mN12) rfl hown (mvT hZ (hwk hw 37 rfl)) (mvT hZ (hwk hw 38 rfl)) (mvT hZ (hwk hw 39 rfl)) (by decide) (backOf (W := 1) (rmRo l Z a0 hw [] b34 b32 (1 : Int32) .null (.int (0 : Int32)) h34 n0 Z34 A34 lo_b34 (by decide) F34_property F34_inverted) hZ (hwk hw 39 rfl) (hwk hw 36 rfl) (by decide) (by decide)) (g := (mkF m 31 #[iv q0, iv q1, iv q2, iv q3, iv q4, iv (1 : Int32), rv b32, .unset, .unset, .unset, .unset, .unset] [(.int (1 : Int32)), (.ref b32), (.ref b34), (.ref b34)])) rfl (by rw [hml]; rfl) (Steps.refl _) (a := b34) (argsL := [(.ref b32), (.int (1 : Int32))]) (rest := [(.ref b34)]) (lenOf pd__Ljava_lang_String_Z_V_855e rfl) rfl (by show 2 * 0 + _ ≤ _; exact Nat.le_of_eq rfl) (hb hby at_31) (fun _ _ => ⟨rfl, e34, (by decide : 5 + 0 ≤ 24), (by decide : 18 + 0 ≤ 1152)⟩)
    dsimp only [Pt.U, Pt.locs, Pt.cells, Pt.slots] at X36 l36 y36 z36 st36 hQ36
    subst l36 y36 z36
    obtain ⟨rfl, N36q, K36, R36_0, R36_1⟩ := hQ36
    have hk := Nat.le_trans hk K36.1
    have Z36 : n0 ≤ T36.heap.size := Nat.le_trans Z34 K36.1
    have N36 := Fr.app N32 N36q
    refine Goes.sts st36 ?_
    show Gs p e below _ T36 m 34 #[iv q0, iv q1, iv q2, iv q3, iv q4, iv (1 : Int32), rv b32, .unset, .unset, .unset, .unset, .unset] [(.ref b34)]
    refine gastore X36 hx (hb hby at_34) trivial rfl (l' := #[iv q0, iv q1, iv q2, iv q3, iv q4, iv (1 : Int32), rv b32, rv b34, .unset, .unset, .unset, .unset]) rfl ?_
    refine gaload X36 hx (hb hby at_36) rfl rfl ?_
    have f39 := ((V32.ext E34).keep K36)
    have lt38 : b32 < T36.heap.size := f39.lt
    have f41 := (A34.keep K36)
    have lt40 : b34 < T36.heap.size := f41.lt
    have f43 := (A34.keep K36)
    obtain ⟨cq42, kq42, qa42, qb42, qc42⟩ := isOf hZ rfl f43
    obtain ⟨_, _, ⟨T42, L42, k42, n42⟩, -, X42, ⟨Lc42, hQ42, l42, y42, z42⟩, st42⟩ := X36.virtualBack hx (y := mN13) (z := mN13) hown (mvT hZ (hwk hw 50 rfl)) (mvT hZ (hwk hw 51 rfl)) (notFace_of_selects (args := #[]) (mvT hZ (hwk hw 53 rfl))) (mvT hZ (hwk hw 53 rfl)) (mvT hZ (hwk hw 52 rfl)) (by decide) (backOf (W := 0) (rmIn1 l Z a0 hw [] b34 b32 T36.heap n0 Z36 R36_0 R36_1) hZ (hwk hw 54 rfl) (hwk hw 36 rfl) (by decide) (by decide)) qa42 qc42 (g := (mkF m 38 #[iv q0, iv q1, iv q2, iv q3, iv q4, iv (1 : Int32), rv b32, rv b34, .unset, .unset, .unset, .unset] [(.ref b34)])) rfl (by rw [hml]; rfl) (Steps.refl _) (argsL := []) (rest := []) (lenOf pd___Llucerna_ontology_Role__b191 rfl) rfl (by show 2 * 0 + _ ≤ _; exact Nat.le_of_eq rfl) (hb hby at_38) (fun _ _ => ⟨rfl, rfl, (by decide : 5 + 1 ≤ 24), (by decide : 18 + 2 ≤ 1152)⟩)
    dsimp only [Pt.U, Pt.locs, Pt.cells, Pt.slots] at X42 l42 y42 z42 st42 hQ42
    subst l42 y42 z42
    obtain ⟨b42, rfl, N42q, K42, szq42, loq42, V42, P42, I42⟩ := hQ42
    have hk := Nat.le_trans hk K42.1
    have ne_b32_b42 : b32 ≠ b42 := Nat.ne_of_lt (Nat.lt_of_lt_of_le lt38 szq42)
    have ne_b34_b42 : b34 ≠ b42 := Nat.ne_of_lt (Nat.lt_of_lt_of_le lt40 szq42)
    have Z42 : n0 ≤ T42.heap.size := Nat.le_trans Z36 K42.1
    have N42 := Fr.app N36 N42q
    refine Goes.sts st42 ?_
    show Gs p e below _ T42 m 41 #[iv q0, iv q1, iv q2, iv q3, iv q4, iv (1 : Int32), rv b32, rv b34, .unset, .unset, .unset, .unset] [(.ref b42)]
    refine gastore X42 hx (hb hby at_41) trivial rfl (l' := #[iv q0, iv q1, iv q2, iv q3, iv q4, iv (1 : Int32), rv b32, rv b34, rv b42, .unset, .unset, .unset]) rfl ?_
    refine gaload X42 hx (hb hby at_43) rfl rfl ?_
    have f46 := (f39.keep K42)
    have lt45 : b32 < T42.heap.size := f46.lt
    have f48 := (f41.keep K42)
    have lt47 : b34 < T42.heap.size := f48.lt
    have lt49 : b42 < T42.heap.size := V42.lt
    obtain ⟨cq50, kq50, qa50, qb50, qc50⟩ := isOf hZ rfl V42
    obtain ⟨_, _, ⟨T50, L50, k50, n50⟩, -, X50, ⟨Lc50, hQ50, l50, y50, z50⟩, st50⟩ := X42.virtualBack hx (y := mN13) (z := mN13) hown (mvT hZ (hwk hw 50 rfl)) (mvT hZ (hwk hw 51 rfl)) (notFace_of_selects (args := #[]) (mvT hZ (hwk hw 53 rfl))) (mvT hZ (hwk hw 53 rfl)) (mvT hZ (hwk hw 52 rfl)) (by decide) (backOf (W := 0) (rmIn0 l Z a0 hw [] b42 b32 T42.heap n0 Z42 P42 I42) hZ (hwk hw 54 rfl) (hwk hw 36 rfl) (by decide) (by decide)) qa50 qc50 (g := (mkF m 45 #[iv q0, iv q1, iv q2, iv q3, iv q4, iv (1 : Int32), rv b32, rv b34, rv b42, .unset, .unset, .unset] [(.ref b42)])) rfl (by rw [hml]; rfl) (Steps.refl _) (argsL := []) (rest := []) (lenOf pd___Llucerna_ontology_Role__b191 rfl) rfl (by show 2 * 0 + _ ≤ _; exact Nat.le_of_eq rfl) (hb hby at_45) (fun _ _ => ⟨rfl, rfl, (by decide : 6 + 1 ≤ 24), (by decide : 20 + 2 ≤ 1152)⟩)
    dsimp only [Pt.U, Pt.locs, Pt.cells, Pt.slots] at X50 l50 y50 z50 st50 hQ50
    subst l50 y50 z50
    obtain ⟨b50, rfl, N50q, K50, szq50, loq50, V50, P50, I50⟩ := hQ50
    have hk := Nat.le_trans hk K50.1
    have ne_b32_b50 : b32 ≠ b50 := Nat.ne_of_lt (Nat.lt_of_lt_of_le lt45 szq50)
    have ne_b34_b50 : b34 ≠ b50 := Nat.ne_of_lt (Nat.lt_of_lt_of_le lt47 szq50)
    have ne_b42_b50 : b42 ≠ b50 := Nat.ne_of_lt (Nat.lt_of_lt_of_le lt49 szq50)
    have Z50 : n0 ≤ T50.heap.size := Nat.le_trans Z42 K50.1
    have N50 := Fr.app N42 N50q
    refine Goes.sts st50 ?_
    show Gs p e below _ T50 m 48 #[iv q0, iv q1, iv q2, iv q3, iv q4, iv (1 : Int32), rv b32, rv b34, rv b42, .unset, .unset, .unset] [(.ref b50)]
    refine gastore X50 hx (hb hby at_48) trivial rfl (l' := #[iv q0, iv q1, iv q2, iv q3, iv q4, iv (1 : Int32), rv b32, rv b34, rv b42, rv b50, .unset, .unset]) rfl ?_
    refine gaload X50 hx (hb hby at_50) rfl rfl ?_
    have f52 := (P42.keep K50 nin0)
    have f54 := (V42.keep K50)
    obtain ⟨cq53, kq53, qa53, qb53, qc53⟩ := isOf hZ rfl f54
    obtain ⟨_, _, ⟨T53, L53, k53, n53⟩, -, X53, ⟨Lc53, hQ53, l53, y53, z53⟩, st53⟩ := X50.virtualBack hx (y := mN14) (z := mN14) hown (mvT hZ (hwk hw 57 rfl)) (mvT hZ (hwk hw 58 rfl)) (notFace_of_selects (args := #[]) (mvT hZ (hwk hw 60 rfl))) (mvT hZ (hwk hw 60 rfl)) (mvT hZ (hwk hw 59 rfl)) (by decide) (backOf (W := 0) (rmGp l Z a0 hw [] b42 b32 T50.heap n0 Z50 f52) hZ (hwk hw 61 rfl) (hwk hw 36 rfl) (by decide) (by decide)) qa53 qc53 (g := (mkF m 52 #[iv q0, iv q1, iv q2, iv q3, iv q4, iv (1 : Int32), rv b32, rv b34, rv b42, rv b50, .unset, .unset] [(.ref b42)])) rfl (by rw [hml]; rfl) (Steps.refl _) (argsL := []) (rest := []) (lenOf pd___Ljava_lang_String__7667 rfl) rfl (by show 2 * 0 + _ ≤ _; exact Nat.le_of_eq rfl) (hb hby at_52) (fun _ _ => ⟨rfl, rfl, (by decide : 7 + 0 ≤ 24), (by decide : 22 + 0 ≤ 1152)⟩)
    dsimp only [Pt.U, Pt.locs, Pt.cells, Pt.slots] at X53 l53 y53 z53 st53 hQ53
    subst l53 y53 z53
    obtain ⟨rfl, N53q, eh53⟩ := hQ53
    have N53 := Fr.app N50 N53q
    refine Goes.sts st53 ?_
    show Gs p e below _ T53 m 55 #[iv q0, iv q1, iv q2, iv q3, iv q4, iv (1 : Int32), rv b32, rv b34, rv b42, rv b50, .unset, .unset] [(.ref b32)]
    refine gaload X53 hx (hb hby at_55) rfl rfl ?_
    have f56 := (f46.keep K50)
    obtain ⟨cq55, kq55, qa55, qb55, qc55⟩ := isOf hZ eh53 f56
    obtain ⟨_, _, ⟨T55, L55, k55, n55⟩, -, X55, ⟨Lc55, hQ55, l55, y55, z55⟩, st55⟩ := X53.virtualBack hx (y := mN16) (z := mN16) hown (mvT hZ (hwk hw 62 rfl)) (mvT hZ (hwk hw 63 rfl)) (notFace_of_selects (args := #[]) (mvT hZ (hwk hw 65 rfl))) (mvT hZ (hwk hw 65 rfl)) (mvT hZ (hwk hw 64 rfl)) (by decide) (backOf (W := 0) (rmEq l Z a0 hw [] b32 T50.heap n0 Z50 ) hZ (hwk hw 66 rfl) (hwk hw 6 rfl) (by decide) (by decide)) qa55 qc55 (g := (mkF m 57 #[iv q0, iv q1, iv q2, iv q3, iv q4, iv (1 : Int32), rv b32, rv b34, rv b42, rv b50, .unset, .unset] [(.ref b32), (.ref b32)])) rfl (by rw [hml]; rfl) (Steps.refl _) (argsL := [(.ref b32)]) (rest := []) (lenOf pd__Ljava_lang_Object__Z_79ae rfl) rfl (by show 2 * 0 + _ ≤ _; exact Nat.le_of_eq rfl) (hb hby at_57) (fun _ _ => ⟨rfl, eh53, (by decide : 7 + 0 ≤ 24), (by decide : 22 + 0 ≤ 1152)⟩)
    dsimp only [Pt.U, Pt.locs, Pt.cells, Pt.slots] at X55 l55 y55 z55 st55 hQ55
    subst l55 y55 z55
    obtain ⟨rfl, N55q, eh55⟩ := hQ55
    have N55 := Fr.app N53 N55q
    refine Goes.sts st55 ?_
    show Gs p e below _ T55 m 60 #[iv q0, iv q1, iv q2, iv q3, iv q4, iv (1 : Int32), rv b32, rv b34, rv b42, rv b50, .unset, .unset] [(.int (1 : Int32))]
    refine gifNo X55 hx (hb hby at_60) (by decide) ?_
    show Gs p e below _ T55 m 63 #[iv q0, iv q1, iv q2, iv q3, iv q4, iv (1 : Int32), rv b32, rv b34, rv b42, rv b50, .unset, .unset] []
    refine gaload X55 hx (hb hby at_63) rfl rfl ?_
    have f57 := (I42.keep K50 nin0)
    obtain ⟨cq58, kq58, qa58, qb58, qc58⟩ := isOf hZ eh55 f54
    obtain ⟨_, _, ⟨T58, L58, k58, n58⟩, -, X58, ⟨Lc58, hQ58, l58, y58, z58⟩, st58⟩ := X55.virtualBack hx (y := mN15) (z := mN15) hown (mvT hZ (hwk hw 67 rfl)) (mvT hZ (hwk hw 68 rfl)) (notFace_of_selects (args := #[]) (mvT hZ (hwk hw 70 rfl))) (mvT hZ (hwk hw 70 rfl)) (mvT hZ (hwk hw 69 rfl)) (by decide) (backOf (W := 0) (rmGi l Z a0 hw [] b42 (0 : Int32) T50.heap n0 Z50 f57 (by decide)) hZ (hwk hw 71 rfl) (hwk hw 36 rfl) (by decide) (by decide)) qa58 qc58 (g := (mkF m 65 #[iv q0, iv q1, iv q2, iv q3, iv q4, iv (1 : Int32), rv b32, rv b34, rv b42, rv b50, .unset, .unset] [(.ref b42)])) rfl (by rw [hml]; rfl) (Steps.refl _) (argsL := []) (rest := []) (lenOf pd___Z_58a rfl) rfl (by show 2 * 0 + _ ≤ _; exact Nat.le_of_eq rfl) (hb hby at_65) (fun _ _ => ⟨rfl, eh55, (by decide : 7 + 0 ≤ 24), (by decide : 22 + 0 ≤ 1152)⟩)
    dsimp only [Pt.U, Pt.locs, Pt.cells, Pt.slots] at X58 l58 y58 z58 st58 hQ58
    subst l58 y58 z58
    obtain ⟨rfl, N58q, eh58⟩ := hQ58
    have N58 := Fr.app N55 N58q
    refine Goes.sts st58 ?_
    show Gs p e below _ T58 m 68 #[iv q0, iv q1, iv q2, iv q3, iv q4, iv (1 : Int32), rv b32, rv b34, rv b42, rv b50, .unset, .unset] [(.int (0 : Int32))]
    refine giload X58 hx (hb hby at_68) rfl ?_
    show Gs p e below _ T58 m 70 #[iv q0, iv q1, iv q2, iv q3, iv q4, iv (1 : Int32), rv b32, rv b34, rv b42, rv b50, .unset, .unset] [(.int (1 : Int32)), (.int (0 : Int32))]
    refine gifYes X58 hx (pc' := 77) (hb hby at_70) (by decide) (by decide) (by decide) ?_
    show Gs p e below _ T58 m 77 #[iv q0, iv q1, iv q2, iv q3, iv q4, iv (1 : Int32), rv b32, rv b34, rv b42, rv b50, .unset, .unset] [(.int (0 : Int32))]
    refine giconst X58 hx (hb hby at_77) ?_
    show Gs p e below _ T58 m 78 #[iv q0, iv q1, iv q2, iv q3, iv q4, iv (1 : Int32), rv b32, rv b34, rv b42, rv b50, .unset, .unset] [(.int (0 : Int32)), (.int (0 : Int32))]
    refine gicmpNo X58 hx (hb hby at_78) (by decide) ?_
    show Gs p e below _ T58 m 81 #[iv q0, iv q1, iv q2, iv q3, iv q4, iv (1 : Int32), rv b32, rv b34, rv b42, rv b50, .unset, .unset] []
    refine giconst X58 hx (hb hby at_81) ?_
    show Gs p e below _ T58 m 82 #[iv q0, iv q1, iv q2, iv q3, iv q4, iv (1 : Int32), rv b32, rv b34, rv b42, rv b50, .unset, .unset] [(.int (1 : Int32))]
    refine ggoto X58 hx (pc' := 86) (hb hby at_82) (by decide) (by decide) ?_
    show Gs p e below _ T58 m 86 #[iv q0, iv q1, iv q2, iv q3, iv q4, iv (1 : Int32), rv b32, rv b34, rv b42, rv b50, .unset, .unset] [(.int (1 : Int32))]
    refine gistore X58 hx (hb hby at_86) trivial (l' := #[iv q0, iv q1, iv q2, iv q3, iv q4, iv (1 : Int32), rv b32, rv b34, rv b42, rv b50, iv (1 : Int32), .unset]) rfl ?_
    refine gaload X58 hx (hb hby at_88) rfl rfl ?_
    obtain ⟨cq59, kq59, qa59, qb59, qc59⟩ := isOf hZ eh58 V50
    obtain ⟨_, _, ⟨T59, L59, k59, n59⟩, -, X59, ⟨Lc59, hQ59, l59, y59, z59⟩, st59⟩ := X58.virtualBack hx (y := mN14) (z := mN14) hown (mvT hZ (hwk hw 57 rfl)) (mvT hZ (hwk hw 58 rfl)) (notFace_of_selects (args := #[]) (mvT hZ (hwk hw 60 rfl))) (mvT hZ (hwk hw 60 rfl)) (mvT hZ (hwk hw 59 rfl)) (by decide) (backOf (W := 0) (rmGp l Z a0 hw [] b50 b32 T50.heap n0 Z50 P50) hZ (hwk hw 61 rfl) (hwk hw 36 rfl) (by decide) (by decide)) qa59 qc59 (g := (mkF m 90 #[iv q0, iv q1, iv q2, iv q3, iv q4, iv (1 : Int32), rv b32, rv b34, rv b42, rv b50, iv (1 : Int32), .unset] [(.ref b50)])) rfl (by rw [hml]; rfl) (Steps.refl _) (argsL := []) (rest := []) (lenOf pd___Ljava_lang_String__7667 rfl) rfl (by show 2 * 0 + _ ≤ _; exact Nat.le_of_eq rfl) (hb hby at_90) (fun _ _ => ⟨rfl, eh58, (by decide : 7 + 0 ≤ 24), (by decide : 22 + 0 ≤ 1152)⟩)
    dsimp only [Pt.U, Pt.locs, Pt.cells, Pt.slots] at X59 l59 y59 z59 st59 hQ59
    subst l59 y59 z59
    obtain ⟨rfl, N59q, eh59⟩ := hQ59
    have N59 := Fr.app N58 N59q
    refine Goes.sts st59 ?_
    show Gs p e below _ T59 m 93 #[iv q0, iv q1, iv q2, iv q3, iv q4, iv (1 : Int32), rv b32, rv b34, rv b42, rv b50, iv (1 : Int32), .unset] [(.ref b32)]
    refine gaload X59 hx (hb hby at_93) rfl rfl ?_
    obtain ⟨cq60, kq60, qa60, qb60, qc60⟩ := isOf hZ eh59 f56
    obtain ⟨_, _, ⟨T60, L60, k60, n60⟩, -, X60, ⟨Lc60, hQ60, l60, y60, z60⟩, st60⟩ := X59.virtualBack hx (y := mN16) (z := mN16) hown (mvT hZ (hwk hw 62 rfl)) (mvT hZ (hwk hw 63 rfl)) (notFace_of_selects (args := #[]) (mvT hZ (hwk hw 65 rfl))) (mvT hZ (hwk hw 65 rfl)) (mvT hZ (hwk hw 64 rfl)) (by decide) (backOf (W := 0) (rmEq l Z a0 hw [] b32 T50.heap n0 Z50 ) hZ (hwk hw 66 rfl) (hwk hw 6 rfl) (by decide) (by decide)) qa60 qc60 (g := (mkF m 95 #[iv q0, iv q1, iv q2, iv q3, iv q4, iv (1 : Int32), rv b32, rv b34, rv b42, rv b50, iv (1 : Int32), .unset] [(.ref b32), (.ref b32)])) rfl (by rw [hml]; rfl) (Steps.refl _) (argsL := [(.ref b32)]) (rest := []) (lenOf pd__Ljava_lang_Object__Z_79ae rfl) rfl (by show 2 * 0 + _ ≤ _; exact Nat.le_of_eq rfl) (hb hby at_95) (fun _ _ => ⟨rfl, eh59, (by decide : 7 + 0 ≤ 24), (by decide : 22 + 0 ≤ 1152)⟩)
    dsimp only [Pt.U, Pt.locs, Pt.cells, Pt.slots] at X60 l60 y60 z60 st60 hQ60
    subst l60 y60 z60
    obtain ⟨rfl, N60q, eh60⟩ := hQ60
    have N60 := Fr.app N59 N60q
    refine Goes.sts st60 ?_
    show Gs p e below _ T60 m 98 #[iv q0, iv q1, iv q2, iv q3, iv q4, iv (1 : Int32), rv b32, rv b34, rv b42, rv b50, iv (1 : Int32), .unset] [(.int (1 : Int32))]
    refine gifNo X60 hx (hb hby at_98) (by decide) ?_
    show Gs p e below _ T60 m 101 #[iv q0, iv q1, iv q2, iv q3, iv q4, iv (1 : Int32), rv b32, rv b34, rv b42, rv b50, iv (1 : Int32), .unset] []
    refine gaload X60 hx (hb hby at_101) rfl rfl ?_
    obtain ⟨cq61, kq61, qa61, qb61, qc61⟩ := isOf hZ eh60 V50
    obtain ⟨_, _, ⟨T61, L61, k61, n61⟩, -, X61, ⟨Lc61, hQ61, l61, y61, z61⟩, st61⟩ := X60.virtualBack hx (y := mN15) (z := mN15) hown (mvT hZ (hwk hw 67 rfl)) (mvT hZ (hwk hw 68 rfl)) (notFace_of_selects (args := #[]) (mvT hZ (hwk hw 70 rfl))) (mvT hZ (hwk hw 70 rfl)) (mvT hZ (hwk hw 69 rfl)) (by decide) (backOf (W := 0) (rmGi l Z a0 hw [] b50 (1 : Int32) T50.heap n0 Z50 I50 (by decide)) hZ (hwk hw 71 rfl) (hwk hw 36 rfl) (by decide) (by decide)) qa61 qc61 (g := (mkF m 103 #[iv q0, iv q1, iv q2, iv q3, iv q4, iv (1 : Int32), rv b32, rv b34, rv b42, rv b50, iv (1 : Int32), .unset] [(.ref b50)])) rfl (by rw [hml]; rfl) (Steps.refl _) (argsL := []) (rest := []) (lenOf pd___Z_58a rfl) rfl (by show 2 * 0 + _ ≤ _; exact Nat.le_of_eq rfl) (hb hby at_103) (fun _ _ => ⟨rfl, eh60, (by decide : 7 + 0 ≤ 24), (by decide : 22 + 0 ≤ 1152)⟩)
    dsimp only [Pt.U, Pt.locs, Pt.cells, Pt.slots] at X61 l61 y61 z61 st61 hQ61
    subst l61 y61 z61
    obtain ⟨rfl, N61q, eh61⟩ := hQ61
    have N61 := Fr.app N60 N61q
    refine Goes.sts st61 ?_
    show Gs p e below _ T61 m 106 #[iv q0, iv q1, iv q2, iv q3, iv q4, iv (1 : Int32), rv b32, rv b34, rv b42, rv b50, iv (1 : Int32), .unset] [(.int (1 : Int32))]
    refine giload X61 hx (hb hby at_106) rfl ?_
    show Gs p e below _ T61 m 108 #[iv q0, iv q1, iv q2, iv q3, iv q4, iv (1 : Int32), rv b32, rv b34, rv b42, rv b50, iv (1 : Int32), .unset] [(.int (1 : Int32)), (.int (1 : Int32))]
    refine gicmpNo X61 hx (hb hby at_108) (by decide) ?_
    show Gs p e below _ T61 m 111 #[iv q0, iv q1, iv q2, iv q3, iv q4, iv (1 : Int32), rv b32, rv b34, rv b42, rv b50, iv (1 : Int32), .unset] []
    refine giconst X61 hx (hb hby at_111) ?_
    show Gs p e below _ T61 m 112 #[iv q0, iv q1, iv q2, iv q3, iv q4, iv (1 : Int32), rv b32, rv b34, rv b42, rv b50, iv (1 : Int32), .unset] [(.int (1 : Int32))]
    refine ggoto X61 hx (pc' := 116) (hb hby at_112) (by decide) (by decide) ?_
    show Gs p e below _ T61 m 116 #[iv q0, iv q1, iv q2, iv q3, iv q4, iv (1 : Int32), rv b32, rv b34, rv b42, rv b50, iv (1 : Int32), .unset] [(.int (1 : Int32))]
    refine gistore X61 hx (hb hby at_116) trivial (l' := #[iv q0, iv q1, iv q2, iv q3, iv q4, iv (1 : Int32), rv b32, rv b34, rv b42, rv b50, iv (1 : Int32), iv (1 : Int32)]) rfl ?_
    refine giload X61 hx (hb hby at_118) rfl ?_
    show Gs p e below _ T61 m 120 #[iv q0, iv q1, iv q2, iv q3, iv q4, iv (1 : Int32), rv b32, rv b34, rv b42, rv b50, iv (1 : Int32), iv (1 : Int32)] [(.int (1 : Int32))]
    refine gifNo X61 hx (hb hby at_120) (by decide) ?_
    show Gs p e below _ T61 m 123 #[iv q0, iv q1, iv q2, iv q3, iv q4, iv (1 : Int32), rv b32, rv b34, rv b42, rv b50, iv (1 : Int32), iv (1 : Int32)] []
    refine giload X61 hx (hb hby at_123) rfl ?_
    show Gs p e below _ T61 m 125 #[iv q0, iv q1, iv q2, iv q3, iv q4, iv (1 : Int32), rv b32, rv b34, rv b42, rv b50, iv (1 : Int32), iv (1 : Int32)] [(.int (1 : Int32))]
    refine gifNo X61 hx (hb hby at_125) (by decide) ?_
    show Gs p e below _ T61 m 128 #[iv q0, iv q1, iv q2, iv q3, iv q4, iv (1 : Int32), rv b32, rv b34, rv b42, rv b50, iv (1 : Int32), iv (1 : Int32)] []
    refine giconst X61 hx (hb hby at_128) ?_
    show Gs p e below _ T61 m 129 #[iv q0, iv q1, iv q2, iv q3, iv q4, iv (1 : Int32), rv b32, rv b34, rv b42, rv b50, iv (1 : Int32), iv (1 : Int32)] [(.int (1 : Int32))]
    refine ggoto X61 hx (pc' := 133) (hb hby at_129) (by decide) (by decide) ?_
    show Gs p e below _ T61 m 133 #[iv q0, iv q1, iv q2, iv q3, iv q4, iv (1 : Int32), rv b32, rv b34, rv b42, rv b50, iv (1 : Int32), iv (1 : Int32)] [(.int (1 : Int32))]
    refine Goes.retN X61 hx hret (by simp) (hb hby at_133) (by decide) (lvV X61 hlk hS (by rw [eh61]; exact hk) (vsome hret) ?_ (by decide) (by decide))
    rw [eh61]
    exact ⟨rfl, N61⟩
set_option maxRecDepth 65536 in
set_option maxHeartbeats 40000000 in
theorem comes_1 {Post : Tables → Env → Array Value → State → Outcome → State → Prop} (hpost : ∀ tb e args s v u, (limb_1_1.after args s (.returned v) u = true ∧ limb_1_2.after args s (.returned v) u = true ∧ True) → ReturnedEndW s (.returned v) u (Jvm.fieldLocs frame_1_writes args s ++ Jvm.arrayLocs frame_1_arrays args s ++ Jvm.staticLocs frame_1_statics s) 24 1152 → Post tb e args s (.returned v) u) :
    ArmFor flags0 classFile x code maxLocals ret World_1 tables_1 room_1 Calls_1 rest_1 Pre_1 Post := by
  intro l hfl _ _ p e ha hc hk s m args below hf hA hF happ hP
  obtain ⟨hcalls, hrest, hpre⟩ := hP
  obtain ⟨-, -, -, hnamed, -, -, -, hat⟩ := (Spec.applies_iff hf).mp happ
  obtain ⟨hg, hn⟩ := and_e (Cond.before_iff.mp (show (Jvm.Cond.and given_1 narrow_1).before args s = true from hpre))
  obtain ⟨hcnt, hg⟩ := and_e hg
  obtain ⟨ga0, hg⟩ := and_e hg
  obtain ⟨ga1, hg⟩ := and_e hg
  obtain ⟨ga2, hg⟩ := and_e hg
  obtain ⟨ga3, hg⟩ := and_e hg
  have ga4 := hg
  obtain ⟨w0, w1, w2, w3, w4, rfl⟩ : ∃ w0 w1 w2 w3 w4 : Value, args = #[w0, w1, w2, w3, w4] := by
    have hs : args.size = 5 := by simpa [Cond.value, given_1] using hcnt
    obtain ⟨L⟩ := args
    match L, hs with
    | [w0, w1, w2, w3, w4], _ => exact ⟨w0, w1, w2, w3, w4, rfl⟩
  have hw := fun d (hd : d ∈ tables_1) => atoms_spec (ws := Jvm.Cond.code x code maxLocals ret :: tables_1) hat d (List.mem_cons_of_mem _ hd)
  have hfit : Fit s := fun {y c} hc i hi => by
    obtain ⟨ha, rfl⟩ := Array.getElem?_eq_some_iff.mp hc
    have q := List.all_eq_true.mp ((Array.all_eq_true_iff_forall_mem.mp hF) _ (Array.getElem_mem ha)) i (List.mem_range.mpr hi)
    simpa [Array.getElem?_eq_getElem hi] using q
  obtain ⟨i0, q0⟩ := is_v ga0
  obtain rfl : w0 = (.int i0) := Option.some.inj q0
  obtain ⟨i1, q1⟩ := is_v ga1
  obtain rfl : w1 = (.int i1) := Option.some.inj q1
  obtain ⟨i2, q2⟩ := is_v ga2
  obtain rfl : w2 = (.int i2) := Option.some.inj q2
  obtain ⟨i3, q3⟩ := is_v ga3
  obtain rfl : w3 = (.int i3) := Option.some.inj q3
  obtain ⟨i4, q4⟩ := is_v ga4
  obtain rfl : w4 = (.int i4) := Option.some.inj q4
  obtain ⟨hsets, hown0⟩ := atoms_of _ (rest_1_c_eq ▸ (show rest_1_c.before _ s = true from hrest))
  have n5 := not_v (Cond.before_iff.mp (hsets _ (List.mem_of_getElem? (i := 2) rfl)))
  obtain ⟨i11, e10⟩ := is_v (Cond.before_iff.mp (hsets _ (List.mem_of_getElem? (i := 1) rfl)))
  have S12 : Sta s s.heap "java/lang/String" "COMPACT_STRINGS" "Z" (.int i11) := Sta.start e10 (Or.inl (hsets _ (List.mem_of_getElem? (i := 0) rfl)))
  have c17 : ¬ (i11 = (0 : Int32)) := gotF (Cond.eq_ints e10 (Term.int_eval (0))) n5
  have Sd : Sta s s.heap "java/lang/StringUTF16" "$assertionsDisabled" "Z" (.int (1 : Int32)) := Sta.start (eqv_i (Term.int_eval (1)) (Cond.before_iff.mp (hsets _ (List.mem_of_getElem? (i := 12) rfl)))) (Or.inl (hsets _ (List.mem_of_getElem? (i := 11) rfl)))
  have Sh : Sta s s.heap "java/lang/StringUTF16" "HI_BYTE_SHIFT" "I" (.int (0 : Int32)) := Sta.start (eqv_i (Term.int_eval (0)) (Cond.before_iff.mp (hsets _ (List.mem_of_getElem? (i := 15) rfl)))) (Or.inl (hsets _ (List.mem_of_getElem? (i := 14) rfl)))
  have Sl : Sta s s.heap "java/lang/StringUTF16" "LO_BYTE_SHIFT" "I" (.int (8 : Int32)) := Sta.start (eqv_i (Term.int_eval (8)) (Cond.before_iff.mp (hsets _ (List.mem_of_getElem? (i := 18) rfl)))) (Or.inl (hsets _ (List.mem_of_getElem? (i := 17) rfl)))
  have hH : CHv s ELs s.vm s.heap := CHv.start (hELs hw) (fun p hp => hcalls.1 p hp) (hsets _ (List.mem_of_getElem? (i := 2) rfl)) (hwk hw 23 rfl) (hwk hw 5 rfl)
  obtain ⟨n, o, h1, h2, h3, _, L, rfl, ⟨rfl, N⟩, hq⟩ := rm0 l s _ hw tables_1 i0 i1 i2 i3 i4 i11 s.heap s.heap.size (Nat.le_refl _) S12 c17 Sd Sh Sl p e ha hc hk s m _ below hf ((Spec.applies_iff_loose hf).mp happ).1 ⟨rfl, State.Warmed39.refl s, rfl, hH⟩ trivial
  refine ⟨n, _, h1, h2, h3, hpost _ _ _ _ _ _ ⟨Cond.after_iff.mpr rfl, Cond.after_iff.mpr (eq_i res_at (Term.int_eval (1)) rfl), trivial⟩ ⟨hq.1, hq.2.1, hq.2.2.1, (hq.2.2.2.sift fun y hy => Or.inr (N y hy)).mono (by decide) (by decide)⟩⟩
theorem main_1_1 : Claimed_1_1 := comes_1 fun _ _ _ _ _ _ h hF => ⟨h.1, hF⟩
theorem main_1_2 : Claimed_1_2 := comes_1 fun _ _ _ _ _ _ h hF => ⟨h.2.1, hF⟩
end Jvm.Pilot.@@N@@
namespace Jvm.Pilot.@@N@@
open Jvm Jvm.ClassFile Sem Op Lib Jvm.Free Jvm.Stand Jvm.Pilot.@@N@@.Jvm.D
/-! MADE BY PROGRAM (witnessworld.py) out of the Statement's table words and the real class files: 21 classes; the members and pool entries that the words name. The judged class is class 1, her method 2. -/
namespace start1
open Jvm.ClassFile
def u (s : String) : CpInfo := .utf8 (stringToUtf16 s)
/-- a pool by its gaps: so many unusable entries, then the entry; so many at the end -/
def gap : Nat → List CpInfo → List CpInfo
  | 0, r => r
  | n + 1, r => .unusable :: gap n r
def poolList (es : List (Nat × CpInfo)) (last : Nat) : List CpInfo := es.foldr (fun e r => gap e.1 (e.2 :: r)) (gap last [])
def pool (es : List (Nat × CpInfo)) (last : Nat) : Array CpInfo := ⟨poolList es last⟩
def fileOf (pool : Array CpInfo) (this : Nat) (attrs : Array Attribute := #[]) (ms : Array MethodInfo := #[]) (fl : Nat := 33) (sup : Nat := 0) (ifs : Array Nat := #[]) (fds : Array FieldInfo := #[]) : ClassFile where
  minorVersion := 0
  majorVersion := 65
  constantPool := pool
  accessFlags := fl
  thisClass := this
  superClass := sup
  interfaces := ifs
  fields := fds
  methods := ms
  attributes := attrs
def plain (name : String) (sup : Option ClassId) : Class where
  name := name
  kind := .ordinary
  loader := none
  accessFlags := 33
  super := sup
  interfaces := #[]
  cf := none
  fields := #[]
  methods := #[]
  instanceTypes := #[]
  staticTypes := #[]
  resolved := #[]
  callSites := []
  init := .initialized
  statics := none
  mirror := none

def pool0 : Array CpInfo := pool [(5, u "<init>"), (0, u "()V"), (1, .class_ 10), (1, u "java/lang/Object")] 113

def k0c0 : Code := { maxStack := 0, maxLocals := 1, code := object_method_1_code, exceptionTable := #[], attributes := #[] }
def k0m0 : Method := { name := "<init>", desc := "()V", sig := { parameters := [], returnType := none }, accessFlags := 1, code := some k0c0 }
/-- java/lang/Object -/
def k0 : Class := { plain "java/lang/Object" none with
  accessFlags := 33
  interfaces := #[]
  cf := some (fileOf pool0 8 #[] #[{ accessFlags := 1, nameIndex := 5, descriptorIndex := 6, attributes := #[] }] 33 0 #[] #[])
  fields := #[]
  methods := #[k0m0]
  instanceTypes := #[]
  staticTypes := #[]
  resolved := Array.replicate 124 none
  statics := none }

def pool1 : Array CpInfo := pool [(2, .class_ 4), (1, u "java/lang/Object"), (0, u "<init>"), (0, u "()V"), (0, .class_ 8), (0, u "java/lang/String"), (0, .methodref 7 10), (0, .nameAndType 5 11), (0, u "([C)V"), (0, .methodref 13 14), (0, .class_ 15), (0, .nameAndType 16 17), (0, u "lucerna/ontology/RoleInversePinLaw"), (0, u "drawn"), (0, u "(IIII)Ljava/lang/String;"), (0, .class_ 19), (0, u "lucerna/ontology/Role"), (0, .methodref 18 21), (0, .nameAndType 5 22), (0, u "(Ljava/lang/String;Z)V"), (0, .methodref 18 24), (0, .nameAndType 25 26), (0, u "inverse"), (0, u "()Llucerna/ontology/Role;"), (0, .methodref 18 28), (0, .nameAndType 29 30), (0, u "property"), (0, u "()Ljava/lang/String;"), (0, .methodref 7 32), (0, .nameAndType 33 34), (0, u "equals"), (0, u "(Ljava/lang/Object;)Z"), (0, .methodref 18 36), (0, .nameAndType 37 38), (0, u "inverted"), (0, u "()Z"), (3, u "law"), (0, u "(IIIII)Z")] 2

def k1m0 : Method := { name := "<init>", desc := "()V", sig := { parameters := [], returnType := none }, accessFlags := 1, code := none }
def k1c1 : Code := { maxStack := 6, maxLocals := 5, code := method_2_code, exceptionTable := #[], attributes := #[] }
def k1m1 : Method := { name := "drawn", desc := "(IIII)Ljava/lang/String;", sig := { parameters := [.int, .int, .int, .int], returnType := some (.object "java/lang/String") }, accessFlags := 10, code := some k1c1 }
def k1c2 : Code := { maxStack := 4, maxLocals := 12, code := code, exceptionTable := #[], attributes := #[] }
def k1m2 : Method := { name := "law", desc := "(IIIII)Z", sig := { parameters := [.int, .int, .int, .int, .int], returnType := some .boolean }, accessFlags := 9, code := some k1c2 }
/-- lucerna/ontology/RoleInversePinLaw -/
def k1 : Class := { plain "lucerna/ontology/RoleInversePinLaw" (some 0) with
  accessFlags := 49
  interfaces := #[]
  cf := some (fileOf pool1 13 #[] #[{ accessFlags := 1, nameIndex := 5, descriptorIndex := 6, attributes := #[] }, { accessFlags := 10, nameIndex := 16, descriptorIndex := 17, attributes := #[] }, { accessFlags := 9, nameIndex := 42, descriptorIndex := 43, attributes := #[] }] 49 2 #[] #[])
  fields := #[]
  methods := #[k1m0, k1m1, k1m2]
  instanceTypes := #[]
  staticTypes := #[]
  resolved := Array.replicate 46 none
  statics := none }

def pool2 : Array CpInfo := pool [(1, .class_ 2), (0, u "java/io/Serializable"), (0, .class_ 4), (0, u "java/lang/Object")] 2

/-- java/io/Serializable -/
def k2 : Class := { plain "java/io/Serializable" (some 0) with
  accessFlags := 1537
  interfaces := #[]
  cf := some (fileOf pool2 1 #[] #[] 1537 3 #[] #[])
  fields := #[]
  methods := #[]
  instanceTypes := #[]
  staticTypes := #[]
  resolved := Array.replicate 7 none
  statics := none }

def pool3 : Array CpInfo := pool [(1, .class_ 2), (0, u "java/lang/Comparable"), (0, .class_ 4), (0, u "java/lang/Object")] 7

/-- java/lang/Comparable -/
def k3 : Class := { plain "java/lang/Comparable" (some 0) with
  accessFlags := 1537
  interfaces := #[]
  cf := some (fileOf pool3 1 #[] #[] 1537 3 #[] #[])
  fields := #[]
  methods := #[]
  instanceTypes := #[]
  staticTypes := #[]
  resolved := Array.replicate 12 none
  statics := none }

def pool4 : Array CpInfo := pool [(2, .class_ 4), (1, u "java/lang/CharSequence"), (42, .class_ 48), (0, u "java/lang/CharSequence$1CodePointIterator"), (10, .class_ 60), (0, u "java/lang/CharSequence$1CharIterator"), (5, .class_ 67), (0, u "java/lang/Object")] 63

/-- java/lang/CharSequence -/
def k4 : Class := { plain "java/lang/CharSequence" (some 0) with
  accessFlags := 1537
  interfaces := #[]
  cf := some (fileOf pool4 2 #[.nestMembers #[47, 59]] #[] 1537 66 #[] #[])
  fields := #[]
  methods := #[]
  instanceTypes := #[]
  staticTypes := #[]
  resolved := Array.replicate 131 none
  statics := none }

def pool5 : Array CpInfo := pool [(1, .class_ 2), (0, u "java/lang/constant/Constable"), (0, .class_ 4), (0, u "java/lang/Object")] 6

/-- java/lang/constant/Constable -/
def k5 : Class := { plain "java/lang/constant/Constable" (some 0) with
  accessFlags := 1537
  interfaces := #[]
  cf := some (fileOf pool5 1 #[] #[] 1537 3 #[] #[])
  fields := #[]
  methods := #[]
  instanceTypes := #[]
  staticTypes := #[]
  resolved := Array.replicate 11 none
  statics := none }

def pool6 : Array CpInfo := pool [(1, .class_ 2), (0, u "java/lang/constant/ConstantDesc"), (0, .class_ 4), (0, u "java/lang/Object")] 32

/-- java/lang/constant/ConstantDesc -/
def k6 : Class := { plain "java/lang/constant/ConstantDesc" (some 0) with
  accessFlags := 1537
  interfaces := #[]
  cf := some (fileOf pool6 1 #[] #[] 1537 3 #[] #[])
  fields := #[]
  methods := #[]
  instanceTypes := #[]
  staticTypes := #[]
  resolved := Array.replicate 37 none
  statics := none }

def pool7 : Array CpInfo := pool [(1, .methodref 2 3), (0, .class_ 4), (0, .nameAndType 5 6), (0, u "java/lang/Object"), (0, u "<init>"), (0, u "()V"), (0, .string 8), (0, u ""), (0, .fieldref 10 11), (0, .class_ 12), (0, .nameAndType 13 14), (0, u "java/lang/String"), (0, u "value"), (0, u "[B"), (0, .fieldref 10 16), (0, .nameAndType 17 18), (0, u "coder"), (0, u "B"), (2, u "hash"), (0, u "I"), (2, u "hashIsZero"), (0, u "Z"), (0, .methodref 10 28), (0, .nameAndType 5 29), (0, u "([CIILjava/lang/Void;)V"), (8, .fieldref 10 39), (0, .nameAndType 40 26), (0, u "COMPACT_STRINGS"), (1, .class_ 44), (1, u "java/lang/StringUTF16"), (0, u "compress"), (1, .methodref 42 48), (0, .nameAndType 49 50), (0, u "coderFromArrayLen"), (0, u "([BI)B"), (126, .methodref 42 178), (0, .nameAndType 45 179), (0, u "([CII)[B"), (363, u "equals"), (29, u "(Ljava/lang/Object;)Z"), (1, .class_ 576), (0, u "java/lang/CharSequence"), (22, u "CASE_INSENSITIVE_ORDER"), (0, u "Ljava/util/Comparator;"), (409, u "([C)V"), (90, u "serialPersistentFields"), (0, u "[Ljava/io/ObjectStreamField;"), (0, .class_ 1104), (0, u "java/lang/String$CaseInsensitiveComparator"), (1, .class_ 1107), (0, u "java/io/Serializable"), (0, .class_ 1109), (0, u "java/lang/Comparable"), (0, .class_ 1111), (0, u "java/lang/constant/Constable"), (0, .class_ 1113), (0, u "java/lang/constant/ConstantDesc"), (2, u "serialVersionUID"), (0, u "J"), (3, u "REPL"), (0, u "C"), (2, u "LATIN1"), (1, u "UTF16")] 323

def k7m0 : Method := { name := "<init>", desc := "()V", sig := { parameters := [], returnType := none }, accessFlags := 1, code := none }
def k7c1 : Code := { maxStack := 5, maxLocals := 2, code := jdk_42_method_3_code, exceptionTable := #[], attributes := #[] }
def k7m1 : Method := { name := "<init>", desc := "([C)V", sig := { parameters := [(.array .char)], returnType := none }, accessFlags := 1, code := some k7c1 }
def k7c2 : Code := { maxStack := 2, maxLocals := 3, code := jdk_42_method_66_code, exceptionTable := #[], attributes := #[] }
def k7m2 : Method := { name := "equals", desc := "(Ljava/lang/Object;)Z", sig := { parameters := [(.object "java/lang/Object")], returnType := some .boolean }, accessFlags := 1, code := some k7c2 }
def k7c3 : Code := { maxStack := 4, maxLocals := 6, code := jdk_42_method_149_code, exceptionTable := #[], attributes := #[] }
def k7m3 : Method := { name := "<init>", desc := "([CIILjava/lang/Void;)V", sig := { parameters := [(.array .char), .int, .int, (.object "java/lang/Void")], returnType := none }, accessFlags := 2, code := some k7c3 }
/-- java/lang/String -/
def k7 : Class := { plain "java/lang/String" (some 0) with
  accessFlags := 49
  interfaces := #[2, 3, 4, 5, 6]
  cf := some (fileOf pool7 10 #[.nestMembers #[1103]] #[{ accessFlags := 1, nameIndex := 5, descriptorIndex := 6, attributes := #[] }, { accessFlags := 1, nameIndex := 5, descriptorIndex := 1010, attributes := #[] }, { accessFlags := 1, nameIndex := 543, descriptorIndex := 573, attributes := #[] }, { accessFlags := 2, nameIndex := 5, descriptorIndex := 29, attributes := #[] }] 49 2 #[1106, 1108, 575, 1110, 1112] #[{ accessFlags := 18, nameIndex := 13, descriptorIndex := 14, attributes := #[] }, { accessFlags := 18, nameIndex := 17, descriptorIndex := 18, attributes := #[] }, { accessFlags := 2, nameIndex := 21, descriptorIndex := 22, attributes := #[] }, { accessFlags := 2, nameIndex := 25, descriptorIndex := 26, attributes := #[] }, { accessFlags := 26, nameIndex := 1116, descriptorIndex := 1117, attributes := #[] }, { accessFlags := 24, nameIndex := 40, descriptorIndex := 26, attributes := #[] }, { accessFlags := 26, nameIndex := 1101, descriptorIndex := 1102, attributes := #[] }, { accessFlags := 26, nameIndex := 1121, descriptorIndex := 1122, attributes := #[] }, { accessFlags := 25, nameIndex := 599, descriptorIndex := 600, attributes := #[] }, { accessFlags := 24, nameIndex := 1125, descriptorIndex := 18, attributes := #[] }, { accessFlags := 24, nameIndex := 1127, descriptorIndex := 18, attributes := #[] }])
  fields := #[{ name := "value", type := (.array .byte), accessFlags := 18, slot := 0, constantValue := 0 }, { name := "coder", type := .byte, accessFlags := 18, slot := 1, constantValue := 0 }, { name := "hash", type := .int, accessFlags := 2, slot := 2, constantValue := 0 }, { name := "hashIsZero", type := .boolean, accessFlags := 2, slot := 3, constantValue := 0 }, { name := "serialVersionUID", type := .long, accessFlags := 26, slot := 0, constantValue := 0 }, { name := "COMPACT_STRINGS", type := .boolean, accessFlags := 24, slot := 1, constantValue := 0 }, { name := "serialPersistentFields", type := (.array (.object "java/io/ObjectStreamField")), accessFlags := 26, slot := 2, constantValue := 0 }, { name := "REPL", type := .char, accessFlags := 26, slot := 3, constantValue := 0 }, { name := "CASE_INSENSITIVE_ORDER", type := (.object "java/util/Comparator"), accessFlags := 25, slot := 4, constantValue := 0 }, { name := "LATIN1", type := .byte, accessFlags := 24, slot := 5, constantValue := 0 }, { name := "UTF16", type := .byte, accessFlags := 24, slot := 6, constantValue := 0 }]
  methods := #[k7m0, k7m1, k7m2, k7m3]
  instanceTypes := #[(.array .byte), .byte, .int, .boolean]
  staticTypes := #[.long, .boolean, (.array (.object "java/io/ObjectStreamField")), .char, (.object "java/util/Comparator"), .byte, .byte]
  resolved := Array.replicate 1451 none
  statics := some 0 }

def pool8 : Array CpInfo := pool [(6, .class_ 8), (1, u "java/lang/Object"), (0, u "<init>"), (0, u "()V"), (0, .methodref 12 13), (0, .class_ 14), (0, .nameAndType 15 16), (0, u "java/lang/StringUTF16"), (0, u "newBytesLength"), (0, u "(I)I"), (3, .integer 1073741823), (23, .fieldref 12 45), (0, .nameAndType 46 47), (0, u "$assertionsDisabled"), (0, u "Z"), (11, .fieldref 12 60), (0, .nameAndType 61 62), (0, u "HI_BYTE_SHIFT"), (0, u "I"), (0, .fieldref 12 64), (0, .nameAndType 65 62), (0, u "LO_BYTE_SHIFT"), (5, .methodref 12 72), (0, .nameAndType 73 74), (0, u "getChar"), (0, u "([BI)C"), (32, .methodref 12 108), (0, .nameAndType 109 110), (0, u "newBytesFor"), (0, u "(I)[B"), (0, .methodref 12 112), (0, .nameAndType 113 114), (0, u "putChar"), (0, u "([BII)V"), (0, .methodref 12 116), (0, .nameAndType 117 118), (0, u "compress"), (0, u "([CI[BII)I"), (0, .methodref 12 120), (0, .nameAndType 121 122), (0, u "toBytes"), (0, u "([CII)[B"), (138, u "coderFromArrayLen"), (0, u "([BI)B"), (106, .class_ 371), (1, u "java/lang/StringUTF16$LinesSpliterator"), (58, u "MAX_LENGTH"), (196, .class_ 628), (0, u "java/lang/StringUTF16$CodePointsSpliterator"), (0, .class_ 630), (0, u "java/lang/StringUTF16$CharsSpliterator")] 4

def k8m0 : Method := { name := "<init>", desc := "()V", sig := { parameters := [], returnType := none }, accessFlags := 0, code := none }
def k8c1 : Code := { maxStack := 1, maxLocals := 1, code := jdk_52_method_2_code, exceptionTable := #[], attributes := #[] }
def k8m1 : Method := { name := "newBytesFor", desc := "(I)[B", sig := { parameters := [.int], returnType := some (.array .byte) }, accessFlags := 9, code := some k8c1 }
def k8c2 : Code := { maxStack := 4, maxLocals := 1, code := jdk_52_method_3_code, exceptionTable := #[], attributes := #[] }
def k8m2 : Method := { name := "newBytesLength", desc := "(I)I", sig := { parameters := [.int], returnType := some .int }, accessFlags := 9, code := some k8c2 }
def k8c3 : Code := { maxStack := 4, maxLocals := 3, code := jdk_52_method_4_code, exceptionTable := #[], attributes := #[] }
def k8m3 : Method := { name := "putChar", desc := "([BII)V", sig := { parameters := [(.array .byte), .int, .int], returnType := none }, accessFlags := 8, code := some k8c3 }
def k8c4 : Code := { maxStack := 3, maxLocals := 2, code := jdk_52_method_5_code, exceptionTable := #[], attributes := #[] }
def k8m4 : Method := { name := "getChar", desc := "([BI)C", sig := { parameters := [(.array .byte), .int], returnType := some .char }, accessFlags := 8, code := some k8c4 }
def k8c5 : Code := { maxStack := 4, maxLocals := 5, code := jdk_52_method_14_code, exceptionTable := #[], attributes := #[] }
def k8m5 : Method := { name := "toBytes", desc := "([CII)[B", sig := { parameters := [(.array .char), .int, .int], returnType := some (.array .byte) }, accessFlags := 9, code := some k8c5 }
def k8c6 : Code := { maxStack := 2, maxLocals := 2, code := jdk_52_method_15_code, exceptionTable := #[], attributes := #[] }
def k8m6 : Method := { name := "coderFromArrayLen", desc := "([BI)B", sig := { parameters := [(.array .byte), .int], returnType := some .byte }, accessFlags := 8, code := some k8c6 }
def k8c7 : Code := { maxStack := 5, maxLocals := 6, code := jdk_52_method_16_code, exceptionTable := #[], attributes := #[] }
def k8m7 : Method := { name := "compress", desc := "([CII)[B", sig := { parameters := [(.array .char), .int, .int], returnType := some (.array .byte) }, accessFlags := 9, code := some k8c7 }
def k8c8 : Code := { maxStack := 3, maxLocals := 7, code := jdk_52_method_21_code, exceptionTable := #[], attributes := #[] }
def k8m8 : Method := { name := "compress", desc := "([CI[BII)I", sig := { parameters := [(.array .char), .int, (.array .byte), .int, .int], returnType := some .int }, accessFlags := 9, code := some k8c8 }
/-- java/lang/StringUTF16 -/
def k8 : Class := { plain "java/lang/StringUTF16" (some 0) with
  accessFlags := 48
  interfaces := #[]
  cf := some (fileOf pool8 12 #[.nestMembers #[627, 629, 369]] #[{ accessFlags := 0, nameIndex := 9, descriptorIndex := 10, attributes := #[] }, { accessFlags := 9, nameIndex := 109, descriptorIndex := 110, attributes := #[] }, { accessFlags := 9, nameIndex := 15, descriptorIndex := 16, attributes := #[] }, { accessFlags := 8, nameIndex := 113, descriptorIndex := 114, attributes := #[] }, { accessFlags := 8, nameIndex := 73, descriptorIndex := 74, attributes := #[] }, { accessFlags := 9, nameIndex := 121, descriptorIndex := 122, attributes := #[] }, { accessFlags := 8, nameIndex := 261, descriptorIndex := 262, attributes := #[] }, { accessFlags := 9, nameIndex := 117, descriptorIndex := 122, attributes := #[] }, { accessFlags := 9, nameIndex := 117, descriptorIndex := 118, attributes := #[] }] 48 6 #[] #[{ accessFlags := 26, nameIndex := 61, descriptorIndex := 62, attributes := #[] }, { accessFlags := 26, nameIndex := 65, descriptorIndex := 62, attributes := #[] }, { accessFlags := 24, nameIndex := 430, descriptorIndex := 62, attributes := #[] }, { accessFlags := 4120, nameIndex := 46, descriptorIndex := 47, attributes := #[] }])
  fields := #[{ name := "HI_BYTE_SHIFT", type := .int, accessFlags := 26, slot := 0, constantValue := 0 }, { name := "LO_BYTE_SHIFT", type := .int, accessFlags := 26, slot := 1, constantValue := 0 }, { name := "MAX_LENGTH", type := .int, accessFlags := 24, slot := 2, constantValue := 0 }, { name := "$assertionsDisabled", type := .boolean, accessFlags := 4120, slot := 3, constantValue := 0 }]
  methods := #[k8m0, k8m1, k8m2, k8m3, k8m4, k8m5, k8m6, k8m7, k8m8]
  instanceTypes := #[]
  staticTypes := #[.int, .int, .int, .boolean]
  resolved := Array.replicate 635 none
  statics := some 1 }

def pool9 : Array CpInfo := pool [(1, .methodref 2 3), (0, .class_ 4), (0, .nameAndType 5 6), (0, u "java/lang/Object"), (0, u "<init>"), (0, u "()V"), (0, .class_ 8), (0, u "java/lang/Record")] 13

def k9c0 : Code := { maxStack := 1, maxLocals := 1, code := jdk_30_method_1_code, exceptionTable := #[], attributes := #[] }
def k9m0 : Method := { name := "<init>", desc := "()V", sig := { parameters := [], returnType := none }, accessFlags := 4, code := some k9c0 }
/-- java/lang/Record -/
def k9 : Class := { plain "java/lang/Record" (some 0) with
  accessFlags := 1057
  interfaces := #[]
  cf := some (fileOf pool9 7 #[] #[{ accessFlags := 4, nameIndex := 5, descriptorIndex := 6, attributes := #[] }] 1057 2 #[] #[])
  fields := #[]
  methods := #[k9m0]
  instanceTypes := #[]
  staticTypes := #[]
  resolved := Array.replicate 22 none
  statics := none }

def pool10 : Array CpInfo := pool [(1, .methodref 2 3), (0, .class_ 4), (0, .nameAndType 5 6), (0, u "java/lang/Record"), (0, u "<init>"), (0, u "()V"), (0, .fieldref 8 9), (0, .class_ 10), (0, .nameAndType 11 12), (0, u "lucerna/ontology/Role"), (0, u "property"), (0, u "Ljava/lang/String;"), (0, .fieldref 8 14), (0, .nameAndType 15 16), (0, u "inverted"), (0, u "Z"), (2, u "()Z"), (6, u "()Ljava/lang/String;"), (4, .methodref 8 32), (0, .nameAndType 5 33), (0, u "(Ljava/lang/String;Z)V"), (20, u "QUALIFIED"), (8, u "inverse"), (0, u "()Llucerna/ontology/Role;")] 31

def k10c0 : Code := { maxStack := 2, maxLocals := 3, code := prog_14_method_1_code, exceptionTable := #[], attributes := #[] }
def k10m0 : Method := { name := "<init>", desc := "(Ljava/lang/String;Z)V", sig := { parameters := [(.object "java/lang/String"), .boolean], returnType := none }, accessFlags := 1, code := some k10c0 }
def k10c1 : Code := { maxStack := 4, maxLocals := 1, code := prog_14_method_4_code, exceptionTable := #[], attributes := #[] }
def k10m1 : Method := { name := "inverse", desc := "()Llucerna/ontology/Role;", sig := { parameters := [], returnType := some (.object "lucerna/ontology/Role") }, accessFlags := 1, code := some k10c1 }
def k10c2 : Code := { maxStack := 1, maxLocals := 1, code := prog_14_method_8_code, exceptionTable := #[], attributes := #[] }
def k10m2 : Method := { name := "property", desc := "()Ljava/lang/String;", sig := { parameters := [], returnType := some (.object "java/lang/String") }, accessFlags := 1, code := some k10c2 }
def k10c3 : Code := { maxStack := 1, maxLocals := 1, code := prog_14_method_9_code, exceptionTable := #[], attributes := #[] }
def k10m3 : Method := { name := "inverted", desc := "()Z", sig := { parameters := [], returnType := some .boolean }, accessFlags := 1, code := some k10c3 }
/-- lucerna/ontology/Role -/
def k10 : Class := { plain "lucerna/ontology/Role" (some 9) with
  accessFlags := 49
  interfaces := #[]
  cf := some (fileOf pool10 8 #[] #[{ accessFlags := 1, nameIndex := 5, descriptorIndex := 33, attributes := #[] }, { accessFlags := 1, nameIndex := 63, descriptorIndex := 64, attributes := #[] }, { accessFlags := 1, nameIndex := 11, descriptorIndex := 26, attributes := #[] }, { accessFlags := 1, nameIndex := 15, descriptorIndex := 19, attributes := #[] }] 49 2 #[] #[{ accessFlags := 18, nameIndex := 11, descriptorIndex := 12, attributes := #[] }, { accessFlags := 18, nameIndex := 15, descriptorIndex := 16, attributes := #[] }, { accessFlags := 26, nameIndex := 54, descriptorIndex := 12, attributes := #[] }])
  fields := #[{ name := "property", type := (.object "java/lang/String"), accessFlags := 18, slot := 0, constantValue := 0 }, { name := "inverted", type := .boolean, accessFlags := 18, slot := 1, constantValue := 0 }, { name := "QUALIFIED", type := (.object "java/lang/String"), accessFlags := 26, slot := 0, constantValue := 0 }]
  methods := #[k10m0, k10m1, k10m2, k10m3]
  instanceTypes := #[(.object "java/lang/String"), .boolean]
  staticTypes := #[(.object "java/lang/String")]
  resolved := Array.replicate 96 none
  statics := none }

def pool11 : Array CpInfo := pool [(4, .class_ 6), (1, u "java/lang/Object"), (0, u "<init>"), (0, u "()V"), (5, .class_ 16), (1, u "java/lang/StringLatin1"), (104, u "$assertionsDisabled"), (0, u "Z"), (98, .class_ 223), (1, u "java/lang/StringLatin1$LinesSpliterator"), (166, .class_ 391), (0, u "java/lang/StringLatin1$CharsSpliterator")] 3

def k11m0 : Method := { name := "<init>", desc := "()V", sig := { parameters := [], returnType := none }, accessFlags := 0, code := none }
/-- java/lang/StringLatin1 -/
def k11 : Class := { plain "java/lang/StringLatin1" (some 0) with
  accessFlags := 48
  interfaces := #[]
  cf := some (fileOf pool11 14 #[.nestMembers #[390, 221]] #[{ accessFlags := 0, nameIndex := 7, descriptorIndex := 8, attributes := #[] }] 48 4 #[] #[{ accessFlags := 4120, nameIndex := 121, descriptorIndex := 122, attributes := #[] }])
  fields := #[{ name := "$assertionsDisabled", type := .boolean, accessFlags := 4120, slot := 0, constantValue := 0 }]
  methods := #[k11m0]
  instanceTypes := #[]
  staticTypes := #[.boolean]
  resolved := Array.replicate 395 none
  statics := none }

def pool12 : Array CpInfo := pool [(2, .class_ 4), (1, u "java/lang/Object"), (0, u "<init>"), (0, u "()V"), (17, .class_ 26), (1, u "jdk/internal/util/Preconditions"), (28, .class_ 56), (0, u "jdk/internal/util/Preconditions$4"), (57, .class_ 115), (0, u "jdk/internal/util/Preconditions$1"), (7, u "SIOOBE_FORMATTER"), (0, u "Ljava/util/function/BiFunction;"), (0, .class_ 126), (0, u "jdk/internal/util/Preconditions$2"), (3, u "AIOOBE_FORMATTER"), (0, .class_ 132), (0, u "jdk/internal/util/Preconditions$3"), (3, u "IOOBE_FORMATTER")] 57

def k12m0 : Method := { name := "<init>", desc := "()V", sig := { parameters := [], returnType := none }, accessFlags := 1, code := none }
/-- jdk/internal/util/Preconditions -/
def k12 : Class := { plain "jdk/internal/util/Preconditions" (some 0) with
  accessFlags := 33
  interfaces := #[]
  cf := some (fileOf pool12 24 #[.nestMembers #[55, 131, 125, 114]] #[{ accessFlags := 1, nameIndex := 5, descriptorIndex := 6, attributes := #[] }] 33 2 #[] #[{ accessFlags := 25, nameIndex := 123, descriptorIndex := 124, attributes := #[] }, { accessFlags := 25, nameIndex := 130, descriptorIndex := 124, attributes := #[] }, { accessFlags := 25, nameIndex := 136, descriptorIndex := 124, attributes := #[] }])
  fields := #[{ name := "SIOOBE_FORMATTER", type := (.object "java/util/function/BiFunction"), accessFlags := 25, slot := 0, constantValue := 0 }, { name := "AIOOBE_FORMATTER", type := (.object "java/util/function/BiFunction"), accessFlags := 25, slot := 1, constantValue := 0 }, { name := "IOOBE_FORMATTER", type := (.object "java/util/function/BiFunction"), accessFlags := 25, slot := 2, constantValue := 0 }]
  methods := #[k12m0]
  instanceTypes := #[]
  staticTypes := #[(.object "java/util/function/BiFunction"), (.object "java/util/function/BiFunction"), (.object "java/util/function/BiFunction")]
  resolved := Array.replicate 194 none
  statics := some 2 }

def pool13 : Array CpInfo := pool [(9, u "<init>"), (6, .class_ 18), (1, u "java/lang/Object"), (0, u "()V"), (1, .class_ 23), (1, u "jdk/internal/util/ArraysSupport"), (0, u "LOG2_ARRAY_LONG_INDEX_SCALE"), (0, u "I"), (2, u "U"), (0, u "Ljdk/internal/misc/Unsafe;"), (8, u "BIG_ENDIAN"), (0, u "Z"), (8, u "LOG2_BYTE_BIT_SIZE"), (4, u "LOG2_ARRAY_INT_INDEX_SCALE"), (54, u "JLA"), (0, u "Ljdk/internal/access/JavaLangAccess;"), (11, u "LOG2_ARRAY_BOOLEAN_INDEX_SCALE"), (9, u "LOG2_ARRAY_BYTE_INDEX_SCALE"), (5, u "LOG2_ARRAY_CHAR_INDEX_SCALE"), (5, u "LOG2_ARRAY_SHORT_INDEX_SCALE"), (18, u "LOG2_ARRAY_FLOAT_INDEX_SCALE"), (24, u "LOG2_ARRAY_DOUBLE_INDEX_SCALE"), (89, u "T_BOOLEAN"), (2, u "T_CHAR"), (1, u "T_FLOAT"), (1, u "T_DOUBLE"), (1, u "T_BYTE"), (1, u "T_SHORT"), (1, u "T_INT"), (1, u "T_LONG"), (1, u "SOFT_MAX_ARRAY_LENGTH")] 83

def k13m0 : Method := { name := "<init>", desc := "()V", sig := { parameters := [], returnType := none }, accessFlags := 2, code := none }
/-- jdk/internal/util/ArraysSupport -/
def k13 : Class := { plain "jdk/internal/util/ArraysSupport" (some 0) with
  accessFlags := 33
  interfaces := #[]
  cf := some (fileOf pool13 21 #[] #[{ accessFlags := 2, nameIndex := 9, descriptorIndex := 19, attributes := #[] }] 33 16 #[] #[{ accessFlags := 24, nameIndex := 28, descriptorIndex := 29, attributes := #[] }, { accessFlags := 26, nameIndex := 38, descriptorIndex := 39, attributes := #[] }, { accessFlags := 25, nameIndex := 121, descriptorIndex := 25, attributes := #[] }, { accessFlags := 25, nameIndex := 131, descriptorIndex := 25, attributes := #[] }, { accessFlags := 25, nameIndex := 137, descriptorIndex := 25, attributes := #[] }, { accessFlags := 25, nameIndex := 143, descriptorIndex := 25, attributes := #[] }, { accessFlags := 25, nameIndex := 53, descriptorIndex := 25, attributes := #[] }, { accessFlags := 25, nameIndex := 24, descriptorIndex := 25, attributes := #[] }, { accessFlags := 25, nameIndex := 162, descriptorIndex := 25, attributes := #[] }, { accessFlags := 25, nameIndex := 187, descriptorIndex := 25, attributes := #[] }, { accessFlags := 26, nameIndex := 48, descriptorIndex := 25, attributes := #[] }, { accessFlags := 25, nameIndex := 277, descriptorIndex := 25, attributes := #[] }, { accessFlags := 25, nameIndex := 280, descriptorIndex := 25, attributes := #[] }, { accessFlags := 25, nameIndex := 282, descriptorIndex := 25, attributes := #[] }, { accessFlags := 25, nameIndex := 284, descriptorIndex := 25, attributes := #[] }, { accessFlags := 25, nameIndex := 286, descriptorIndex := 25, attributes := #[] }, { accessFlags := 25, nameIndex := 288, descriptorIndex := 25, attributes := #[] }, { accessFlags := 25, nameIndex := 290, descriptorIndex := 25, attributes := #[] }, { accessFlags := 25, nameIndex := 292, descriptorIndex := 25, attributes := #[] }, { accessFlags := 26, nameIndex := 108, descriptorIndex := 109, attributes := #[] }, { accessFlags := 25, nameIndex := 294, descriptorIndex := 25, attributes := #[] }])
  fields := #[{ name := "U", type := (.object "jdk/internal/misc/Unsafe"), accessFlags := 24, slot := 0, constantValue := 0 }, { name := "BIG_ENDIAN", type := .boolean, accessFlags := 26, slot := 1, constantValue := 0 }, { name := "LOG2_ARRAY_BOOLEAN_INDEX_SCALE", type := .int, accessFlags := 25, slot := 2, constantValue := 0 }, { name := "LOG2_ARRAY_BYTE_INDEX_SCALE", type := .int, accessFlags := 25, slot := 3, constantValue := 0 }, { name := "LOG2_ARRAY_CHAR_INDEX_SCALE", type := .int, accessFlags := 25, slot := 4, constantValue := 0 }, { name := "LOG2_ARRAY_SHORT_INDEX_SCALE", type := .int, accessFlags := 25, slot := 5, constantValue := 0 }, { name := "LOG2_ARRAY_INT_INDEX_SCALE", type := .int, accessFlags := 25, slot := 6, constantValue := 0 }, { name := "LOG2_ARRAY_LONG_INDEX_SCALE", type := .int, accessFlags := 25, slot := 7, constantValue := 0 }, { name := "LOG2_ARRAY_FLOAT_INDEX_SCALE", type := .int, accessFlags := 25, slot := 8, constantValue := 0 }, { name := "LOG2_ARRAY_DOUBLE_INDEX_SCALE", type := .int, accessFlags := 25, slot := 9, constantValue := 0 }, { name := "LOG2_BYTE_BIT_SIZE", type := .int, accessFlags := 26, slot := 10, constantValue := 0 }, { name := "T_BOOLEAN", type := .int, accessFlags := 25, slot := 11, constantValue := 0 }, { name := "T_CHAR", type := .int, accessFlags := 25, slot := 12, constantValue := 0 }, { name := "T_FLOAT", type := .int, accessFlags := 25, slot := 13, constantValue := 0 }, { name := "T_DOUBLE", type := .int, accessFlags := 25, slot := 14, constantValue := 0 }, { name := "T_BYTE", type := .int, accessFlags := 25, slot := 15, constantValue := 0 }, { name := "T_SHORT", type := .int, accessFlags := 25, slot := 16, constantValue := 0 }, { name := "T_INT", type := .int, accessFlags := 25, slot := 17, constantValue := 0 }, { name := "T_LONG", type := .int, accessFlags := 25, slot := 18, constantValue := 0 }, { name := "JLA", type := (.object "jdk/internal/access/JavaLangAccess"), accessFlags := 26, slot := 19, constantValue := 0 }, { name := "SOFT_MAX_ARRAY_LENGTH", type := .int, accessFlags := 25, slot := 20, constantValue := 0 }]
  methods := #[k13m0]
  instanceTypes := #[]
  staticTypes := #[(.object "jdk/internal/misc/Unsafe"), .boolean, .int, .int, .int, .int, .int, .int, .int, .int, .int, .int, .int, .int, .int, .int, .int, .int, .int, (.object "jdk/internal/access/JavaLangAccess"), .int]
  resolved := Array.replicate 378 none
  statics := none }

def pool14 : Array CpInfo := pool [(1, u "java/lang/Cloneable"), (0, .class_ 1), (0, u "java/lang/Object"), (0, .class_ 3)] 3

/-- java/lang/Cloneable -/
def k14 : Class := { plain "java/lang/Cloneable" (some 0) with
  accessFlags := 1537
  interfaces := #[]
  cf := some (fileOf pool14 2 #[] #[] 1537 4 #[] #[])
  fields := #[]
  methods := #[]
  instanceTypes := #[]
  staticTypes := #[]
  resolved := Array.replicate 8 none
  statics := none }

/-- the primitive byte -/
def k15 : Class := { plain "byte" none with kind := .primitive 'B', accessFlags := 0x411 }
/-- [B -/
def k16 : Class := { plain "[B" (some 0) with kind := .array 15 .byte, interfaces := #[14, 2], accessFlags := 1041 }

/-- the primitive char -/
def k17 : Class := { plain "char" none with kind := .primitive 'C', accessFlags := 0x411 }
/-- [C -/
def k18 : Class := { plain "[C" (some 0) with kind := .array 17 .char, interfaces := #[14, 2], accessFlags := 1041 }

/-- the primitive int -/
def k19 : Class := { plain "int" none with kind := .primitive 'I', accessFlags := 0x411 }
/-- [I -/
def k20 : Class := { plain "[I" (some 0) with kind := .array 19 .int, interfaces := #[14, 2], accessFlags := 1041 }

def heap : Heap := #[{ cls := 7, slots := #[.long 0, .int 1, .null, .int 0, .null, .int 0, .int 0], vm := .statics 7 },
  { cls := 8, slots := #[.int 0, .int 8, .int 0, .int 1], vm := .statics 8 },
  { cls := 12, slots := #[.null, .null, .null], vm := .statics 12 }]
def classes : Array Class := #[k0, k1, k2, k3, k4, k5, k6, k7, k8, k9, k10, k11, k12, k13, k14, k15, k16, k17, k18, k19, k20]
def interned : List (Array UInt16 × Addr) := []
def slotsUsed : Nat := 14
def theMethod : MethodId := ⟨1, 2⟩
def args0 : Array Value := #[.int 1, .int 2, .int 70, .int 71, .int 72]
def aboutOver (below : List Frame) : State where
  vm := { classes := classes, interned := interned.toArray }
  heap := heap
  slotsUsed := slotsUsed
  threads := #[{ frames := .invoking theMethod args0 :: below }]
def below0 : List Frame := [.native { method := ⟨0, 0⟩, args := #[] }]
def about1 : State := aboutOver below0
def p0 : Program := .bare "" "" ""
def e0 : Env := launch0.env 0 0 0
theorem w_frames : about1.frames = Frame.invoking theMethod args0 :: below0 := rfl
set_option maxRecDepth 65536 in
theorem w_args : argsFit about1.vm theMethod args0 = true := by decide +kernel
set_option maxRecDepth 65536 in
theorem w_heap : heapFits about1 = true := by decide +kernel
set_option maxRecDepth 65536 in
theorem w_runnable : about1.curStatus? = some .runnable := by decide +kernel
set_option maxRecDepth 65536 in
theorem w_alone : about1.alone = true := by decide +kernel
set_option maxRecDepth 65536 in
theorem w_named : about1.methodNamed? x = some theMethod := by decide +kernel
set_option maxRecDepth 65536 in
theorem w_hears : about1.hears theMethod below0 = true := by decide +kernel
set_option maxRecDepth 65536 in
theorem w_ripe : about1.ripe theMethod args0 below0 = true := by decide +kernel
theorem w_running : about1.status = .running := rfl
set_option maxRecDepth 65536 in
theorem w_room : about1.hasRoom e0.platform room_1 = true :=
  launch0.hasRoom_least _ room_1 (by decide +kernel) (by decide +kernel) (by decide +kernel) (by decide +kernel) (by decide +kernel) (by decide +kernel)
theorem allAtoms_all (ts : List Jvm.Cond) (a : Array Jvm.Value) (st : Jvm.State) : (allAtoms ts).before a st = ts.all (fun c => c.before a st) := by
  induction ts with
  | nil => rfl
  | cons c t ih =>
    show (Jvm.Cond.and c (allAtoms t)).before a st = _
    rw [Jvm.Cond.before_and, ih, List.all_cons]
def words1 : List Jvm.Cond := Jvm.Cond.code x code maxLocals ret :: tables_1
/-- a 'code' word, met by the world's own term for the bytes: nothing is compared byte by byte -/
theorem code_word {y : MethodName} {bytes : ByteArray} {mx : Nat} {rt : Option FieldType} {a : Array Value} {s : State} {m : MethodId} {meth : Method} {c : Code} (h1 : s.methodNamed? y = some m) (h2 : s.vm.method? m = some meth) (h3 : meth.code = some c) (h4 : c.code = bytes)
    (h5 : (c.maxLocals == mx && c.exceptionTable.isEmpty && decide (c.maxStack ≤ mostOperands) && decide (meth.sig.returnType = rt) && !meth.locks && decide (parseMethodDescriptor y.desc = some meth.sig)) = true) : (Jvm.Cond.code y bytes mx rt).before a s = true := by
  simp only [Bool.and_eq_true, beq_iff_eq, Bool.not_eq_true', decide_eq_true_eq] at h5
  obtain ⟨⟨⟨⟨⟨g1, g2⟩, g3⟩, g4⟩, g5⟩, g6⟩ := h5
  simp [Cond.before, Cond.holds, Cond.value, h1, h2, h3, h4, g1, g2, g3, g4, g5, g6]
def isCode : Jvm.Cond → Bool
  | .code _ _ _ _ => true
  | _ => false
theorem all_split {L : List Jvm.Cond} {P : Jvm.Cond → Bool} (h1 : L.all (fun c => isCode c || P c) = true) (h2 : ∀ c ∈ L.filter isCode, P c = true) : L.all P = true := by
  refine List.all_eq_true.mpr fun c hc => ?_
  have h := List.all_eq_true.mp h1 c hc
  rcases Bool.eq_false_or_eq_true (isCode c) with hi | hi
  · exact h2 c (List.mem_filter.mpr ⟨hc, hi⟩)
  · simpa [hi] using h
set_option maxRecDepth 65536 in
theorem w_c0 : (Jvm.Cond.code x code maxLocals ret).before args0 about1 = true := code_word (m := ⟨1, 2⟩) (meth := k1m2) (c := k1c2) (by decide +kernel) rfl rfl rfl (by decide +kernel)
set_option maxRecDepth 65536 in
theorem w_c1 : (Jvm.Cond.code ({ cls := "lucerna/ontology/RoleInversePinLaw", name := "drawn", desc := "(IIII)Ljava/lang/String;" } : Jvm.MethodName) method_2_code (5 : Nat) (Option.some (Jvm.ClassFile.FieldType.object "java/lang/String"))).before args0 about1 = true := code_word (m := ⟨1, 1⟩) (meth := k1m1) (c := k1c1) (by decide +kernel) rfl rfl rfl (by decide +kernel)
set_option maxRecDepth 65536 in
theorem w_c2 : (Jvm.Cond.code ({ cls := "java/lang/String", name := "<init>", desc := "([C)V" } : Jvm.MethodName) jdk_42_method_3_code (2 : Nat) (Option.none : Option Jvm.ClassFile.FieldType)).before args0 about1 = true := code_word (m := ⟨7, 1⟩) (meth := k7m1) (c := k7c1) (by decide +kernel) rfl rfl rfl (by decide +kernel)
set_option maxRecDepth 65536 in
theorem w_c3 : (Jvm.Cond.code ({ cls := "java/lang/String", name := "<init>", desc := "([CIILjava/lang/Void;)V" } : Jvm.MethodName) jdk_42_method_149_code (6 : Nat) (Option.none : Option Jvm.ClassFile.FieldType)).before args0 about1 = true := code_word (m := ⟨7, 3⟩) (meth := k7m3) (c := k7c3) (by decide +kernel) rfl rfl rfl (by decide +kernel)
set_option maxRecDepth 65536 in
theorem w_c4 : (Jvm.Cond.code ({ cls := "java/lang/Object", name := "<init>", desc := "()V" } : Jvm.MethodName) object_method_1_code (1 : Nat) (Option.none : Option Jvm.ClassFile.FieldType)).before args0 about1 = true := code_word (m := ⟨0, 0⟩) (meth := k0m0) (c := k0c0) (by decide +kernel) rfl rfl rfl (by decide +kernel)
set_option maxRecDepth 65536 in
theorem w_c5 : (Jvm.Cond.code ({ cls := "java/lang/StringUTF16", name := "compress", desc := "([CII)[B" } : Jvm.MethodName) jdk_52_method_16_code (6 : Nat) (Option.some (Jvm.ClassFile.FieldType.array Jvm.ClassFile.FieldType.byte))).before args0 about1 = true := code_word (m := ⟨8, 7⟩) (meth := k8m7) (c := k8c7) (by decide +kernel) rfl rfl rfl (by decide +kernel)
set_option maxRecDepth 65536 in
theorem w_c6 : (Jvm.Cond.code ({ cls := "java/lang/StringUTF16", name := "compress", desc := "([CI[BII)I" } : Jvm.MethodName) jdk_52_method_21_code (7 : Nat) (Option.some Jvm.ClassFile.FieldType.int)).before args0 about1 = true := code_word (m := ⟨8, 8⟩) (meth := k8m8) (c := k8c8) (by decide +kernel) rfl rfl rfl (by decide +kernel)
set_option maxRecDepth 65536 in
theorem w_c7 : (Jvm.Cond.code ({ cls := "java/lang/StringUTF16", name := "coderFromArrayLen", desc := "([BI)B" } : Jvm.MethodName) jdk_52_method_15_code (2 : Nat) (Option.some Jvm.ClassFile.FieldType.byte)).before args0 about1 = true := code_word (m := ⟨8, 6⟩) (meth := k8m6) (c := k8c6) (by decide +kernel) rfl rfl rfl (by decide +kernel)
set_option maxRecDepth 65536 in
theorem w_c8 : (Jvm.Cond.code ({ cls := "lucerna/ontology/Role", name := "<init>", desc := "(Ljava/lang/String;Z)V" } : Jvm.MethodName) prog_14_method_1_code (3 : Nat) (Option.none : Option Jvm.ClassFile.FieldType)).before args0 about1 = true := code_word (m := ⟨10, 0⟩) (meth := k10m0) (c := k10c0) (by decide +kernel) rfl rfl rfl (by decide +kernel)
set_option maxRecDepth 65536 in
theorem w_c9 : (Jvm.Cond.code ({ cls := "java/lang/Record", name := "<init>", desc := "()V" } : Jvm.MethodName) jdk_30_method_1_code (1 : Nat) (Option.none : Option Jvm.ClassFile.FieldType)).before args0 about1 = true := code_word (m := ⟨9, 0⟩) (meth := k9m0) (c := k9c0) (by decide +kernel) rfl rfl rfl (by decide +kernel)
set_option maxRecDepth 65536 in
theorem w_c10 : (Jvm.Cond.code ({ cls := "lucerna/ontology/Role", name := "inverse", desc := "()Llucerna/ontology/Role;" } : Jvm.MethodName) prog_14_method_4_code (1 : Nat) (Option.some (Jvm.ClassFile.FieldType.object "lucerna/ontology/Role"))).before args0 about1 = true := code_word (m := ⟨10, 1⟩) (meth := k10m1) (c := k10c1) (by decide +kernel) rfl rfl rfl (by decide +kernel)
set_option maxRecDepth 65536 in
theorem w_c11 : (Jvm.Cond.code ({ cls := "lucerna/ontology/Role", name := "property", desc := "()Ljava/lang/String;" } : Jvm.MethodName) prog_14_method_8_code (1 : Nat) (Option.some (Jvm.ClassFile.FieldType.object "java/lang/String"))).before args0 about1 = true := code_word (m := ⟨10, 2⟩) (meth := k10m2) (c := k10c2) (by decide +kernel) rfl rfl rfl (by decide +kernel)
set_option maxRecDepth 65536 in
theorem w_c12 : (Jvm.Cond.code ({ cls := "java/lang/String", name := "equals", desc := "(Ljava/lang/Object;)Z" } : Jvm.MethodName) jdk_42_method_66_code (3 : Nat) (Option.some Jvm.ClassFile.FieldType.boolean)).before args0 about1 = true := code_word (m := ⟨7, 2⟩) (meth := k7m2) (c := k7c2) (by decide +kernel) rfl rfl rfl (by decide +kernel)
set_option maxRecDepth 65536 in
theorem w_c13 : (Jvm.Cond.code ({ cls := "lucerna/ontology/Role", name := "inverted", desc := "()Z" } : Jvm.MethodName) prog_14_method_9_code (1 : Nat) (Option.some Jvm.ClassFile.FieldType.boolean)).before args0 about1 = true := code_word (m := ⟨10, 3⟩) (meth := k10m3) (c := k10c3) (by decide +kernel) rfl rfl rfl (by decide +kernel)
set_option maxRecDepth 65536 in
theorem w_c14 : (Jvm.Cond.code ({ cls := "java/lang/StringUTF16", name := "toBytes", desc := "([CII)[B" } : Jvm.MethodName) jdk_52_method_14_code (5 : Nat) (Option.some (Jvm.ClassFile.FieldType.array Jvm.ClassFile.FieldType.byte))).before args0 about1 = true := code_word (m := ⟨8, 5⟩) (meth := k8m5) (c := k8c5) (by decide +kernel) rfl rfl rfl (by decide +kernel)
set_option maxRecDepth 65536 in
theorem w_c15 : (Jvm.Cond.code ({ cls := "java/lang/StringUTF16", name := "newBytesFor", desc := "(I)[B" } : Jvm.MethodName) jdk_52_method_2_code (1 : Nat) (Option.some (Jvm.ClassFile.FieldType.array Jvm.ClassFile.FieldType.byte))).before args0 about1 = true := code_word (m := ⟨8, 1⟩) (meth := k8m1) (c := k8c1) (by decide +kernel) rfl rfl rfl (by decide +kernel)
set_option maxRecDepth 65536 in
theorem w_c16 : (Jvm.Cond.code ({ cls := "java/lang/StringUTF16", name := "newBytesLength", desc := "(I)I" } : Jvm.MethodName) jdk_52_method_3_code (1 : Nat) (Option.some Jvm.ClassFile.FieldType.int)).before args0 about1 = true := code_word (m := ⟨8, 2⟩) (meth := k8m2) (c := k8c2) (by decide +kernel) rfl rfl rfl (by decide +kernel)
set_option maxRecDepth 65536 in
theorem w_c17 : (Jvm.Cond.code ({ cls := "java/lang/StringUTF16", name := "putChar", desc := "([BII)V" } : Jvm.MethodName) jdk_52_method_4_code (3 : Nat) (Option.none : Option Jvm.ClassFile.FieldType)).before args0 about1 = true := code_word (m := ⟨8, 3⟩) (meth := k8m3) (c := k8c3) (by decide +kernel) rfl rfl rfl (by decide +kernel)
set_option maxRecDepth 65536 in
theorem w_c18 : (Jvm.Cond.code ({ cls := "java/lang/StringUTF16", name := "getChar", desc := "([BI)C" } : Jvm.MethodName) jdk_52_method_5_code (2 : Nat) (Option.some Jvm.ClassFile.FieldType.char)).before args0 about1 = true := code_word (m := ⟨8, 4⟩) (meth := k8m4) (c := k8c4) (by decide +kernel) rfl rfl rfl (by decide +kernel)
def codes1 : List Jvm.Cond := [Jvm.Cond.code x code maxLocals ret, Jvm.Cond.code ({ cls := "lucerna/ontology/RoleInversePinLaw", name := "drawn", desc := "(IIII)Ljava/lang/String;" } : Jvm.MethodName) method_2_code (5 : Nat) (Option.some (Jvm.ClassFile.FieldType.object "java/lang/String")), Jvm.Cond.code ({ cls := "java/lang/String", name := "<init>", desc := "([C)V" } : Jvm.MethodName) jdk_42_method_3_code (2 : Nat) (Option.none : Option Jvm.ClassFile.FieldType), Jvm.Cond.code ({ cls := "java/lang/String", name := "<init>", desc := "([CIILjava/lang/Void;)V" } : Jvm.MethodName) jdk_42_method_149_code (6 : Nat) (Option.none : Option Jvm.ClassFile.FieldType), Jvm.Cond.code ({ cls := "java/lang/Object", name := "<init>", desc := "()V" } : Jvm.MethodName) object_method_1_code (1 : Nat) (Option.none : Option Jvm.ClassFile.FieldType), Jvm.Cond.code ({ cls := "java/lang/StringUTF16", name := "compress", desc := "([CII)[B" } : Jvm.MethodName) jdk_52_method_16_code (6 : Nat) (Option.some (Jvm.ClassFile.FieldType.array Jvm.ClassFile.FieldType.byte)), Jvm.Cond.code ({ cls := "java/lang/StringUTF16", name := "compress", desc := "([CI[BII)I" } : Jvm.MethodName) jdk_52_method_21_code (7 : Nat) (Option.some Jvm.ClassFile.FieldType.int), Jvm.Cond.code ({ cls := "java/lang/StringUTF16", name := "coderFromArrayLen", desc := "([BI)B" } : Jvm.MethodName) jdk_52_method_15_code (2 : Nat) (Option.some Jvm.ClassFile.FieldType.byte), Jvm.Cond.code ({ cls := "lucerna/ontology/Role", name := "<init>", desc := "(Ljava/lang/String;Z)V" } : Jvm.MethodName) prog_14_method_1_code (3 : Nat) (Option.none : Option Jvm.ClassFile.FieldType), Jvm.Cond.code ({ cls := "java/lang/Record", name := "<init>", desc := "()V" } : Jvm.MethodName) jdk_30_method_1_code (1 : Nat) (Option.none : Option Jvm.ClassFile.FieldType), Jvm.Cond.code ({ cls := "lucerna/ontology/Role", name := "inverse", desc := "()Llucerna/ontology/Role;" } : Jvm.MethodName) prog_14_method_4_code (1 : Nat) (Option.some (Jvm.ClassFile.FieldType.object "lucerna/ontology/Role")), Jvm.Cond.code ({ cls := "lucerna/ontology/Role", name := "property", desc := "()Ljava/lang/String;" } : Jvm.MethodName) prog_14_method_8_code (1 : Nat) (Option.some (Jvm.ClassFile.FieldType.object "java/lang/String")), Jvm.Cond.code ({ cls := "java/lang/String", name := "equals", desc := "(Ljava/lang/Object;)Z" } : Jvm.MethodName) jdk_42_method_66_code (3 : Nat) (Option.some Jvm.ClassFile.FieldType.boolean), Jvm.Cond.code ({ cls := "lucerna/ontology/Role", name := "inverted", desc := "()Z" } : Jvm.MethodName) prog_14_method_9_code (1 : Nat) (Option.some Jvm.ClassFile.FieldType.boolean), Jvm.Cond.code ({ cls := "java/lang/StringUTF16", name := "toBytes", desc := "([CII)[B" } : Jvm.MethodName) jdk_52_method_14_code (5 : Nat) (Option.some (Jvm.ClassFile.FieldType.array Jvm.ClassFile.FieldType.byte)), Jvm.Cond.code ({ cls := "java/lang/StringUTF16", name := "newBytesFor", desc := "(I)[B" } : Jvm.MethodName) jdk_52_method_2_code (1 : Nat) (Option.some (Jvm.ClassFile.FieldType.array Jvm.ClassFile.FieldType.byte)), Jvm.Cond.code ({ cls := "java/lang/StringUTF16", name := "newBytesLength", desc := "(I)I" } : Jvm.MethodName) jdk_52_method_3_code (1 : Nat) (Option.some Jvm.ClassFile.FieldType.int), Jvm.Cond.code ({ cls := "java/lang/StringUTF16", name := "putChar", desc := "([BII)V" } : Jvm.MethodName) jdk_52_method_4_code (3 : Nat) (Option.none : Option Jvm.ClassFile.FieldType), Jvm.Cond.code ({ cls := "java/lang/StringUTF16", name := "getChar", desc := "([BI)C" } : Jvm.MethodName) jdk_52_method_5_code (2 : Nat) (Option.some Jvm.ClassFile.FieldType.char)]
set_option maxRecDepth 65536 in
theorem codes_eq : words1.filter isCode = codes1 := rfl
theorem w_codes : ∀ c ∈ words1.filter isCode, c.before args0 about1 = true := by
  rw [codes_eq]
  intro c hc
  simp only [codes1, List.mem_cons, List.not_mem_nil, or_false] at hc
  rcases hc with rfl | rfl | rfl | rfl | rfl | rfl | rfl | rfl | rfl | rfl | rfl | rfl | rfl | rfl | rfl | rfl | rfl | rfl | rfl
  · exact w_c0
  · exact w_c1
  · exact w_c2
  · exact w_c3
  · exact w_c4
  · exact w_c5
  · exact w_c6
  · exact w_c7
  · exact w_c8
  · exact w_c9
  · exact w_c10
  · exact w_c11
  · exact w_c12
  · exact w_c13
  · exact w_c14
  · exact w_c15
  · exact w_c16
  · exact w_c17
  · exact w_c18
set_option maxRecDepth 65536 in
theorem w_t1 : (words1.take 24).all (fun c => isCode c || c.before args0 about1) = true := by decide +kernel
set_option maxRecDepth 65536 in
theorem w_t2 : ((words1.drop 24).take 24).all (fun c => isCode c || c.before args0 about1) = true := by decide +kernel
set_option maxRecDepth 65536 in
theorem w_t3 : (((words1.drop 24).drop 24).take 24).all (fun c => isCode c || c.before args0 about1) = true := by decide +kernel
set_option maxRecDepth 65536 in
theorem w_t4 : (((words1.drop 24).drop 24).drop 24).all (fun c => isCode c || c.before args0 about1) = true := by decide +kernel
theorem w_tables : (allAtoms (Jvm.Cond.code x code maxLocals ret :: tables_1)).before args0 about1 = true := by
  rw [allAtoms_all]
  show words1.all (fun c => c.before args0 about1) = true
  refine all_split ?_ w_codes
  rw [← List.take_append_drop 24 words1, List.all_append, w_t1, ← List.take_append_drop 24 (words1.drop 24), List.all_append, w_t2, ← List.take_append_drop 24 ((words1.drop 24).drop 24), List.all_append, w_t3, w_t4]
  rfl
set_option maxRecDepth 65536 in
theorem w_rest : rest_1_c.before args0 about1 = true := by decide +kernel
set_option maxRecDepth 65536 in
theorem w_case : (Jvm.Cond.and given_1 narrow_1).before args0 about1 = true := by decide +kernel
set_option maxRecDepth 65536 in
theorem w_consts : constsHeld consts_1 about1 := Jvm.Lit.constsHeldB_iff.mp (by decide +kernel)
theorem w_applies : (headSpec (Jvm.Cond.code x code maxLocals ret :: tables_1) room_1).applies x e0.platform about1 = true :=
  (Spec.applies_iff w_frames).mpr ⟨w_running, w_runnable, w_alone, w_named, w_hears, w_ripe, w_room, w_tables⟩
theorem atStart : AtStart classFile x code maxLocals ret World_1 tables_1 room_1 Calls_1 rest_1 Pre_1 launch0 p0 e0 about1 theMethod args0 below0 :=
  ⟨lists_1, trivial, launch0.admits_env _ _ _, launch0.least_env, fairChoices_fair.cas, fairChoices_fair.clock, w_frames, w_args, w_heap, w_applies, ⟨w_consts, trivial⟩, w_rest, w_case⟩
end start1
theorem witness_1 : WitnessClaimed_1 := ⟨start1.p0, start1.e0, start1.about1, start1.theMethod, start1.args0, start1.below0, start1.atStart⟩
end Jvm.Pilot.@@N@@
