import JvmDerived
import JvmDerived.Pilot.@@N@@Statement
import JvmDerived.Pilot.@@N@@Code
set_option linter.unusedVariables false
set_option linter.unusedSimpArgs false
namespace Jvm.RoadKit
open Sem ClassFile Op Lib Jvm.Stand Jvm.Free Jvm.LawKit
section OwnWalk
variable {p : Program} {l : Launch} {e : Env} {R : Room} {s : State} {m : MethodId} {args : Array Value} {below : List Frame} {meth : Method} {c : Code} {T : State} {locs : List Loc} {cells slots : Nat} {E : Outcome → State → Prop} {pc : Nat} {Ls : Array Slot} {sk : List Value}
def Goes (p : Program) (e : Env) (below : List Frame) (E : Outcome → State → Prop) (st : State) : Prop :=
 ∃ s₂ o, Steps p.tables e below st s₂ ∧ s₂.status = .running ∧ Ended s₂ below o ∧ E o s₂
abbrev EN (s : State) (Q : Option Value → Heap → List Loc → Prop) (cs ss : Nat) : Outcome → State → Prop := fun o u => ∃ v L, o = .returned v ∧ Q v u.heap L ∧ FrameEnd s o u L cs ss
abbrev EV (s : State) (Q : Option Value → Heap → List Loc → Prop) (cs ss : Nat) : Outcome → State → Prop := fun o u => ∃ v L, o = .returned v ∧ Q v u.heap L ∧ ReturnedEndW s o u L cs ss
theorem Goes.st {st st' : State} (h : ∀ t, Steps p.tables e below st' t → Steps p.tables e below st t) (g : Goes p e below E st') : Goes p e below E st := by
 obtain ⟨s2, o, h1, r⟩ := g
 exact ⟨s2, o, h _ h1, r⟩
theorem Goes.sts {st st' : State} (h : Steps p.tables e below st st') (g : Goes p e below E st') : Goes p e below E st := Goes.st (fun _ k => h.trans k) g
def Lv (e : Env) (below : List Frame) (E : Outcome → State → Prop) (m : MethodId) (T : State) (v : Option Value) : Prop :=
 ∃ fs, (∀ (f : JFrame) (acts : List Action), f.method = m → f.locked = none → f.entered = [] → (doReturn e (T.setTop f) acts v).1 = T.setFrames fs) ∧ (T.setFrames fs).status = .running ∧ Ended (T.setFrames fs) below (.returned v) ∧ E (.returned v) (T.setFrames fs)
theorem lvN {Q : Option Value → Heap → List Loc → Prop} {cs ss : Nat} (X : Stand p l e R s m args below meth c T locs cells slots) (hlk : meth.locks = false) {v : Option Value} (hv : meth.sig.returnType = none → v = none) (hq : Q v T.heap locs) (hc : cells ≤ cs) (hs : slots ≤ ss) : Lv e below (EN s Q cs ss) m T v := by
 obtain ⟨fs, hr, hrun, hended, hW, hsame⟩ := X.leave (v := v) hv hlk
 exact ⟨fs, hr, hrun, hended, _, _, rfl, hq, ⟨_, rfl⟩, hW, hsame.mono hc hs⟩
theorem lvV {Q : Option Value → Heap → List Loc → Prop} {cs ss : Nat} {vm0 : Vm} (X : Stand p l e R (s.setVm vm0) m args below meth c T locs cells slots) (hlk : meth.locks = false) {k0 : Nat} (hS : s.Since vm0 k0) (hk : k0 ≤ T.heap.size) {v : Option Value} (hv : meth.sig.returnType = none → v = none) (hq : Q v T.heap locs) (hc : cells ≤ cs) (hs : slots ≤ ss) : Lv e below (EV s Q cs ss) m T v := by
 obtain ⟨fs, hr, hrun, hended, h1, h2, h3, h4⟩ := X.leaveW hS hk (v := v) hv hlk
 exact ⟨fs, hr, hrun, hended, _, _, rfl, hq, h1, h2, h3, h4.mono hc hs⟩
theorem vsome {rt : Option FieldType} {t : FieldType} {v : Option Value} (hret : rt = some t) : rt = none → v = none := fun h => by rw [hret] at h; cases h
theorem Goes.fin {v : Option Value} (lv : Lv e below E m T v) {F : JFrame} (hst : ∀ fs, (∀ (f : JFrame) (acts : List Action), f.method = m → f.locked = none → f.entered = [] → (doReturn e (T.setTop f) acts v).1 = T.setFrames fs) → Steps p.tables e below (T.setTop F) (T.setFrames fs)) : Goes p e below E (T.setTop F) := by
 obtain ⟨fs, hr, hrun, hended, hE⟩ := lv
 exact ⟨_, _, hst fs hr, hrun, hended, hE⟩
theorem Goes.retN (X : Stand p l e R s m args below meth c T locs cells slots) (hx : p.tables.exec = Jvm.exec) {t : FieldType} (hret : meth.sig.returnType = some t) (ht : t = .boolean ∨ t = .byte ∨ t = .char ∨ t = .short) {z : Int32} (hd : decode c.code pc = .ok (.ireturn, 1)) (hn : nar t z = z) (lv : Lv e below E m T (some (.int z))) : Goes p e below E (T.setTop (mkF m pc Ls (.int z :: sk))) :=
 Goes.fin lv fun fs hr => RoadKit.retN X hx hret ht hd (by rw [hn]; exact hr)
theorem Goes.retW (X : Stand p l e R s m args below meth c T locs cells slots) (hx : p.tables.exec = Jvm.exec) {t : FieldType} (hret : meth.sig.returnType = some t) {w : Value} {i : Instr} (hn : narrow t w = w) (hi : (i = .ireturn ∧ (t = .int ∨ t = .boolean ∨ t = .byte ∨ t = .char ∨ t = .short) ∧ ∃ z, w = .int z) ∨ (i = .lreturn ∧ t = .long ∧ ∃ z, w = .long z) ∨ (i = .dreturn ∧ t = .double ∧ ∃ z, w = .double z) ∨ (i = .freturn ∧ t = .float ∧ ∃ z, w = .float z) ∨ (i = .areturn ∧ t.isReference = true ∧ w.isRef = true))
  (hd : decode c.code pc = .ok (i, 1)) (lv : Lv e below E m T (some w)) : Goes p e below E (T.setTop (mkF m pc Ls (w :: sk))) :=
 Goes.fin lv fun fs hr => RoadKit.retOut X hx hret hn hi hd hr
theorem Goes.retI (X : Stand p l e R s m args below meth c T locs cells slots) (hx : p.tables.exec = Jvm.exec) (hret : meth.sig.returnType = some .int) {z : Int32} (hd : decode c.code pc = .ok (.ireturn, 1)) (lv : Lv e below E m T (some (.int z))) : Goes p e below E (T.setTop (mkF m pc Ls (.int z :: sk))) :=
 Goes.retW X hx hret rfl (Or.inl ⟨rfl, Or.inl rfl, _, rfl⟩) hd lv
theorem Goes.retA (X : Stand p l e R s m args below meth c T locs cells slots) (hx : p.tables.exec = Jvm.exec) {t : FieldType} (hret : meth.sig.returnType = some t) (ht : t.isReference = true) {w : Value} (hn : narrow t w = w) (hw : w.isRef = true) (hd : decode c.code pc = .ok (.areturn, 1)) (lv : Lv e below E m T (some w)) : Goes p e below E (T.setTop (mkF m pc Ls (w :: sk))) :=
 Goes.retW X hx hret hn (Or.inr (Or.inr (Or.inr (Or.inr ⟨rfl, ht, hw⟩)))) hd lv
theorem Goes.retV (X : Stand p l e R s m args below meth c T locs cells slots) (hx : p.tables.exec = Jvm.exec) (hret : meth.sig.returnType = none) (hd : decode c.code pc = .ok (.return_, 1)) (lv : Lv e below E m T none) : Goes p e below E (T.setTop (mkF m pc Ls [])) :=
 Goes.fin lv fun fs hr => X.returnOut hx hret hd hr
theorem hwk {ws : List Jvm.Cond} {Z : State} {a0 : Array Value} (hw : ∀ d ∈ ws, d.before a0 Z = true) (k : Nat) {d : Jvm.Cond} (h : ws[k]? = some d) : d.before a0 Z = true := hw _ (List.mem_of_getElem? h)
theorem selP {U : State} {as : Array Value} {y : MethodName} {n : Nat} (wi : (Cond.instantiable y.cls n).before as U = true) (wp : (Cond.privateMethod y).before as U = true) (wm : (Cond.instanceMethod y).before as U = true) (hy : y.cls ≠ "java/lang/invoke/MethodHandle" ∧ y.cls ≠ "java/lang/invoke/VarHandle") : (Cond.selects y.cls y y).before as U = true := by
 obtain ⟨c, k, h1, h2, -, h3, -⟩ := Cond.instantiable_spec wi
 exact Stand.selects_self_of_private h1 h2 (by simp only [Bool.or_eq_false_iff] at h3; exact h3.1) (Cond.privateMethod_at wp) wm hy
theorem strW {Z : State} {a0 : Array Value} (h1 : (Cond.initialized Bundle.sN).before a0 Z = true) (h2 : (Cond.instantiable Bundle.sN 4).before a0 Z = true) (h3 : (Cond.arrayClass .byte).before a0 Z = true) (h4 : (Cond.laysFinal Bundle.sN Bundle.sN "value" "[B").before a0 Z = true) (h5 : (Cond.laysFinal Bundle.sN Bundle.sN "coder" "B").before a0 Z = true) (h6 : (Cond.soleField Bundle.sN "value").before a0 Z = true) (h7 : (Cond.soleField Bundle.sN "coder").before a0 Z = true) : ∀ a ∈ Bundle.stringAtoms, a.before a0 Z = true := by
 intro d hd
 simp only [Bundle.stringAtoms, List.mem_cons, List.not_mem_nil, or_false] at hd
 rcases hd with rfl | rfl | rfl | rfl | rfl | rfl | rfl <;> assumption
theorem Sta.kept {Z : State} {h h' : Heap} {ws : List Addr} {C n d : String} {w : Value} (F : Sta Z h C n d w) (K : Keep h h' ws) (hns : ∀ x ∈ ws, ∀ cell : Cell, h[x]? = some cell → cell.vm.isStatics = false) : Sta Z h' C n d w := by
 obtain ⟨cf, i, k, f, st, cell, h1, h2, h3, h4, h5, h6, h7⟩ := F
 refine ⟨cf, i, k, f, st, cell, h1, h2, h3, h4, K.2.1 _ _ h5 fun q => ?_, h6, h7⟩
 have := hns _ q _ h5
 rw [h6] at this; cases this
end OwnWalk
section OwnSteps
variable {p : Program} {l : Launch} {e : Env} {R : Room} {s : State} {m : MethodId} {args : Array Value} {below : List Frame} {meth : Method} {c : Code} {T : State} {locs : List Loc} {cells slots : Nat} {E : Outcome → State → Prop} {pc : Nat} {Ls : Array Slot} {sk : List Value}
theorem giloadN (X : Stand p l e R s m args below meth c T locs cells slots) (hx : p.tables.exec = Jvm.exec) {i : Fin 4} {v : Int32} (hd : decode c.code pc = .ok (.iload_n i, 1)) (hl : Ls[i.val]? = some (.val (.int v))) (k : Goes p e below E (T.setTop (mkF m (pc + 1) Ls (.int v :: sk)))) : Goes p e below E (T.setTop (mkF m pc Ls sk)) :=
 Goes.st (fun _ q => XS.iloadN X.here hx rfl hd hl q) k
theorem giload (X : Stand p l e R s m args below meth c T locs cells slots) (hx : p.tables.exec = Jvm.exec) {i : Nat} {v : Int32} (hd : decode c.code pc = .ok (.iload i, 2)) (hl : Ls[i]? = some (.val (.int v))) (k : Goes p e below E (T.setTop (mkF m (pc + 2) Ls (.int v :: sk)))) : Goes p e below E (T.setTop (mkF m pc Ls sk)) :=
 Goes.st (fun _ q => XS.iload X.here hx rfl hd hl q) k
theorem galoadN (X : Stand p l e R s m args below meth c T locs cells slots) (hx : p.tables.exec = Jvm.exec) {i : Fin 4} {v : Value} (hd : decode c.code pc = .ok (.aload_n i, 1)) (hl : Ls[i.val]? = some (.val v)) (hv : v.isRef = true) (k : Goes p e below E (T.setTop (mkF m (pc + 1) Ls (v :: sk)))) : Goes p e below E (T.setTop (mkF m pc Ls sk)) :=
 Goes.st (fun _ q => XS.aloadN X.here hx rfl hd hl hv q) k
theorem gaload (X : Stand p l e R s m args below meth c T locs cells slots) (hx : p.tables.exec = Jvm.exec) {i : Nat} {v : Value} (hd : decode c.code pc = .ok (.aload i, 2)) (hl : Ls[i]? = some (.val v)) (hv : v.isRef = true) (k : Goes p e below E (T.setTop (mkF m (pc + 2) Ls (v :: sk)))) : Goes p e below E (T.setTop (mkF m pc Ls sk)) :=
 Goes.st (fun _ q => XS.aload X.here hx rfl hd hl hv q) k
theorem giconst (X : Stand p l e R s m args below meth c T locs cells slots) (hx : p.tables.exec = Jvm.exec) {i : Int} (hd : decode c.code pc = .ok (.iconst i, 1)) (k : Goes p e below E (T.setTop (mkF m (pc + 1) Ls (.int (Int32.ofInt i) :: sk)))) : Goes p e below E (T.setTop (mkF m pc Ls sk)) :=
 Goes.st (fun _ q => XS.iconst X.here hx rfl hd q) k
theorem giadd (X : Stand p l e R s m args below meth c T locs cells slots) (hx : p.tables.exec = Jvm.exec) {x y : Int32} (hd : decode c.code pc = .ok (.iadd, 1)) (k : Goes p e below E (T.setTop (mkF m (pc + 1) Ls (.int (x + y) :: sk)))) : Goes p e below E (T.setTop (mkF m pc Ls (.int y :: .int x :: sk))) :=
 Goes.st (fun _ q => XS.iadd X.here hx rfl hd rfl q) k
theorem gisub (X : Stand p l e R s m args below meth c T locs cells slots) (hx : p.tables.exec = Jvm.exec) {x y : Int32} (hd : decode c.code pc = .ok (.isub, 1)) (k : Goes p e below E (T.setTop (mkF m (pc + 1) Ls (.int (x - y) :: sk)))) : Goes p e below E (T.setTop (mkF m pc Ls (.int y :: .int x :: sk))) :=
 Goes.st (fun _ q => XS.isub X.here hx rfl hd rfl q) k
theorem giand (X : Stand p l e R s m args below meth c T locs cells slots) (hx : p.tables.exec = Jvm.exec) {x y : Int32} (hd : decode c.code pc = .ok (.iand, 1)) (k : Goes p e below E (T.setTop (mkF m (pc + 1) Ls (.int (x &&& y) :: sk)))) : Goes p e below E (T.setTop (mkF m pc Ls (.int y :: .int x :: sk))) :=
 Goes.st (fun _ q => XS.iand X.here hx rfl hd rfl q) k
theorem gdup (X : Stand p l e R s m args below meth c T locs cells slots) (hx : p.tables.exec = Jvm.exec) {x : Value} (hd : decode c.code pc = .ok (.dup, 1)) (hc : x.category = 1) (k : Goes p e below E (T.setTop (mkF m (pc + 1) Ls (x :: x :: sk)))) : Goes p e below E (T.setTop (mkF m pc Ls (x :: sk))) :=
 Goes.st (fun _ q => XS.dup X.here hx rfl hd rfl hc q) k
theorem gistoreN (X : Stand p l e R s m args below meth c T locs cells slots) (hx : p.tables.exec = Jvm.exec) {i : Fin 4} {x : Int32} {l' : Array Slot} (hd : decode c.code pc = .ok (.istore_n i, 1)) (hl : storeLocals Ls i.val (.int x) = some l') (k : Goes p e below E (T.setTop (mkF m (pc + 1) l' sk))) : Goes p e below E (T.setTop (mkF m pc Ls (.int x :: sk))) :=
 Goes.st (fun _ q => XS.istoreN X.here hx rfl hd rfl hl q) k
theorem gistore (X : Stand p l e R s m args below meth c T locs cells slots) (hx : p.tables.exec = Jvm.exec) {i : Nat} {x : Int32} {l' : Array Slot} (hd : decode c.code pc = .ok (.istore i, 2)) (hl : storeLocals Ls i (.int x) = some l') (k : Goes p e below E (T.setTop (mkF m (pc + 2) l' sk))) : Goes p e below E (T.setTop (mkF m pc Ls (.int x :: sk))) :=
 Goes.st (fun _ q => XS.istore X.here hx rfl hd rfl hl q) k
theorem gastoreN (X : Stand p l e R s m args below meth c T locs cells slots) (hx : p.tables.exec = Jvm.exec) {i : Fin 4} {x : Value} {l' : Array Slot} (hd : decode c.code pc = .ok (.astore_n i, 1)) (hv : x.isRef = true) (hl : storeLocals Ls i.val x = some l') (k : Goes p e below E (T.setTop (mkF m (pc + 1) l' sk))) : Goes p e below E (T.setTop (mkF m pc Ls (x :: sk))) :=
 Goes.st (fun _ q => XS.astoreN X.here hx rfl hd rfl hv hl q) k
theorem gastore (X : Stand p l e R s m args below meth c T locs cells slots) (hx : p.tables.exec = Jvm.exec) {i : Nat} {x : Value} {l' : Array Slot} (hd : decode c.code pc = .ok (.astore i, 2)) (hv : x.isRef = true) (hl : storeLocals Ls i x = some l') (k : Goes p e below E (T.setTop (mkF m (pc + 2) l' sk))) : Goes p e below E (T.setTop (mkF m pc Ls (x :: sk))) :=
 Goes.st (fun _ q => XS.astore X.here hx rfl hd rfl hv hl q) k
theorem ggoto (X : Stand p l e R s m args below meth c T locs cells slots) (hx : p.tables.exec = Jvm.exec) {o : Int} {pc' : Nat} (hd : decode c.code pc = .ok (.goto o, 3)) (ho : 0 ≤ (pc : Int) + o) (hp : ((pc : Int) + o).toNat = pc') (k : Goes p e below E (T.setTop (mkF m pc' Ls sk))) : Goes p e below E (T.setTop (mkF m pc Ls sk)) :=
 Goes.st (fun _ q => XS.goto X.here hx rfl rfl hd ho hp q) k
theorem gifYes (X : Stand p l e R s m args below meth c T locs cells slots) (hx : p.tables.exec = Jvm.exec) {cd : ClassFile.Cond} {o : Int} {x : Int32} {pc' : Nat} (hd : decode c.code pc = .ok (.ifCond cd o, 3)) (hc : ifCond.holds cd x = true) (ho : 0 ≤ (pc : Int) + o) (hp : ((pc : Int) + o).toNat = pc') (k : Goes p e below E (T.setTop (mkF m pc' Ls sk))) : Goes p e below E (T.setTop (mkF m pc Ls (.int x :: sk))) :=
 Goes.st (fun _ q => XS.ifYes X.here hx rfl rfl hd rfl hc ho hp q) k
theorem gifNo (X : Stand p l e R s m args below meth c T locs cells slots) (hx : p.tables.exec = Jvm.exec) {cd : ClassFile.Cond} {o : Int} {x : Int32} (hd : decode c.code pc = .ok (.ifCond cd o, 3)) (hc : ifCond.holds cd x = false) (k : Goes p e below E (T.setTop (mkF m (pc + 3) Ls sk))) : Goes p e below E (T.setTop (mkF m pc Ls (.int x :: sk))) :=
 Goes.st (fun _ q => XS.ifNo X.here hx rfl hd rfl hc q) k
theorem gicmpYes (X : Stand p l e R s m args below meth c T locs cells slots) (hx : p.tables.exec = Jvm.exec) {cd : ClassFile.Cond} {o : Int} {x y : Int32} {pc' : Nat} (hd : decode c.code pc = .ok (.if_icmp cd o, 3)) (hc : if_icmp.holds cd x y = true) (ho : 0 ≤ (pc : Int) + o) (hp : ((pc : Int) + o).toNat = pc') (k : Goes p e below E (T.setTop (mkF m pc' Ls sk))) : Goes p e below E (T.setTop (mkF m pc Ls (.int y :: .int x :: sk))) :=
 Goes.st (fun _ q => XS.icmpYes X.here hx rfl rfl hd rfl hc ho hp q) k
theorem gicmpNo (X : Stand p l e R s m args below meth c T locs cells slots) (hx : p.tables.exec = Jvm.exec) {cd : ClassFile.Cond} {o : Int} {x y : Int32} (hd : decode c.code pc = .ok (.if_icmp cd o, 3)) (hc : if_icmp.holds cd x y = false) (k : Goes p e below E (T.setTop (mkF m (pc + 3) Ls sk))) : Goes p e below E (T.setTop (mkF m pc Ls (.int y :: .int x :: sk))) :=
 Goes.st (fun _ q => XS.icmpNo X.here hx rfl hd rfl hc q) k
end OwnSteps
section OwnHeld
open Bundle
variable {p : Program} {l : Launch} {e : Env} {R : Room} {s : State} {args : Array Value} {below : List Frame} {Z : State} {a0 : Array Value} {EL : List (String × Nat)} {h : Heap} {vm0 : Vm}
abbrev EH (Z : State) (EL : List (String × Nat)) (s : State) (Q : Option Value → Heap → List Loc → Prop) (cs ss : Nat) : Outcome → State → Prop := fun o u => ∃ v L, o = .returned v ∧ Q v u.heap L ∧ CHr Z EL s.vm s.heap u.vm u.heap ∧ ReturnedEndW s o u L cs ss
theorem lvH {m : MethodId} {meth : Method} {c : Code} {T : State} {locs : List Loc} {cells slots : Nat} {Q : Option Value → Heap → List Loc → Prop} {cs ss : Nat} (X : Stand p l e R (s.setVm vm0) m args below meth c T locs cells slots) (hlk : meth.locks = false) {k0 : Nat} (hS : s.Since vm0 k0) (hk : k0 ≤ T.heap.size) (hZ : Z.Warmed39 vm0) (hEL : EW Z a0 EL) (eT : T.heap = h) (hR : CHr Z EL s.vm s.heap vm0 h) {v : Option Value} (hv : meth.sig.returnType = none → v = none) (hq : Q v T.heap locs) (hc : cells ≤ cs) (hs : slots ≤ ss) : Lv e below (EH Z EL s Q cs ss) m T v := by
 obtain ⟨fs, hr, hrun, hended, h1, h2, h3, h4⟩ := X.leaveW hS hk (v := v) hv hlk
 subst eT
 have q := hR.trans (CHv.at X hZ hEL hR.1)
 exact ⟨fs, hr, hrun, hended, _, _, rfl, hq, q, h1, h2, h3, h4.mono hc hs⟩
end OwnHeld
end Jvm.RoadKit
namespace Jvm.RoadKit
open Sem ClassFile Op Lib Jvm.Stand Jvm.Free Jvm.LawKit
section OwnShort
variable {p : Program} {l : Launch} {e : Env} {R : Room} {s : State} {m : MethodId} {args : Array Value} {below : List Frame} {meth : Method} {c : Code} {T : State} {locs : List Loc} {cells slots : Nat} {E : Outcome → State → Prop} {pc : Nat} {Ls : Array Slot} {sk : List Value} {Z : State} {a0 : Array Value} {h : Heap} {own : String} {index : Nat}
theorem qGF (X : Stand p l e R s m args below meth c T locs cells slots) (hx : p.tables.exec = Jvm.exec) (hZ : Z.Warmed39 s.vm) {R0 O n d : String} (hown : s.vm.findClass own = some m.cls) (w : (Cond.fieldLink own index R0 n d).before a0 Z = true) (via : Via Z R0 O n d) (eT : T.heap = h) {a : Addr} {v : Value} (F : Fld Z h a O n d v) (hd : decode c.code pc = .ok (.getfield index, 3))
  (k : ∀ T', Stand p l e R s m args below meth c T' locs cells slots → T'.heap = h → Goes p e below E (T'.setTop (mkF m (pc + 3) Ls (v :: sk)))) : Goes p e below E (T.setTop (mkF m pc Ls (.ref a :: sk))) := by
 obtain ⟨T', X', e', st⟩ := getF X hx hZ hown (host := "") (Or.inl w) via eT F (g := mkF m pc Ls (.ref a :: sk)) rfl rfl hd
 exact Goes.st st (k T' X' e')
theorem qPF (X : Stand p l e R s m args below meth c T locs cells slots) (hx : p.tables.exec = Jvm.exec) (hZ : Z.Warmed39 s.vm) {R0 O n d C : String} {kk : Nat} {ty : FieldType} (hown : s.vm.findClass own = some m.cls) (w : (Cond.fieldLink own index R0 n d).before a0 Z = true) (via : Via Z R0 O n d) (eT : T.heap = h) {a : Addr} {v old : Value} (F : Fld Z h a O n d old) (E' : Exa Z h a C)
  (L : (Cond.lays C O n d).before a0 Z = true ∨ ((Cond.laysFinal C O n d).before a0 Z = true ∧ own = O ∧ meth.name = "<init>")) (wi : (Cond.instantiable C kk).before a0 Z = true) (hty : parseFieldDescriptor d = some ty) (hn : narrow ty v = v) (hf : fits ty v = true) (hd : decode c.code pc = .ok (.putfield index, 3)) {n0 : Nat} (N : Fr n0 locs) (hlo : n0 ≤ a) (hz : n0 ≤ h.size)
  (k : ∀ T' h' L', Stand p l e R s m args below meth c T' L' cells slots → T'.heap = h' → Wr h h' a (slotOf Z O n d) v → Fr n0 L' → Fld Z h' a O n d v → n0 ≤ h'.size → Goes p e below E (T'.setTop (mkF m (pc + 3) Ls sk))) : Goes p e below E (T.setTop (mkF m pc Ls (v :: .ref a :: sk))) := by
 obtain ⟨T', h', X', e', W, st⟩ := putF X hx hZ hown (host := "") (Or.inl w) via eT F E' L wi hty hn hf (g := mkF m pc Ls (v :: .ref a :: sk)) rfl rfl hd
 exact Goes.st st (k T' h' _ X' e' W (Fr.snoc X' N hlo) (F.same W) (by have := W.size; omega))
theorem qCY (X : Stand p l e R s m args below meth c T locs cells slots) (hx : p.tables.exec = Jvm.exec) (hZ : Z.Warmed39 s.vm) {K : String} (hown : s.vm.findClass own = some m.cls) (w : (Cond.classLink own index K).before a0 Z = true) (eT : T.heap = h) {a : Addr} (F : Ins Z h a K true) (hd : decode c.code pc = .ok (.checkcast index, 3))
  (k : ∀ T', Stand p l e R s m args below meth c T' locs cells slots → T'.heap = h → Goes p e below E (T'.setTop (mkF m (pc + 3) Ls (.ref a :: sk)))) : Goes p e below E (T.setTop (mkF m pc Ls (.ref a :: sk))) := by
 obtain ⟨T', X', e', st⟩ := castY X hx hZ hown w eT F (g := mkF m pc Ls (.ref a :: sk)) rfl rfl hd
 exact Goes.st st (k T' X' e')
theorem qAL (X : Stand p l e R s m args below meth c T locs cells slots) (hx : p.tables.exec = Jvm.exec) (hZ : Z.Warmed39 s.vm) (eT : T.heap = h) {a : Addr} {kc : ClassId} {ty : FieldType} {z : Int32} {vs : List Value} {dv : Value} (F : Arv Z h a kc ty z vs dv) (hd : decode c.code pc = .ok (.arraylength, 1))
  (k : Goes p e below E (T.setTop (mkF m (pc + 1) Ls (.int z :: sk)))) : Goes p e below E (T.setTop (mkF m pc Ls (.ref a :: sk))) := by
 obtain ⟨cl, Ar, qk, Sz, qz, Ha, Gf⟩ := F
 refine Goes.st (fun tg kg => X.arraylength hx (cell := cl) (by rw [eT]; exact Ar.1) (State.isArrayOf_alike hZ.alike Ar.2.1) (g := mkF m pc Ls (.ref a :: sk)) rfl (rest := sk) rfl hd tg kg) ?_
 rw [len_of Sz qz]
 exact k
variable {y z : MethodName} {bytes : ByteArray} {maxL : Nat} {ret : Option FieldType} {rm : Room} {W : Nat} {as' : Array Value} {Q : Option Value → Heap → List Loc → Prop} {C : String} {b : Addr} {stk argsL rest : List Value} {sig : MethodDescriptor}
theorem qV (X : Stand p l e R s m args below meth c T locs cells slots) (hx : p.tables.exec = Jvm.exec) (hZ : Z.Warmed39 s.vm) (hown : s.vm.findClass own = some m.cls) (w1 : (Cond.methodLink own index y).before a0 Z = true) (w2 : (Cond.declares y).before a0 Z = true) (hnf : NotFace s y) (w3 : (Cond.selects C y z).before a0 Z = true) (w4 : (Cond.instanceMethod z).before a0 Z = true) (w5 : (Cond.code z bytes maxL ret).before a0 Z = true) (w6 : (Cond.initialized z.cls).before a0 Z = true)
  (hM : MetFree l z (head1 [Cond.code z bytes maxL ret] rm) (fun a U => a = as' ∧ Z.Warmed39 U.vm ∧ U.heap = h) (fun _ _ _ _ _ => True) (fun _ U o U' => ∃ v L, o = .returned v ∧ Q v U'.heap L ∧ FrameEnd U o U' L rm.cells rm.slots)) (eT : T.heap = h) (E' : Exa Z h b C)
  (hdec : (y.cls ≠ "java/lang/invoke/MethodHandle" ∧ y.cls ≠ "java/lang/invoke/VarHandle") ∧ rm.frames + 1 ≤ R.frames ∧ W + (maxL + 11) + rm.locals ≤ R.locals ∧ cells + rm.cells ≤ R.cells ∧ slots + rm.slots ≤ R.slots) (hW : (rest.map fun v => v.category).sum ≤ W) (hsz : Ls.size = c.maxLocals) (hd : decode c.code pc = .ok (.invokevirtual index, 3)) (hp : parseMethodDescriptor y.desc = some sig) (hlen : argsL.length = sig.parameters.length) (hst : stk = argsL.reverse ++ .ref b :: rest) (ha : as' = (.ref b :: argsL).toArray)
  (k : ∀ T' L v, Stand p l e R s m args below meth c T' (locs ++ L) (cells + rm.cells) (slots + rm.slots) → Q v T'.heap L → Goes p e below E (T'.setTop (mkF m (pc + 3) Ls (v.toList ++ rest)))) : Goes p e below E (T.setTop (mkF m pc Ls stk)) := by
 subst hst ha
 obtain ⟨cq, kq, qa, qb, qc⟩ := isOf hZ eT E'
 obtain ⟨v, vm, ⟨T', L', k', n'⟩, -, X', ⟨Lc, hQ, q1, q2, q3⟩, st⟩ := X.virtualBack hx (y := y) (z := z) hown (mvT hZ w1) (mvT hZ w2) hnf (mvT hZ w3) (mvT hZ w4) hdec.1 (backOf (W := W) hM hZ w5 w6 hdec.2.1 hdec.2.2.1) qa qc (g := mkF m pc Ls _) rfl hsz (Steps.refl _) (argsL := argsL) (rest := rest) (lenOf hp hlen) rfl (by show 2 * 0 + _ ≤ _; omega) hd (fun _ _ => ⟨rfl, eT, hdec.2.2.2.1, hdec.2.2.2.2⟩)
 dsimp only [Pt.U, Pt.locs, Pt.cells, Pt.slots] at X' q1 q2 q3 st hQ
 subst q1 q2 q3
 exact Goes.sts st (k T' Lc v X' hQ)
theorem qI (X : Stand p l e R s m args below meth c T locs cells slots) (hx : p.tables.exec = Jvm.exec) (hZ : Z.Warmed39 s.vm) (hown : s.vm.findClass own = some m.cls) {count : Nat} (w1 : (Cond.methodLink own index y).before a0 Z = true) (w2 : (Cond.declares y).before a0 Z = true) (wf : (Cond.interfaceMethod y.cls y.cls y.name y.desc).before #[] s = true) (w3 : (Cond.selects C y z).before a0 Z = true) (w4 : (Cond.instanceMethod z).before a0 Z = true) (wp : (Cond.publicMethod z).before a0 Z = true) (wu : (Cond.unhidden C y.name y.desc).before a0 Z = true) (wc : (Cond.castable C y.cls).before a0 Z = true) (w5 : (Cond.code z bytes maxL ret).before a0 Z = true) (w6 : (Cond.initialized z.cls).before a0 Z = true)
  (hM : MetFree l z (head1 [Cond.code z bytes maxL ret] rm) (fun a U => a = as' ∧ Z.Warmed39 U.vm ∧ U.heap = h) (fun _ _ _ _ _ => True) (fun _ U o U' => ∃ v L, o = .returned v ∧ Q v U'.heap L ∧ FrameEnd U o U' L rm.cells rm.slots)) (eT : T.heap = h) (E' : Exa Z h b C)
  (hdec : (y.cls ≠ "java/lang/invoke/MethodHandle" ∧ y.cls ≠ "java/lang/invoke/VarHandle") ∧ rm.frames + 1 ≤ R.frames ∧ W + (maxL + 11) + rm.locals ≤ R.locals ∧ cells + rm.cells ≤ R.cells ∧ slots + rm.slots ≤ R.slots) (hW : (rest.map fun v => v.category).sum ≤ W) (hsz : Ls.size = c.maxLocals) (hd : decode c.code pc = .ok (.invokeinterface index count, 5)) (hp : parseMethodDescriptor y.desc = some sig) (hlen : argsL.length = sig.parameters.length) (hst : stk = argsL.reverse ++ .ref b :: rest) (ha : as' = (.ref b :: argsL).toArray)
  (k : ∀ T' L v, Stand p l e R s m args below meth c T' (locs ++ L) (cells + rm.cells) (slots + rm.slots) → Q v T'.heap L → Goes p e below E (T'.setTop (mkF m (pc + 5) Ls (v.toList ++ rest)))) : Goes p e below E (T.setTop (mkF m pc Ls stk)) := by
 subst hst ha
 obtain ⟨cq, kq, qa, qb, qc⟩ := isOf hZ eT E'
 obtain ⟨v, vm, ⟨T', L', k', n'⟩, -, X', ⟨Lc, hQ, q1, q2, q3⟩, st⟩ := X.interfaceBack hx (xi := y) (y := z) hown (mvT hZ w1) (mvT hZ w2) wf (mvT hZ w3) (mvT hZ w4) (mvT hZ wp) (mvT hZ wu) (mvT hZ wc) hdec.1 (backOf (W := W) hM hZ w5 w6 hdec.2.1 hdec.2.2.1) qa qb qc (g := mkF m pc Ls _) rfl hsz (Steps.refl _) (argsL := argsL) (rest := rest) (lenOf hp hlen) rfl (by show 2 * 0 + _ ≤ _; omega) hd (fun _ _ => ⟨rfl, eT, hdec.2.2.2.1, hdec.2.2.2.2⟩)
 dsimp only [Pt.U, Pt.locs, Pt.cells, Pt.slots] at X' q1 q2 q3 st hQ
 subst q1 q2 q3
 exact Goes.sts st (k T' Lc v X' hQ)
theorem qP (X : Stand p l e R s m args below meth c T locs cells slots) (hx : p.tables.exec = Jvm.exec) (hZ : Z.Warmed39 s.vm) (hown : s.vm.findClass own = some m.cls) {kk : Nat} (w1 : (Cond.methodLink own index y).before a0 Z = true) (w2 : (Cond.instanceMethod y).before a0 Z = true) (w3 : (Cond.instantiable y.cls kk).before a0 Z = true) (w4 : (Cond.privateMethod y).before a0 Z = true) (w5 : (Cond.code y bytes maxL ret).before a0 Z = true) (w6 : (Cond.initialized y.cls).before a0 Z = true)
  (hM : MetFree l y (head1 [Cond.code y bytes maxL ret] rm) (fun a U => a = as' ∧ Z.Warmed39 U.vm ∧ U.heap = h) (fun _ _ _ _ _ => True) (fun _ U o U' => ∃ v L, o = .returned v ∧ Q v U'.heap L ∧ FrameEnd U o U' L rm.cells rm.slots)) (eT : T.heap = h) (E' : Exa Z h b C)
  (hdec : (y.cls ≠ "java/lang/invoke/MethodHandle" ∧ y.cls ≠ "java/lang/invoke/VarHandle") ∧ rm.frames + 1 ≤ R.frames ∧ W + (maxL + 11) + rm.locals ≤ R.locals ∧ cells + rm.cells ≤ R.cells ∧ slots + rm.slots ≤ R.slots) (hW : (rest.map fun v => v.category).sum ≤ W) (hsz : Ls.size = c.maxLocals) (hd : decode c.code pc = .ok (.invokevirtual index, 3)) (hp : parseMethodDescriptor y.desc = some sig) (hlen : argsL.length = sig.parameters.length) (hst : stk = argsL.reverse ++ .ref b :: rest) (ha : as' = (.ref b :: argsL).toArray)
  (k : ∀ T' L v, Stand p l e R s m args below meth c T' (locs ++ L) (cells + rm.cells) (slots + rm.slots) → Q v T'.heap L → Goes p e below E (T'.setTop (mkF m (pc + 3) Ls (v.toList ++ rest)))) : Goes p e below E (T.setTop (mkF m pc Ls stk)) := by
 subst hst ha
 obtain ⟨cc, qa, qb⟩ := Exa.cell E'
 obtain ⟨v, vm, ⟨T', L', k', n'⟩, -, X', ⟨Lc, hQ, q1, q2, q3⟩, st⟩ := X.privateBack hx (y := y) hown (mvT hZ w1) (mvT hZ w2) (selP (y := y) (as := #[]) (mvT hZ w3) (mvP hZ w4) (mvT hZ w2) hdec.1) (Cond.privateMethod_at (mvP hZ w4 (args := #[]))) (mvT hZ w5) hdec.1 (backOf (W := W) hM hZ w5 w6 hdec.2.1 hdec.2.2.1) (g := mkF m pc Ls _) rfl hsz (Steps.refl _) (a := b) (by rw [eT]; exact qa) qb (argsL := argsL) (rest := rest) (lenOf hp hlen) rfl (by show 2 * 0 + _ ≤ _; omega) hd (fun _ _ => ⟨rfl, eT, hdec.2.2.2.1, hdec.2.2.2.2⟩)
 dsimp only [Pt.U, Pt.locs, Pt.cells, Pt.slots] at X' q1 q2 q3 st hQ
 subst q1 q2 q3
 exact Goes.sts st (k T' Lc v X' hQ)
theorem qC (X : Stand p l e R s m args below meth c T locs cells slots) (hx : p.tables.exec = Jvm.exec) (hZ : Z.Warmed39 s.vm) (hown : s.vm.findClass own = some m.cls) (w1 : (Cond.methodLink own index y).before a0 Z = true) (w2 : (Cond.instanceMethod y).before a0 Z = true) (w5 : (Cond.code y bytes maxL none).before a0 Z = true) (w6 : (Cond.initialized y.cls).before a0 Z = true)
  (hM : MetFree l y (head1 [Cond.code y bytes maxL none] rm) (fun a U => a = as' ∧ Z.Warmed39 U.vm ∧ U.heap = h) (fun _ _ _ _ _ => True) (fun _ U o U' => ∃ v L, o = .returned v ∧ Q v U'.heap L ∧ FrameEnd U o U' L rm.cells rm.slots)) (eT : T.heap = h)
  (hdec : (y.name = "<init>" ∧ y.cls ≠ "java/lang/invoke/MethodHandle" ∧ y.cls ≠ "java/lang/invoke/VarHandle") ∧ rm.frames + 1 ≤ R.frames ∧ W + (maxL + 11) + rm.locals ≤ R.locals ∧ cells + rm.cells ≤ R.cells ∧ slots + rm.slots ≤ R.slots) (hW : (rest.map fun v => v.category).sum ≤ W) (hsz : Ls.size = c.maxLocals) (hd : decode c.code pc = .ok (.invokespecial index, 3)) (hp : parseMethodDescriptor y.desc = some sig) (hlen : argsL.length = sig.parameters.length) (hst : stk = argsL.reverse ++ .ref b :: rest) (ha : as' = (.ref b :: argsL).toArray)
  (k : ∀ T' L v, Stand p l e R s m args below meth c T' (locs ++ L) (cells + rm.cells) (slots + rm.slots) → Q v T'.heap L → Goes p e below E (T'.setTop (mkF m (pc + 3) Ls (v.toList ++ rest)))) : Goes p e below E (T.setTop (mkF m pc Ls stk)) := by
 subst hst ha
 obtain ⟨v, vm, ⟨T', L', k', n'⟩, -, X', ⟨Lc, hQ, q1, q2, q3⟩, st⟩ := X.specialBack hx (y := y) hdec.1.1 hown (mvT hZ w1) (mvT hZ w2) (mvT hZ w5) hdec.1.2 (backOf (W := W) hM hZ w5 w6 hdec.2.1 hdec.2.2.1) (g := mkF m pc Ls _) rfl hsz (Steps.refl _) (a := b) (argsL := argsL) (rest := rest) (lenOf hp hlen) rfl (by show 2 * 0 + _ ≤ _; omega) hd (fun _ _ => ⟨rfl, eT, hdec.2.2.2.1, hdec.2.2.2.2⟩)
 dsimp only [Pt.U, Pt.locs, Pt.cells, Pt.slots] at X' q1 q2 q3 st hQ
 subst q1 q2 q3
 exact Goes.sts st (k T' Lc v X' hQ)
theorem qS (X : Stand p l e R s m args below meth c T locs cells slots) (hx : p.tables.exec = Jvm.exec) (hZ : Z.Warmed39 s.vm) (hown : s.vm.findClass own = some m.cls) (w1 : (Cond.methodLink own index y).before a0 Z = true) (w2 : (Cond.static y).before a0 Z = true) (w5 : (Cond.code y bytes maxL ret).before a0 Z = true) (w6 : (Cond.initialized y.cls).before a0 Z = true)
  (hM : MetFree l y (head1 [Cond.code y bytes maxL ret] rm) (fun a U => a = as' ∧ Z.Warmed39 U.vm ∧ U.heap = h) (fun _ _ _ _ _ => True) (fun _ U o U' => ∃ v L, o = .returned v ∧ Q v U'.heap L ∧ FrameEnd U o U' L rm.cells rm.slots)) (eT : T.heap = h)
  (hdec : (y.cls ≠ "java/lang/invoke/MethodHandle" ∧ y.cls ≠ "java/lang/invoke/VarHandle") ∧ rm.frames + 1 ≤ R.frames ∧ W + (maxL + 11) + rm.locals ≤ R.locals ∧ cells + rm.cells ≤ R.cells ∧ slots + rm.slots ≤ R.slots) (hW : (rest.map fun v => v.category).sum ≤ W) (hsz : Ls.size = c.maxLocals) (hd : decode c.code pc = .ok (.invokestatic index, 3)) (hp : parseMethodDescriptor y.desc = some sig) (hlen : argsL.length = sig.parameters.length) (hst : stk = argsL.reverse ++ rest) (ha : as' = argsL.toArray)
  (k : ∀ T' L v, Stand p l e R s m args below meth c T' (locs ++ L) (cells + rm.cells) (slots + rm.slots) → Q v T'.heap L → Goes p e below E (T'.setTop (mkF m (pc + 3) Ls (v.toList ++ rest)))) : Goes p e below E (T.setTop (mkF m pc Ls stk)) := by
 subst hst ha
 obtain ⟨v, vm, ⟨T', L', k', n'⟩, -, X', ⟨Lc, hQ, q1, q2, q3⟩, st⟩ := Jvm.LawKit.callS X hx (y := y) hown (mvT hZ w1) (mvT hZ w2) (mvT hZ w6) (mvT hZ w5) hdec.1 (backOf (W := W) hM hZ w5 w6 hdec.2.1 hdec.2.2.1) (g := mkF m pc Ls _) rfl hsz (argsL := argsL) (rest := rest) (lenOf hp hlen) rfl (by show 2 * 0 + _ ≤ _; omega) hd (fun _ _ => ⟨rfl, eT, hdec.2.2.2.1, hdec.2.2.2.2⟩)
 dsimp only [Pt.U, Pt.locs, Pt.cells, Pt.slots] at X' q1 q2 q3 st hQ
 subst q1 q2 q3
 exact Goes.st st (k T' Lc v X' hQ)
end OwnShort
end Jvm.RoadKit
namespace Jvm.RoadKit
open Sem ClassFile Op Lib Jvm.Stand Jvm.Free Jvm.LawKit
section OwnBody
theorem neL {a b : Addr} {n : Nat} (h : a < n) (q : n ≤ b) : a ≠ b := Nat.ne_of_lt (Nat.lt_of_lt_of_le h q)
theorem neB {a b : Addr} {n : Nat} (h : a < n) (g : b = n) : a ≠ b := Nat.ne_of_lt (Nat.lt_of_lt_of_le h (Nat.le_of_eq g.symm))
theorem loB {n k : Nat} {b : Addr} (h : n ≤ k) (g : b = k) : n ≤ b := Nat.le_trans h (Nat.le_of_eq g.symm)
theorem db {c : Code} {bytes : ByteArray} {L : List (Nat × Instr × Nat)} (hby : c.code = bytes) (h : ∀ q ∈ L, decode bytes q.1 = .ok (q.2.1, q.2.2)) (k : Nat) {pc n : Nat} {i : Instr} (e : L[k]? = some (pc, i, n)) : decode c.code pc = .ok (i, n) := by rw [hby]; exact h (pc, i, n) (List.mem_of_getElem? e)
abbrev QMF (l : Launch) (Z : State) (y : MethodName) (ws : List Jvm.Cond) (rm : Room) (as' : Array Value) (h0 : Heap) (Q : Option Value → Heap → List Loc → Prop) : Prop := MetFree l y (head1 ws rm) (fun a U => a = as' ∧ Z.Warmed39 U.vm ∧ U.heap = h0) (fun _ _ _ _ _ => True) (fun _ U o U' => ∃ v L, o = .returned v ∧ Q v U'.heap L ∧ FrameEnd U o U' L rm.cells rm.slots)
abbrev QMH (l : Launch) (Z : State) (EL : List (String × Nat)) (y : MethodName) (ws : List Jvm.Cond) (rm : Room) (as' : Array Value) (h0 : Heap) (Q : Option Value → Heap → List Loc → Prop) : Prop := MetFree l y (head1 ws rm) (fun a U => a = as' ∧ Z.Warmed39 U.vm ∧ U.heap = h0 ∧ CHv Z EL U.vm h0) (fun _ _ _ _ _ => True) (fun _ U o U' => ∃ v L, o = .returned v ∧ Q v U'.heap L ∧ CHr Z EL U.vm U.heap U'.vm U'.heap ∧ ReturnedEndW U o U' L rm.cells rm.slots)
variable {l : Launch} {Z : State} {y : MethodName} {bytes : ByteArray} {maxL : Nat} {ret : Option FieldType} {ws : List Jvm.Cond} {rm : Room} {as' : Array Value} {h0 : Heap} {Q : Option Value → Heap → List Loc → Prop} {Ls : Array Slot}
theorem bodyN (hpl : plainFor y = true) (hef : ∀ m, entryFrame m as' maxL = mkF m 0 Ls [])
  (k : ∀ (p : Program) (e : Env) (s : State) (m : MethodId) (below : List Frame) (meth : Method) (c : Code) (s₁ : State), p.tables.exec = Jvm.exec → c.code = bytes → meth.locks = false → meth.sig.returnType = ret → c.maxLocals = maxL → s.vm.findClass y.cls = some m.cls → meth.name = y.name → Z.Warmed39 s.vm → s.heap = h0 → Stand p l e rm s m as' below meth c s₁ [] 0 0 → s₁.heap = h0 → Goes p e below (EN s Q rm.cells rm.slots) (s₁.setTop (mkF m 0 Ls []))) : QMF l Z y (Jvm.Cond.code y bytes maxL ret :: ws) rm as' h0 Q := by
 refine MetFree.of_bodySF hpl hisR ?_
 intro p e s m args below meth c s₁ Bd hml0 hP hK
 obtain ⟨rfl, hZ, hh⟩ := hP
 have X0 : Stand p l e rm s m _ below meth c s₁ [] 0 0 := Stand.of_body Bd
 have e0 : s₁.heap = s.heap := by rw [Bd.state]; rfl
 have g := k p e s m below meth c s₁ Bd.exec Bd.bytes (BodyLoose.notSynchronized Bd) Bd.returns hml0 (findClass_of_methodNamed Bd.named) (name_of_methodNamed Bd.named Bd.method).1 hZ hh X0 (e0.trans hh)
 exact Goes.st (fun tg kg => castTop (hef m) kg) g
theorem bodyH {EL : List (String × Nat)} (hpl : plainFor y = true) (hef : ∀ m, entryFrame m as' maxL = mkF m 0 Ls [])
  (k : ∀ (p : Program) (e : Env) (s : State) (m : MethodId) (below : List Frame) (meth : Method) (c : Code) (s₁ : State), p.tables.exec = Jvm.exec → c.code = bytes → meth.locks = false → meth.sig.returnType = ret → c.maxLocals = maxL → s.vm.findClass y.cls = some m.cls → meth.name = y.name → Z.Warmed39 s.vm → s.heap = h0 → CHr Z EL s.vm h0 s.vm h0 → Stand p l e rm (s.setVm s.vm) m as' below meth c s₁ [] 0 0 → s₁.heap = h0 → s.Since s.vm 0 → Goes p e below (EH Z EL s Q rm.cells rm.slots) (s₁.setTop (mkF m 0 Ls []))) : QMH l Z EL y (Jvm.Cond.code y bytes maxL ret :: ws) rm as' h0 Q := by
 refine MetFree.of_bodySF hpl hisR ?_
 intro p e s m args below meth c s₁ Bd hml0 hP hK
 obtain ⟨rfl, hZ, hh, hH⟩ := hP
 have X0 : Stand p l e rm (s.setVm s.vm) m _ below meth c s₁ [] 0 0 := Stand.of_body Bd
 have e0 : s₁.heap = s.heap := by rw [Bd.state]; rfl
 have g := k p e s m below meth c s₁ Bd.exec Bd.bytes (BodyLoose.notSynchronized Bd) Bd.returns hml0 (findClass_of_methodNamed Bd.named) (name_of_methodNamed Bd.named Bd.method).1 hZ hh (CHr.refl hH) X0 (e0.trans hh) ((State.WarmedH.refl s).since 0)
 exact Goes.st (fun tg kg => castTop (hef m) kg) g
end OwnBody
end Jvm.RoadKit
namespace Jvm.RoadKit
open Sem ClassFile Op Lib Jvm.Stand Jvm.Free Jvm.LawKit
section OwnLoads
variable {p : Program} {l : Launch} {e : Env} {R : Room} {s : State} {m : MethodId} {args : Array Value} {below : List Frame} {meth : Method} {c : Code} {T : State} {locs : List Loc} {cells slots : Nat} {E : Outcome → State → Prop} {pc : Nat} {Ls : Array Slot} {sk : List Value} {Z : State} {h : Heap} {a : Addr} {kc : ClassId} {z j : Int32} {vs : List Value} {dv v : Value}
theorem qCa (X : Stand p l e R s m args below meth c T locs cells slots) (hx : p.tables.exec = Jvm.exec) (hZ : Z.Warmed39 s.vm) (eT : T.heap = h) (F : Arv Z h a kc .char z vs dv) (hj : ¬ j < 0 ∧ j < z) (hv : vs.getD j.toNatClampNeg dv = v) (hd : decode c.code pc = .ok (.caload, 1))
  (k : Goes p e below E (T.setTop (mkF m (pc + 1) Ls (v :: sk)))) : Goes p e below E (T.setTop (mkF m pc Ls (.int j :: .ref a :: sk))) := by
 obtain ⟨cl, Ar, qk, Sz, qz, Ha, Gf⟩ := F
 have q := inb_of (j := j) Sz hj
 exact Goes.st (fun tg kg => X.caload hx (j := j) (v := v) (by rw [eT]; exact Ar.1) (State.isArrayOf_alike hZ.alike Ar.2.1) Ar.2.2 q (Ha.at q hv) (g := mkF m pc Ls (.int j :: .ref a :: sk)) rfl rfl hd tg kg) k
theorem qBa (X : Stand p l e R s m args below meth c T locs cells slots) (hx : p.tables.exec = Jvm.exec) (hZ : Z.Warmed39 s.vm) (eT : T.heap = h) (F : Arv Z h a kc .byte z vs dv) (hj : ¬ j < 0 ∧ j < z) (hv : vs.getD j.toNatClampNeg dv = v) (hd : decode c.code pc = .ok (.baload, 1))
  (k : Goes p e below E (T.setTop (mkF m (pc + 1) Ls (v :: sk)))) : Goes p e below E (T.setTop (mkF m pc Ls (.int j :: .ref a :: sk))) := by
 obtain ⟨cl, Ar, qk, Sz, qz, Ha, Gf⟩ := F
 have q := inb_of (j := j) Sz hj
 exact Goes.st (fun tg kg => X.baloadBytes hx (j := j) (v := v) (by rw [eT]; exact Ar.1) (State.isArrayOf_alike hZ.alike Ar.2.1) Ar.2.2 q (Ha.at q hv) (g := mkF m pc Ls (.int j :: .ref a :: sk)) rfl rfl hd tg kg) k
theorem qIa (X : Stand p l e R s m args below meth c T locs cells slots) (hx : p.tables.exec = Jvm.exec) (hZ : Z.Warmed39 s.vm) (eT : T.heap = h) (F : Arv Z h a kc .int z vs dv) (hj : ¬ j < 0 ∧ j < z) (hv : vs.getD j.toNatClampNeg dv = v) (hd : decode c.code pc = .ok (.iaload, 1))
  (k : Goes p e below E (T.setTop (mkF m (pc + 1) Ls (v :: sk)))) : Goes p e below E (T.setTop (mkF m pc Ls (.int j :: .ref a :: sk))) := by
 obtain ⟨cl, Ar, qk, Sz, qz, Ha, Gf⟩ := F
 have q := inb_of (j := j) Sz hj
 exact Goes.st (fun tg kg => X.iaload hx (j := j) (v := v) (by rw [eT]; exact Ar.1) (State.isArrayOf_alike hZ.alike Ar.2.1) Ar.2.2 q (Ha.at q hv) (g := mkF m pc Ls (.int j :: .ref a :: sk)) rfl rfl hd tg kg) k
theorem qAa {ty : FieldType} (hr : refKind ty = true) (X : Stand p l e R s m args below meth c T locs cells slots) (hx : p.tables.exec = Jvm.exec) (hZ : Z.Warmed39 s.vm) (eT : T.heap = h) (F : Arv Z h a kc ty z vs dv) (hj : ¬ j < 0 ∧ j < z) (hv : vs.getD j.toNatClampNeg dv = v) (hd : decode c.code pc = .ok (.aaload, 1))
  (k : Goes p e below E (T.setTop (mkF m (pc + 1) Ls (v :: sk)))) : Goes p e below E (T.setTop (mkF m pc Ls (.int j :: .ref a :: sk))) := by
 obtain ⟨cl, Ar, qk, Sz, qz, Ha, Gf⟩ := F
 have q := inb_of (j := j) Sz hj
 exact Goes.st (fun tg kg => X.aaload hx (j := j) (v := v) (by rw [eT]; exact Ar.1) (State.isArrayOf_alike hZ.alike Ar.2.1) hr Ar.2.2 q (Ha.at q hv) (g := mkF m pc Ls (.int j :: .ref a :: sk)) rfl rfl hd tg kg) k
theorem gsipush (X : Stand p l e R s m args below meth c T locs cells slots) (hx : p.tables.exec = Jvm.exec) {i : Int} (hd : decode c.code pc = .ok (.sipush i, 3)) (k : Goes p e below E (T.setTop (mkF m (pc + 3) Ls (.int (Int16.ofInt i).toInt32 :: sk)))) : Goes p e below E (T.setTop (mkF m pc Ls sk)) :=
 Goes.st (fun _ q => XS.sipush X.here hx rfl hd q) k
theorem gbipush (X : Stand p l e R s m args below meth c T locs cells slots) (hx : p.tables.exec = Jvm.exec) {i : Int} (hd : decode c.code pc = .ok (.bipush i, 2)) (k : Goes p e below E (T.setTop (mkF m (pc + 2) Ls (.int (Int8.ofInt i).toInt32 :: sk)))) : Goes p e below E (T.setTop (mkF m pc Ls sk)) :=
 Goes.st (fun _ q => XS.bipush X.here hx rfl hd q) k
theorem gaconstNull (X : Stand p l e R s m args below meth c T locs cells slots) (hx : p.tables.exec = Jvm.exec) (hd : decode c.code pc = .ok (.aconst_null, 1)) (k : Goes p e below E (T.setTop (mkF m (pc + 1) Ls (.null :: sk)))) : Goes p e below E (T.setTop (mkF m pc Ls sk)) :=
 Goes.st (fun _ q => XS.aconstNull X.here hx rfl hd q) k
theorem giinc (X : Stand p l e R s m args below meth c T locs cells slots) (hx : p.tables.exec = Jvm.exec) {i : Nat} {d : Int} {x : Int32} {l' : Array Slot} (hd : decode c.code pc = .ok (.iinc i d, 3)) (hl : Ls[i]? = some (.val (.int x))) (hl' : storeLocals Ls i (.int (x + Int32.ofInt d)) = some l') (k : Goes p e below E (T.setTop (mkF m (pc + 3) l' sk))) : Goes p e below E (T.setTop (mkF m pc Ls sk)) :=
 Goes.st (fun _ q => XS.iinc X.here hx rfl hd hl hl' q) k
end OwnLoads
end Jvm.RoadKit
namespace Jvm.RoadKit
open Sem ClassFile Op Lib Jvm.Stand Jvm.Free Jvm.LawKit
section OwnMirror
variable {p : Program} {l : Launch} {e : Env} {R : Room} {s : State} {m : MethodId} {args : Array Value} {below : List Frame} {meth : Method} {c : Code} {T : State} {locs : List Loc} {cells slots : Nat} {E : Outcome → State → Prop} {pc : Nat} {Ls : Array Slot} {sk : List Value} {Z : State} {a0 : Array Value} {h : Heap} {own : String} {index : Nat}
theorem Mir.at {C : String} {mr : Addr} (M : Mir Z C mr) (hal : Z.vm.Alike s.vm) : (Term.mirror C).eval args s none [] s = some (.ref mr) := by
 obtain ⟨cc, kc, m1, m2, m3, -⟩ := M
 obtain ⟨k', q, ek⟩ := hal.2.2 _ _ m2
 simp only [Term.eval, Option.bind_eq_bind, Option.bind_eq_some_iff, Option.pure_def, Option.some.injEq]
 exact ⟨cc, by rw [hal.findClass]; exact m1, k', q, mr, by rw [ek]; exact m3, rfl⟩
theorem qLM (X : Stand p l e R s m args below meth c T locs cells slots) (hx : p.tables.exec = Jvm.exec) (hZ : Z.Warmed39 s.vm) {C : String} {mr : Addr} (hown : s.vm.findClass own = some m.cls) (w : (Cond.classLink own index C).before a0 Z = true) (M : Mir Z C mr) (eT : T.heap = h) (hd : decode c.code pc = .ok (.ldc index, 2))
  (k : ∀ T', Stand p l e R s m args below meth c T' locs cells slots → T'.heap = h → Goes p e below E (T'.setTop (mkF m (pc + 2) Ls (.ref mr :: sk)))) : Goes p e below E (T.setTop (mkF m pc Ls sk)) := by
 obtain ⟨vm', X', st⟩ := X.ldcMirror hx hown (mvT hZ w) (M.at hZ.alike) (g := mkF m pc Ls sk) rfl hd
 exact Goes.st st (k _ X' eT)
end OwnMirror
end Jvm.RoadKit
namespace Jvm.RoadKit
open Sem ClassFile Op Lib Jvm.Stand Jvm.Free Jvm.LawKit
section OwnNe
variable {Z : State} {h h' : Heap} {a b : Addr}
theorem kx (E : Ext h h') : Keep h h' [] := (Keep.refl h []).ext E
theorem nb0 {As : List Addr} : ∀ x ∈ As, x ∉ ([] : List Addr) := fun _ _ => List.not_mem_nil
theorem b0 {ws : List Addr} : ∀ x ∈ ([] : List Addr), x ∉ ws := fun _ q => absurd q List.not_mem_nil
theorem bS {ws As : List Addr} (q : a ∉ ws) (r : ∀ x ∈ As, x ∉ ws) : ∀ x ∈ a :: As, x ∉ ws := fun x hx => by
 rcases List.mem_cons.mp hx with rfl | hx
 ·exact q
 ·exact r x hx
theorem bL {As : List Addr} {n : Nat} (r : ∀ x ∈ As, x < n) (i : Nat) {x : Addr} (q : As[i]? = some x) : x < n := r x (List.mem_of_getElem? q)
theorem mI {As : List Addr} (i : Nat) {x : Addr} (q : As[i]? = some x) : x ∈ As := List.mem_of_getElem? q
theorem lt0 {n : Nat} : ∀ x ∈ ([] : List Addr), x < n := fun _ q => absurd q List.not_mem_nil
theorem ltS {As : List Addr} {n : Nat} (q : a < n) (r : ∀ x ∈ As, x < n) : ∀ x ∈ a :: As, x < n := fun x hx => by
 rcases List.mem_cons.mp hx with rfl | hx
 ·exact q
 ·exact r x hx
theorem exaNe {A B : String} (F : Exa Z h a A) (G : Exa Z h b B) (n : A ≠ B) : a ≠ b := by
 rintro rfl
 obtain ⟨c1, k1, h1, h2, -⟩ := F
 obtain ⟨c2, k2, g1, g2, -⟩ := G
 cases h1.symm.trans g1
 obtain ⟨ka, a1, a2⟩ := Vm.findClass_spec h2
 obtain ⟨kb, b1, b2⟩ := Vm.findClass_spec g2
 cases a1.symm.trans b1
 exact n (a2.symm.trans b2)
def Knd (Z : State) (h : Heap) (a : Addr) (ty : FieldType) : Prop := ∃ c : Cell, h[a]? = some c ∧ Z.isArrayOf c ty
theorem Knd.of {Z : State} {c c' : Cell} {ty : FieldType} (q : Z.isArrayOf c ty) (e1 : c'.cls = c.cls) (e2 : c'.vm = c.vm) : Z.isArrayOf c' ty := by
 obtain ⟨x, k, y, z⟩ := q
 exact ⟨fun k => by rw [e2]; exact x k, k, by rw [e1]; exact y, z⟩
theorem Arv.kin {kc : ClassId} {ty : FieldType} {z : Int32} {vs : List Value} {dv : Value} (F : Arv Z h a kc ty z vs dv) : Knd Z h a ty := by obtain ⟨c, ⟨h1, h2, -⟩, -⟩ := F; exact ⟨c, h1, h2⟩
theorem Knd.ext {ty : FieldType} (F : Knd Z h a ty) (E : Ext h h') : Knd Z h' a ty := by obtain ⟨c, q, r⟩ := F; exact ⟨c, E.2 _ _ q, r⟩
theorem Knd.keep {ty : FieldType} {ws : List Addr} (F : Knd Z h a ty) (K : Keep h h' ws) : Knd Z h' a ty := by
 obtain ⟨c, q, r⟩ := F
 obtain ⟨c', q', e1, e2, -⟩ := K.2.2 a c q
 exact ⟨c', q', Knd.of r e1 e2⟩
theorem Knd.wr {ty : FieldType} {sl : Nat} {v : Value} (F : Knd Z h a ty) (W : Wr h h' b sl v) : Knd Z h' a ty := F.keep (Keep.of_wr W)
theorem kinNe {ty : FieldType} {A : String} {a0 : Array Value} {n : Nat} (F : Knd Z h a ty) (G : Exa Z h b A) (w : (Cond.instantiable A n).before a0 Z = true) : a ≠ b := by
 rintro rfl
 obtain ⟨c1, h1, h2⟩ := F
 obtain ⟨c2, k2, g1, g2, g3, -⟩ := G
 cases h1.symm.trans g1
 obtain ⟨cc, k, i1, i2, i3, -⟩ := Cond.instantiable_spec w
 cases g2.symm.trans i1
 cases g3.symm.trans i2
 obtain ⟨-, ka, q1, comp, q2⟩ := h2
 cases g3.symm.trans q1
 rw [i3] at q2
 cases q2
theorem kinTy {ty ty' : FieldType} (F : Knd Z h a ty) (G : Knd Z h b ty') (n : ty ≠ ty') : a ≠ b := by
 rintro rfl
 obtain ⟨c1, h1, -, k1, f1, c2, f2⟩ := F
 obtain ⟨c3, g1, -, k2, g2, c4, g3⟩ := G
 cases h1.symm.trans g1
 cases f1.symm.trans g2
 rw [f2] at g3
 cases g3
 exact n rfl
end OwnNe
end Jvm.RoadKit
namespace Jvm.RoadKit
open Sem ClassFile Op Lib Bundle Jvm.Stand Jvm.Free Jvm.LawKit Jvm.Free.SB Jvm.Free.SBG
section OwnWide
variable {p : Program} {l : Launch} {e : Env} {R : Room} {s : State} {m : MethodId} {args : Array Value} {below : List Frame} {meth : Method} {c : Code} {T : State} {locs : List Loc} {cells slots : Nat}
theorem nil_of_empty {units : Array UInt16} (h : utf16ToString? units = some "") : units = #[] := by
 have q := Jvm.ClassFile.units_of_text h (fun c hc => absurd hc (by simp))
 exact Array.toList_inj.mp (q.trans (by simp))
theorem sb_nil : (stringBytes #[]).size = 0 := by simp [stringBytes]
theorem ext2 (h : Heap) (x y : Cell) : Ext h ((h.push x).push y) :=
 ⟨by simp; omega, fun a q r => by
  have := (Array.getElem?_eq_some_iff.mp r).1
  rw [Array.getElem?_push, if_neg (by simp; omega), Array.getElem?_push, if_neg (by omega)]; exact r⟩
theorem wideN (X : Stand p l e R s m args below meth c T locs cells slots) (hx : p.tables.exec = Jvm.exec) (wS : ∀ a ∈ Bundle.stringAtoms, a.before args s = true) {g : JFrame} (hg : g.method = m) {index i : Nat} (hd : decode c.code g.pc = .ok (.ldc_w index, 3))
  {k : Class} {cf : ClassFile} (h1 : T.vm.classes[m.cls]? = some k) (h2 : k.cf = some cf) (h3 : cf.constantPool[index]? = some (.string i)) (h4 : cf.constantPool[i]? = some (.utf8 #[])) (h5 : k.resolved[index]? = some none) (h6 : T.vm.interned.find? (fun q => q.1 == #[]) = none) (hc : cells + 2 ≤ R.cells) (hl : slots + 4 ≤ R.slots) :
  ∃ b o : Cell, b.slots.size = 0 ∧ o.slots.size = 4 ∧ (∀ W : State, s.vm.Alike W.vm → W.heap = (T.heap.push b).push o → SlIn 0 T.heap.size W (T.heap.size + 1) #[]) ∧
   ∀ tg, Steps p.tables e below ((((T.pushCell b).pushCell o).setVm (({ T.vm with interned := T.vm.interned.push (#[], T.heap.size + 1) } : Vm).noted m.cls index (.string (T.heap.size + 1)))).setTop { g with pc := g.pc + 3, stack := .ref (T.heap.size + 1) :: g.stack }) tg → Steps p.tables e below (T.setTop g) tg := by
 subst hg
 obtain ⟨Q, LQ, q4, fv, fc⟩ := StringT.of_atoms (args := args) wS
 obtain ⟨kS, kB, LT, ty⟩ := LQ.warmer X.warmed.alike
 have z0 := sb_nil
 have fs : T.fitsSlot = s.fitsSlot := State.fitsSlot_setVm (s := s) X.warmed.alike
 refine ⟨bytesOf Q.cB #[], stringAt Q.cS kS Q.fv Q.fc #[] T.heap.size, by rw [(Cell.writeAll_facts _ _).2.2]; simp [bytes0, z0], by simp [string0, Cell.setSlot, ty, q4], fun W hal hh => ?_, fun tg kg => ?_⟩
 ·exact made_sl wS LQ q4 ty hal (by rw [hh]; simp [Array.getElem?_push]) (by rw [hh, Array.getElem?_push, if_pos (by simp)]) (by simp) (by rw [z0]; omega) 0
 ·rw [← withString_eq] at kg
  refine Steps.instr (c := c) (by simpa using X.here) ?_
  simp [jvm, wpRun, exec, hx, hd]
  have r1 := X.slotsAbove hl
  refine ldc_w.wp_string_new (e := e) (s := T) (f := g) X.here.top h1 h2 h3 h4 h5 h6 LT.found LT.cls LT.initialized LT.ordinary LT.foundB LT.clsB LT.kindB LT.value LT.coder (by rw [z0]; omega) (by rw [z0]; simp) (X.cellsAbove hc) (by rw [z0, ty, q4]; exact r1) (stringBytes_fit LT.clsB LT.kindB #[]) LT.valueSlot LT.coderSlot (by rw [fs]; exact fv _) (by rw [fs]; exact fc _) (fun _ _ acts2 => ?_)
  simp [jvm, afterInstr]
  rw [State.modifyTopJava_setTop]
  exact kg
theorem wideE (X : Stand p l e R s m args below meth c T locs cells slots) (hx : p.tables.exec = Jvm.exec) {own : String} {index : Nat} (hown : s.vm.findClass own = some m.cls) (w : (Cond.stringLink own index "").before args s = true) (wS : ∀ a ∈ Bundle.stringAtoms, a.before args s = true) {g : JFrame} (hg : g.method = m) (hd : decode c.code g.pc = .ok (.ldc_w index, 3)) (hc : cells + 2 ≤ R.cells) (hl : slots + 4 ≤ R.slots) :
  ∃ (a : Addr) (U : State), (∀ tg, Steps p.tables e below (U.setTop { g with pc := g.pc + 3, stack := .ref a :: g.stack }) tg → Steps p.tables e below (T.setTop g) tg) ∧ Stand p l e R (s.setVm U.vm) m args below meth c U locs (cells + 2) (slots + 4) ∧ s.Since U.vm U.heap.size ∧ Ext T.heap U.heap ∧ T.Warmed39 U.vm ∧
   (∃ k cf i, U.vm.classes[m.cls]? = some k ∧ k.cf = some cf ∧ cf.constantPool[index]? = some (.string i) ∧ cf.constantPool[i]? = some (.utf8 #[]) ∧ k.resolved[index]? = some (some (.string a))) ∧
   (U.vm.interned = T.vm.interned ∨ U.vm.interned = T.vm.interned.push (#[], a) ∧ T.vm.interned.find? (fun q => q.1 == #[]) = none ∧ SlIn 0 T.heap.size U a #[]) := by
 obtain ⟨k0, cf, i, units, z1, z2, z3, z4, z5, z6, z7⟩ := Cond.stringLink_spec hown w
 cases nil_of_empty z6
 have XW := X.warmed.wide
 obtain ⟨k, t1, t2, -, t4, -⟩ := XW.2.2.2 _ k0 z1
 have u2 : k.cf = some cf := t2.symm ▸ z2
 have pool : ∀ {q : Class}, q.cf = some cf → q.cf.bind (namesOf? ·.constantPool index) = some (.string "") ∧ q.cf.bind (·.constantPool[index]?) = some (.string i) ∧ q.cf.bind (·.constantPool.utf8? i) = some #[] := fun e => by
  rw [e]; exact ⟨z5, z3, by simp [ConstantPool.utf8?, z4]⟩
 have at' : (k0.resolved[index]? = some none ∧ k.resolved[index]? = some none) ∨ ∃ a, k.resolved[index]? = some (some (.string a)) := by
  rcases t4 index with q | ⟨-, r, q, hr | ⟨a, _, _, _, rfl, -⟩⟩
  ·exact z7.elim (fun o => Or.inl ⟨o, q.trans o⟩) (fun ⟨a, o⟩ => Or.inr ⟨a, q.trans o⟩)
  ·cases r <;> simp [State.rightAt, z1, z2, z5] at hr
  ·exact Or.inr ⟨a, q⟩
 have X0 := X.mono (cells' := cells + 2) (slots' := slots + 4) (by omega) (by omega)
 rcases at' with ⟨o0, o1⟩ | ⟨a, hr⟩
 ·obtain ⟨n1, n2, n3⟩ := pool z2
  obtain ⟨v1, v2, v3⟩ := pool u2
  cases hf : T.vm.interned.find? (fun q => q.1 == #[]) with
  | some pr =>
   obtain ⟨us, a⟩ := pr
   cases show us = #[] by have := Array.find?_some hf; simpa using this
   have hW := XW.notedString z1 (Or.inl o0) n1 n2 n3 hf
   have sa : T.Interned1 (T.setVm (T.vm.noted m.cls index (.string a))) := ⟨Nat.le_refl _, Or.inl rfl⟩
   refine ⟨a, _, fun tg kg => ?_, X0.retabled hW, ⟨hW, State.Booked.step (X.warmed.no_new_pair _) X.same.2.1 sa⟩, ⟨Nat.le_refl _, fun _ _ q => q⟩, (State.Warmed39.refl T).notedString t1 (Or.inl o1) v1 v2 v3 hf, ⟨_, cf, i, Vm.classes_note_self index (.string a) t1, u2, z3, z4, Class.resolved_note_self (.string a) o1⟩, Or.inl rfl⟩
   subst hg
   jvm_step X.here [hx, hd, ldc_w.wp_string_found (e := e) (s := T) (f := g) X.here.top t1 u2 z3 z4 o1 hf]
   exact kg
  | none =>
   obtain ⟨b, o, b0, o4, hsl, st⟩ := wideN X hx wS hg hd t1 u2 z3 z4 o1 hf hc hl
   have pu : (T.vm.interned.push (#[], T.heap.size + 1)).find? (fun q => q.1 == #[]) = some (#[], T.heap.size + 1) := by rw [Array.find?_push, hf]; simp
   have hW := (XW.interns #[] (T.heap.size + 1)).notedString z1 (Or.inl o0) n1 n2 n3 pu
   have hV := ((State.Warmed39.refl T).interns #[] (T.heap.size + 1)).notedString t1 (Or.inl o1) v1 v2 v3 pu
   have Y := ((X.pushed b).pushed o).mono (cells' := cells + 2) (slots' := slots + 4) (by omega) (by omega)
   have hz : ((T.pushCell b).pushCell o).heap.size = T.heap.size + 2 := by show ((T.heap.push b).push o).size = _; simp
   exact ⟨_, _, st, Y.retabled hW, ⟨hW, State.Booked.step (X.warmed.no_new_pair _) X.same.2.1 ⟨by show _ ≤ ((T.pushCell b).pushCell o).heap.size; omega, Or.inr ⟨#[], T.heap.size + 1, rfl, by omega, by show _ < ((T.pushCell b).pushCell o).heap.size; omega⟩⟩⟩, ext2 _ _ _, hV, ⟨_, cf, i, Vm.classes_note_self (vm := { T.vm with interned := T.vm.interned.push (#[], T.heap.size + 1) }) index (.string (T.heap.size + 1)) t1, u2, z3, z4, Class.resolved_note_self (.string (T.heap.size + 1)) o1⟩, Or.inr ⟨rfl, rfl, hsl _ hW.alike rfl⟩⟩
 ·refine ⟨a, T, fun tg kg => ?_, X0.retabled XW, X.warmed.since _, ⟨Nat.le_refl _, fun _ _ q => q⟩, State.Warmed39.refl T, ⟨k, cf, i, t1, u2, z3, z4, hr⟩, Or.inl rfl⟩
  subst hg
  jvm_step X.here [hx, hd, ldc_w.wp_string (e := e) (s := T) (f := g) X.here.top t1 u2 z3 hr]
  exact kg
variable {Z : State} {a0 : Array Value} {EL : List (String × Nat)} {h : Heap} {vm0 : Vm} {own : String} {index : Nat}
theorem SlB.facts {vm : Vm} {q : SQ} (hal : Z.vm.Alike vm) (F0 : SlB (Wst Z vm h) q #[]) : Exa Z h q.sa "java/lang/String" ∧ Fld Z h q.sa "java/lang/String" "coder" "B" (.int 0) ∧ Fld Z h q.sa "java/lang/String" "value" "[B" (.ref q.sd) ∧ Arv Z h q.sd q.SA.cls .byte 0 [] (.int 0) := by
 have F : SlB ({ Z with heap := h } : State) q #[] := F0.carry (V := { Z with heap := h }) hal.symm F0.ha F0.hd
 obtain ⟨cS, ⟨⟨s1, s2, s3, ⟨cv, kv, iv, s4, s4'⟩, ⟨cc, kc, ic, s5, s5'⟩, s6, s7, s8, s9, s10, s11, s12, -⟩, hfS, rfl⟩, ⟨kS, k1, k2, k3⟩, -, hby⟩ := F
 refine ⟨⟨q.sC, kS, s1, hfS, k1, s3, fun _ => k3⟩, ⟨q.sC, cc, kc, ic, q.fSC, s1, s5, s7, s2, s3, s5', s9⟩, ⟨q.sC, cv, kv, iv, q.fSV, s1, s4, s6, s2, s3, s4', s8⟩, ⟨q.SA, ⟨s10, s11, s12⟩, rfl, ?_, by decide, fun j hj => ?_, fun j hj => ?_⟩⟩
 ·rw [hby, sb_nil]; rfl
 ·rw [hby, sb_nil] at hj; omega
 ·rw [hby, sb_nil] at hj; omega
theorem Safe.nul {vm : Vm} {x : Addr} (hal : Z.vm.Alike vm) (E : Exa Z h x "java/lang/String") (F : Fld Z h x "java/lang/String" "value" "[B" .null) : Safe Z EL vm h x := fun B => by
 obtain ⟨_, -, u, a, -, q, -, G0, y⟩ := B
 have G : SlB ({ Z with heap := h } : State) q u := G0.carry (V := { Z with heap := h }) hal.symm G0.ha G0.hd
 obtain ⟨cS, ⟨⟨s1, s2, s3, ⟨cv, kv, iv, s4, s4'⟩, -, s6, s7, s8, s9, s10, s11, -⟩, hfS, rfl⟩, ⟨kS, k1, k2, k3⟩, -, -⟩ := G
 rcases y with rfl | rfl
 ·obtain ⟨cell, cf, k, i, f, f1, f2, -, -, -, -, f7⟩ := F
  cases f1.symm.trans s1
  have e : (cf, k, i, f) = (cv, kv, iv, q.fSV) := Option.some.inj (f2.symm.trans s4)
  cases e
  cases f7.symm.trans s8
 ·obtain ⟨cell, k, e1, e2, e3, -, -⟩ := E
  cases e1.symm.trans s10
  obtain ⟨-, k9, q1, comp, q2⟩ := s11
  have e : q.SA.cls = q.sC.cls := Option.some.inj (e2.symm.trans hfS)
  have q1' : Z.vm.classes[q.sC.cls]? = some k9 := e ▸ q1
  cases q1'.symm.trans k1
  rw [k2] at q2; cases q2
theorem atoms_at {vm1 : Vm} (hZ : Z.Warmed39 vm1) (wS : ∀ a ∈ Bundle.stringAtoms, a.before a0 Z = true) : ∀ a ∈ Bundle.stringAtoms, a.before args (s.setVm vm1) = true := by
 simp only [Bundle.stringAtoms, List.forall_mem_cons] at wS ⊢
 obtain ⟨w1, w2, w3, w4, w5, w6, w7, -⟩ := wS
 exact ⟨mv (s := s.setVm vm1) hZ w1, mv (s := s.setVm vm1) hZ w2, mvA (s := s.setVm vm1) hZ w3, mv (s := s.setVm vm1) hZ w4, mv (s := s.setVm vm1) hZ w5, mv (s := s.setVm vm1) hZ w6, mv (s := s.setVm vm1) hZ w7, fun _ q => absurd q List.not_mem_nil⟩
theorem ldcCW (X : Stand p l e R (s.setVm vm0) m args below meth c T locs cells slots) (hx : p.tables.exec = Jvm.exec) (hZ : Z.Warmed39 vm0) (hown : vm0.findClass own = some m.cls) (w : (Cond.stringLink own index "").before a0 Z = true) (wS : ∀ a ∈ Bundle.stringAtoms, a.before a0 Z = true)
  (eT : T.heap = h) {k0 : Nat} (hS : s.Since vm0 k0) (hk : k0 ≤ h.size) (hEL : EW Z a0 EL) (hmem : (own, index) ∈ EL) (H : CHv Z EL vm0 h)
  {g : JFrame} (hg : g.method = m) (hd : decode c.code g.pc = .ok (.ldc_w index, 3)) (hc : cells + 2 ≤ R.cells) (hl : slots + 4 ≤ R.slots) :
  ∃ (a : Addr) (T' : State) (h' : Heap) (k1 : Nat) (b : Addr) (k : ClassId), Stand p l e R (s.setVm T'.vm) m args below meth c T' locs (cells + 2) (slots + 4) ∧ T'.heap = h' ∧ Ext h h' ∧ s.Since T'.vm k1 ∧ k1 ≤ h'.size ∧ Z.Warmed39 (s.setVm T'.vm).vm ∧ (s.setVm T'.vm).vm.findClass own = some m.cls ∧
   Exa Z h' a "java/lang/String" ∧ Fld Z h' a "java/lang/String" "coder" "B" (.int 0) ∧ Fld Z h' a "java/lang/String" "value" "[B" (.ref b) ∧ Arv Z h' b k .byte 0 [] (.int 0) ∧ a < h'.size ∧ b < h'.size ∧ CHr Z EL vm0 h T'.vm h' ∧ Lit (s.setVm T'.vm) own index a ∧ (∀ x, Safe Z EL T'.vm h' x → x ≠ a ∧ x ≠ b) ∧
   ∀ tg, Steps p.tables e below (T'.setTop { g with pc := g.pc + 3, stack := .ref a :: g.stack }) tg → Steps p.tables e below (T.setTop g) tg := by
 subst eT
 obtain ⟨a, U, st, X', hS', E, hTW, ⟨k, cf, i, k1, k2, k3, k4, k5⟩, hint⟩ := wideE X hx (own := own) hown (mvS hZ w) (atoms_at hZ wS) hg hd hc hl
 have hW : Z.Warmed39 U.vm := hZ.trans (t := s.setVm vm0) hS'.1
 have hf : U.vm.findClass own = some m.cls := (hS'.1.alike.findClass own _).trans hown
 have A := CHv.at X hZ hEL H
 have B := CHv.later (vm := T.vm) (vm1 := U.vm) (h' := U.heap) (wtrans (s := s.setVm vm0) hZ X.warmed) (show (Wst Z T.vm T.heap).Warmed39 U.vm from hTW) hEL E (hint.imp id fun ⟨i1, i2, q, cS, hq, r1, r2, r3, r4, r5⟩ => ⟨#[], a, i1, i2, fun _ => ⟨q, hq, (show SlB U q #[] from ⟨cS, r1, r2, r3, r4⟩).carry (V := Wst Z U.vm U.heap) (Vm.Alike.refl _) (SlB.ha ⟨cS, r1, r2, r3, r4⟩) (SlB.hd ⟨cS, r1, r2, r3, r4⟩), r5.elim (fun z => absurd z.1 (Nat.not_lt_zero _)) id⟩⟩) A.1
 have hB0 : Booksv U.vm own index #[] a := ⟨m.cls, k, cf, i, hf, k1, k2, k3, k4, Or.inl k5⟩
 obtain ⟨q, rfl, F⟩ := SlB.of (B.1 _ hmem #[] a hB0)
 obtain ⟨f1, f2, f3, f4⟩ := F.facts hW.alike
 exact ⟨q.sa, U, _, _, q.sd, _, X', rfl, E, hS.trans hS' (Nat.le_trans hk E.1), Nat.le_refl _, hW, hf, f1, f2, f3, f4, f1.lt, f4.lt, A.trans ⟨B.1, E.1, B.2⟩, by simp [Lit, State.resolvedAt?, hf, k1, k5], fun x S => ⟨fun z => S ⟨_, hmem, #[], q.sa, hB0, q, rfl, F, Or.inl z⟩, fun z => S ⟨_, hmem, #[], q.sa, hB0, q, rfl, F, Or.inr z⟩⟩, st⟩
end OwnWide
end Jvm.RoadKit
namespace Jvm.RoadKit
open Sem ClassFile Op Lib Jvm.Stand Jvm.Free Jvm.LawKit
section OwnClassOf
variable {p : Program} {l : Launch} {e : Env} {R : Room} {s : State} {m : MethodId} {args : Array Value} {below : List Frame} {meth : Method} {c : Code} {T : State} {locs : List Loc} {cells slots : Nat} {E : Outcome → State → Prop} {pc : Nat} {Ls : Array Slot} {sk : List Value} {Z : State} {a0 : Array Value} {h : Heap} {own : String} {index : Nat}
abbrev yGC : MethodName := ⟨"java/lang/Object", "getClass", "()Ljava/lang/Class;"⟩
theorem qGV (X : Stand p l e R s m args below meth c T locs cells slots) (hx : p.tables.exec = Jvm.exec) (hZ : Z.Warmed39 s.vm) {C : String} {mr b : Addr} {W : Nat} (hown : s.vm.findClass own = some m.cls) (w1 : (Cond.methodLink own index yGC).before a0 Z = true) (w2 : (Cond.declares yGC).before a0 Z = true) (w5 : (Cond.selects C yGC yGC).before a0 Z = true) (w6 : (Cond.instanceMethod yGC).before a0 Z = true) (w9 : (Cond.native yGC).before a0 Z = true)
  (eT : T.heap = h) (E' : Exa Z h b C) (M : Mir Z C mr) (hf : 1 ≤ R.frames) (hW : (sk.map fun v => v.category).sum ≤ W) (hl : W + 14 ≤ R.locals) (hsz : Ls.size = c.maxLocals) (hd : decode c.code pc = .ok (.invokevirtual index, 3))
  (k : ∀ T', Stand p l e R s m args below meth c T' locs cells slots → T'.heap = h → Goes p e below E (T'.setTop (mkF m (pc + 3) Ls (.ref mr :: sk)))) : Goes p e below E (T.setTop (mkF m pc Ls (.ref b :: sk))) := by
 obtain ⟨cB, kB, i1, i2, i3⟩ := isOf hZ eT E'
 obtain ⟨cc, kc, m1, m2, m3, m4⟩ := M
 have j1 : Z.vm.findClass C = some cB := by rw [← hZ.alike.findClass]; exact i1
 cases j1.symm.trans m1
 obtain ⟨k', q, ek⟩ := hZ.alike.2.2 _ _ m2
 cases i2.symm.trans q
 have hm : kB.mirror = some mr := by rw [ek]; exact m3
 obtain ⟨v, vm, B, hWm, X', ⟨hB, hv⟩, st⟩ := X.virtualBack hx (y := yGC) (z := yGC) hown (mvT hZ w1) (mvT hZ w2) (notFace_of_selects (args := #[]) (mvT hZ w5)) (mvT hZ w5) (mvT hZ w6) (by decide)
  (Jvm.Free.NT.GetClass.pays (W := W) (mvT hZ w9) (mvT hZ w6) hf hl) i1 i3 (g := mkF m pc Ls (.ref b :: sk)) rfl hsz (Steps.refl _) (argsL := []) (rest := sk) (fun sig hs => by rw [show parseMethodDescriptor "()Ljava/lang/Class;" = some ⟨[], some (.object "java/lang/Class")⟩ from by decide +kernel] at hs; cases hs; rfl) rfl (by show 2 * 0 + _ ≤ _; omega) hd
  (fun vm₁ hw => ⟨(b, cB, kB, mr), rfl, i3, (Jvm.Free.NT.RecordOf.of (U := s) i2).move (U' := T.setVm vm₁) hw.alike, hm⟩)
 have hv' := hv (b, cB, kB, mr) ⟨rfl, i3, (Jvm.Free.NT.RecordOf.of (U := s) i2).move (U' := T.setVm vm) hWm.alike, hm⟩
 subst hB hv'
 exact Goes.sts st (k _ X' eT)
def NI (Z : State) (K : String) : Prop := ∃ t kt, Z.vm.findClass K = some t ∧ Z.vm.classes[t]? = some kt ∧ kt.isInterface = false
theorem NI.inst {K : String} {n : Nat} (w : (Cond.instantiable K n).before a0 Z = true) : NI Z K := by
 obtain ⟨t, kt, h1, h2, -, h4, -⟩ := Cond.instantiable_spec w
 exact ⟨t, kt, h1, h2, by simp only [Bool.or_eq_false_iff] at h4; exact h4.1⟩
theorem NI.sel {C K n d : String} {x : MethodName} (w : (Cond.selects C x ⟨K, n, d⟩).before a0 Z = true) : NI Z K := by
 obtain ⟨_, _, ⟨mc, mi⟩, -, -, h3, -, mk, h5, h6⟩ := Cond.selects_spec w
 simp only [State.methodNamed?, Option.bind_eq_bind, Option.bind_eq_some_iff, Option.pure_def, Option.some.injEq] at h3
 obtain ⟨t, q1, k, q2, i, q3, q4⟩ := h3
 cases q4
 exact ⟨_, mk, q1, h5, h6⟩
theorem NI.root {O K : String} (I : NI Z K) (w : (Cond.noSuperclass O).before a0 Z = true) (hn : O ≠ K) : NS Z O K := by
 obtain ⟨c, k, h1, h2, h3, -, -⟩ := Cond.noSuperclass_spec w
 obtain ⟨t, kt, g1, -, -⟩ := I
 have ne := ids_ne h1 g1 hn
 exact ⟨c, t, h1, g1, fun fuel => by cases fuel <;> simp [Vm.isSubclassAux, ne, h2, h3]⟩
theorem NI.no {C S K : String} (I : NI Z K) (w : (Cond.superclass C S).before a0 Z = true) (n : NS Z C K) (hn : C ≠ K) : ∃ c t, Z.vm.findClass C = some c ∧ Z.vm.findClass K = some t ∧ Z.vm.assignable c t = false := by
 obtain ⟨c, t, h0, g0, n3⟩ := n
 obtain ⟨t', kt, g1, g2, g3⟩ := I
 cases g0.symm.trans g1
 obtain ⟨p, k, kp, -, h2, -, -, h5, -⟩ := Cond.superclass_spec h0 w
 have ne := ids_ne h0 g0 hn
 refine ⟨c, t, h0, g0, ?_⟩
 show Z.vm.assignableAux (255 + 1) c t = false
 cases hk : kt.kind <;> simp [Vm.assignableAux, ne, h2, g2, h5, hk, g3, Vm.isSubclass, n3]
end OwnClassOf
end Jvm.RoadKit
namespace Jvm.Pilot.@@N@@
open Jvm Jvm.ClassFile Sem Op Lib Jvm.Free Jvm.Stand Jvm.LawKit Jvm.RoadKit Bundle Jvm.Free.Fl Jvm.Pilot.@@N@@.Jvm.D
abbrev S_0 (Z : State) (h : Heap) (v : Value) : Prop := Sta Z h "java/lang/String" "COMPACT_STRINGS" "Z" v
abbrev S_1 (Z : State) (h : Heap) (v : Value) : Prop := Sta Z h "jdk/internal/util/Preconditions" "SIOOBE_FORMATTER" "Ljava/util/function/BiFunction;" v
abbrev S_2 (Z : State) (h : Heap) (v : Value) : Prop := Sta Z h "java/lang/StringUTF16" "$assertionsDisabled" "Z" v
abbrev S_3 (Z : State) (h : Heap) (v : Value) : Prop := Sta Z h "java/lang/StringUTF16" "HI_BYTE_SHIFT" "I" v
abbrev S_4 (Z : State) (h : Heap) (v : Value) : Prop := Sta Z h "java/lang/StringUTF16" "LO_BYTE_SHIFT" "I" v
abbrev S_5 (Z : State) (h : Heap) (v : Value) : Prop := Sta Z h "java/util/ArrayList" "DEFAULTCAPACITY_EMPTY_ELEMENTDATA" "[Ljava/lang/Object;" v
abbrev S_6 (Z : State) (h : Heap) (v : Value) : Prop := Sta Z h "java/util/ImmutableCollections" "EMPTY_LIST" "Ljava/util/ImmutableCollections$ListN;" v
abbrev S_7 (Z : State) (h : Heap) (v : Value) : Prop := Sta Z h "java/util/ImmutableCollections" "EMPTY" "Ljava/lang/Object;" v
abbrev F_0 (Z : State) (h : Heap) (a : Addr) (v : Value) : Prop := Fld Z h a "java/lang/String" "value" "[B" v
abbrev F_1 (Z : State) (h : Heap) (a : Addr) (v : Value) : Prop := Fld Z h a "java/lang/String" "coder" "B" v
abbrev F_2 (Z : State) (h : Heap) (a : Addr) (v : Value) : Prop := Fld Z h a "java/util/AbstractList" "modCount" "I" v
abbrev F_3 (Z : State) (h : Heap) (a : Addr) (v : Value) : Prop := Fld Z h a "java/util/ArrayList" "elementData" "[Ljava/lang/Object;" v
abbrev F_4 (Z : State) (h : Heap) (a : Addr) (v : Value) : Prop := Fld Z h a "java/util/ArrayList" "size" "I" v
abbrev F_5 (Z : State) (h : Heap) (a : Addr) (v : Value) : Prop := Fld Z h a "java/util/ImmutableCollections$List12" "e0" "Ljava/lang/Object;" v
abbrev F_6 (Z : State) (h : Heap) (a : Addr) (v : Value) : Prop := Fld Z h a "java/util/ImmutableCollections$List12" "e1" "Ljava/lang/Object;" v
abbrev F_7 (Z : State) (h : Heap) (a : Addr) (v : Value) : Prop := Fld Z h a "java/util/ImmutableCollections$ListN" "elements" "[Ljava/lang/Object;" v
abbrev X_0 (Z : State) (h : Heap) (a : Addr) : Prop := Exa Z h a "java/lang/String"
abbrev X_1 (Z : State) (h : Heap) (a : Addr) : Prop := Exa Z h a "java/util/ArrayList"
abbrev X_2 (Z : State) (h : Heap) (a : Addr) : Prop := Exa Z h a "[Ljava/lang/Object;"
abbrev X_3 (Z : State) (h : Heap) (a : Addr) : Prop := Exa Z h a "java/util/ImmutableCollections$List12"
abbrev X_4 (Z : State) (h : Heap) (a : Addr) : Prop := Exa Z h a "java/util/ImmutableCollections$ListN"
abbrev X_5 (Z : State) (h : Heap) (a : Addr) : Prop := Exa Z h a "java/lang/Object"
set_option maxRecDepth 65536
set_option maxHeartbeats 40000000
abbrev HW (a0 : Array Value) (Z : State) : Prop := ∀ (k : Nat) {d : Jvm.Cond}, tables_1[k]? = some d → d.before a0 Z = true
abbrev Gt {p : Program} {e : Env} {below : List Frame} {E : Outcome → State → Prop} (T : State) (m : MethodId) (pc : Nat) (Ls : Array Slot) (st : List Value) : Prop := Goes p e below E (T.setTop (mkF m pc Ls st))
abbrev rM (f c s l : Nat) : Room := { frames := f, cells := c, slots := s, locals := l }
abbrev QMg (l : Launch) (Z : State) (y : MethodName) (b : ByteArray) (n : Nat) (r : Option FieldType) (ws : List Jvm.Cond) (rm : Room) (as' : Array Value) (h0 : Heap) (Q : Option Value → Heap → List Loc → Prop) : Prop := QMF l Z y (Jvm.Cond.code y b n r :: ws) rm as' h0 Q
abbrev QMh (l : Launch) (Z : State) (E : List (String × Nat)) (y : MethodName) (b : ByteArray) (n : Nat) (r : Option FieldType) (ws : List Jvm.Cond) (rm : Room) (as' : Array Value) (h0 : Heap) (Q : Option Value → Heap → List Loc → Prop) : Prop := QMH l Z E y (Jvm.Cond.code y b n r :: ws) rm as' h0 Q
theorem pfn {y : MethodName} (h : plainName y.cls = true) : plainFor y = true := plainFor_of_name h
theorem lT {a b c : Nat} (h : a ≤ b) (k : b ≤ c) : a ≤ c := Nat.le_trans h k
section OwnTiny
variable {p : Program} {l : Launch} {e : Env} {R : Room} {s : State} {m : MethodId} {args : Array Value} {below : List Frame} {meth : Method} {c : Code} {T : State} {locs : List Loc} {cells slots : Nat} {E : Outcome → State → Prop} {pc : Nat} {Ls : Array Slot} {sk : List Value} {i : Nat}
theorem aN {i : Fin 4} {v : Value} (X : Stand p l e R s m args below meth c T locs cells slots) (hx : p.tables.exec = Jvm.exec) (hd : decode c.code pc = .ok (.aload_n i, 1)) (k : Goes p e below E (T.setTop (mkF m (pc + 1) Ls (v :: sk)))) (hl : Ls[i.val]? = some (.val v)) (hv : v.isRef = true) : Goes p e below E (T.setTop (mkF m pc Ls sk)) := galoadN X hx hd hl hv k
theorem aW {v : Value} (X : Stand p l e R s m args below meth c T locs cells slots) (hx : p.tables.exec = Jvm.exec) (hd : decode c.code pc = .ok (.aload i, 2)) (k : Goes p e below E (T.setTop (mkF m (pc + 2) Ls (v :: sk)))) (hl : Ls[i]? = some (.val v)) (hv : v.isRef = true) : Goes p e below E (T.setTop (mkF m pc Ls sk)) := gaload X hx hd hl hv k
theorem jN {i : Fin 4} {v : Int32} (X : Stand p l e R s m args below meth c T locs cells slots) (hx : p.tables.exec = Jvm.exec) (hd : decode c.code pc = .ok (.iload_n i, 1)) (k : Goes p e below E (T.setTop (mkF m (pc + 1) Ls (.int v :: sk)))) (hl : Ls[i.val]? = some (.val (.int v))) : Goes p e below E (T.setTop (mkF m pc Ls sk)) := giloadN X hx hd hl k
theorem jW {v : Int32} (X : Stand p l e R s m args below meth c T locs cells slots) (hx : p.tables.exec = Jvm.exec) (hd : decode c.code pc = .ok (.iload i, 2)) (k : Goes p e below E (T.setTop (mkF m (pc + 2) Ls (.int v :: sk)))) (hl : Ls[i]? = some (.val (.int v))) : Goes p e below E (T.setTop (mkF m pc Ls sk)) := giload X hx hd hl k
end OwnTiny
section OwnCalls
variable {p : Program} {l : Launch} {e : Env} {R : Room} {s : State} {m : MethodId} {args : Array Value} {below : List Frame} {meth : Method} {c : Code} {T : State} {locs : List Loc} {cells slots : Nat} {E : Outcome → State → Prop} {pc : Nat} {Ls : Array Slot} {sk : List Value} {Z : State} {a0 : Array Value} {h : Heap} {own : String} {index : Nat} {y z : MethodName} {bytes : ByteArray} {maxL : Nat} {ret : Option FieldType} {rm : Room} {W nl : Nat} {Q : Option Value → Heap → List Loc → Prop} {C : String} {b : Addr} {stk argsL rest : List Value} {sig : MethodDescriptor}
theorem lq {a b : Nat} (h : a = b) : a ≤ b := Nat.le_of_eq h
theorem zS (X : Stand p l e R s m args below meth c T locs cells slots) (hx : p.tables.exec = Jvm.exec) (hZ : Z.Warmed39 s.vm) (hown : s.vm.findClass own = some m.cls) (hw : HW a0 Z) (i1 i2 i3 i4 : Nat) (hM : QMg l Z y bytes maxL ret [] rm argsL.toArray h Q) (eT : T.heap = h) (hml : c.maxLocals = nl) (hd : decode c.code pc = .ok (.invokestatic index, 3)) (hp : parseMethodDescriptor y.desc = some sig) (k : ∀ T' L v, Stand p l e R s m args below meth c T' (locs ++ L) (cells + rm.cells) (slots + rm.slots) → Q v T'.heap L → Goes p e below E (T'.setTop (mkF m (pc + 3) Ls (v.toList ++ rest)))) (q1 : tables_1[i1]? = some (Jvm.Cond.methodLink own index y)) (q2 : tables_1[i2]? = some (Jvm.Cond.static y)) (q3 : tables_1[i3]? = some (Jvm.Cond.code y bytes maxL ret)) (q4 : tables_1[i4]? = some (Jvm.Cond.initialized y.cls)) (hdec : (y.cls ≠ "java/lang/invoke/MethodHandle" ∧ y.cls ≠ "java/lang/invoke/VarHandle") ∧ rm.frames + 1 ≤ R.frames ∧ W + (maxL + 11) + rm.locals ≤ R.locals ∧ cells + rm.cells ≤ R.cells ∧ slots + rm.slots ≤ R.slots) (hW : (rest.map fun v => v.category).sum ≤ W) (hsz : Ls.size = nl) (hlen : argsL.length = sig.parameters.length) (hst : stk = argsL.reverse ++ rest) : Goes p e below E (T.setTop (mkF m pc Ls stk)) :=
 qS X hx hZ hown (hw i1 q1) (hw i2 q2) (hw i3 q3) (hw i4 q4) hM eT hdec hW (hsz.trans hml.symm) hd hp hlen hst rfl k
theorem zC (X : Stand p l e R s m args below meth c T locs cells slots) (hx : p.tables.exec = Jvm.exec) (hZ : Z.Warmed39 s.vm) (hown : s.vm.findClass own = some m.cls) (hw : HW a0 Z) (i1 i2 i3 i4 : Nat) (hM : QMg l Z y bytes maxL none [] rm (.ref b :: argsL).toArray h Q) (eT : T.heap = h) (hml : c.maxLocals = nl) (hd : decode c.code pc = .ok (.invokespecial index, 3)) (hp : parseMethodDescriptor y.desc = some sig) (k : ∀ T' L v, Stand p l e R s m args below meth c T' (locs ++ L) (cells + rm.cells) (slots + rm.slots) → Q v T'.heap L → Goes p e below E (T'.setTop (mkF m (pc + 3) Ls (v.toList ++ rest)))) (q1 : tables_1[i1]? = some (Jvm.Cond.methodLink own index y)) (q2 : tables_1[i2]? = some (Jvm.Cond.instanceMethod y)) (q3 : tables_1[i3]? = some (Jvm.Cond.code y bytes maxL none)) (q4 : tables_1[i4]? = some (Jvm.Cond.initialized y.cls)) (hdec : (y.name = "<init>" ∧ y.cls ≠ "java/lang/invoke/MethodHandle" ∧ y.cls ≠ "java/lang/invoke/VarHandle") ∧ rm.frames + 1 ≤ R.frames ∧ W + (maxL + 11) + rm.locals ≤ R.locals ∧ cells + rm.cells ≤ R.cells ∧ slots + rm.slots ≤ R.slots) (hW : (rest.map fun v => v.category).sum ≤ W) (hsz : Ls.size = nl) (hlen : argsL.length = sig.parameters.length) (hst : stk = argsL.reverse ++ .ref b :: rest) : Goes p e below E (T.setTop (mkF m pc Ls stk)) :=
 qC X hx hZ hown (hw i1 q1) (hw i2 q2) (hw i3 q3) (hw i4 q4) hM eT hdec hW (hsz.trans hml.symm) hd hp hlen hst rfl k
theorem zV (X : Stand p l e R s m args below meth c T locs cells slots) (hx : p.tables.exec = Jvm.exec) (hZ : Z.Warmed39 s.vm) (hown : s.vm.findClass own = some m.cls) (hw : HW a0 Z) (i1 : Nat) (q1 : tables_1[i1]? = some (Jvm.Cond.methodLink own index y)) (i2 i3 i4 i5 i6 : Nat) (hM : QMg l Z y bytes maxL ret [] rm (.ref b :: argsL).toArray h Q) (eT : T.heap = h) (E' : Exa Z h b C) (hml : c.maxLocals = nl) (hd : decode c.code pc = .ok (.invokevirtual index, 3)) (hp : parseMethodDescriptor y.desc = some sig) (k : ∀ T' L v, Stand p l e R s m args below meth c T' (locs ++ L) (cells + rm.cells) (slots + rm.slots) → Q v T'.heap L → Goes p e below E (T'.setTop (mkF m (pc + 3) Ls (v.toList ++ rest)))) (q2 : tables_1[i2]? = some (Jvm.Cond.declares y)) (q3 : tables_1[i3]? = some (Jvm.Cond.selects C y y)) (q4 : tables_1[i4]? = some (Jvm.Cond.instanceMethod y)) (q5 : tables_1[i5]? = some (Jvm.Cond.code y bytes maxL ret)) (q6 : tables_1[i6]? = some (Jvm.Cond.initialized y.cls)) (hdec : (y.cls ≠ "java/lang/invoke/MethodHandle" ∧ y.cls ≠ "java/lang/invoke/VarHandle") ∧ rm.frames + 1 ≤ R.frames ∧ W + (maxL + 11) + rm.locals ≤ R.locals ∧ cells + rm.cells ≤ R.cells ∧ slots + rm.slots ≤ R.slots) (hW : (rest.map fun v => v.category).sum ≤ W) (hsz : Ls.size = nl) (hlen : argsL.length = sig.parameters.length) (hst : stk = argsL.reverse ++ .ref b :: rest) : Goes p e below E (T.setTop (mkF m pc Ls stk)) :=
 qV X hx hZ hown (hw i1 q1) (hw i2 q2) (notFace_of_selects (args := #[]) (mvT hZ (hw i3 q3))) (hw i3 q3) (hw i4 q4) (hw i5 q5) (hw i6 q6) hM eT E' hdec hW (hsz.trans hml.symm) hd hp hlen hst rfl k
theorem zI (X : Stand p l e R s m args below meth c T locs cells slots) (hx : p.tables.exec = Jvm.exec) (hZ : Z.Warmed39 s.vm) (hown : s.vm.findClass own = some m.cls) (hw : HW a0 Z) {count : Nat} (i1 : Nat) (q1 : tables_1[i1]? = some (Jvm.Cond.methodLink own index y)) (i2 : Nat) (wf : (Jvm.Cond.interfaceMethod y.cls y.cls y.name y.desc).before #[] s = true) (i4 i5 i6 i7 i8 i9 i10 : Nat) (hM : QMg l Z z bytes maxL ret [] rm (.ref b :: argsL).toArray h Q) (eT : T.heap = h) (E' : Exa Z h b C) (hml : c.maxLocals = nl) (hd : decode c.code pc = .ok (.invokeinterface index count, 5)) (hp : parseMethodDescriptor y.desc = some sig) (k : ∀ T' L v, Stand p l e R s m args below meth c T' (locs ++ L) (cells + rm.cells) (slots + rm.slots) → Q v T'.heap L → Goes p e below E (T'.setTop (mkF m (pc + 5) Ls (v.toList ++ rest)))) (q2 : tables_1[i2]? = some (Jvm.Cond.declares y)) (q4 : tables_1[i4]? = some (Jvm.Cond.selects C y z)) (q5 : tables_1[i5]? = some (Jvm.Cond.instanceMethod z)) (q6 : tables_1[i6]? = some (Jvm.Cond.publicMethod z)) (q7 : tables_1[i7]? = some (Jvm.Cond.unhidden C y.name y.desc)) (q8 : tables_1[i8]? = some (Jvm.Cond.castable C y.cls)) (q9 : tables_1[i9]? = some (Jvm.Cond.code z bytes maxL ret)) (q10 : tables_1[i10]? = some (Jvm.Cond.initialized z.cls)) (hdec : (y.cls ≠ "java/lang/invoke/MethodHandle" ∧ y.cls ≠ "java/lang/invoke/VarHandle") ∧ rm.frames + 1 ≤ R.frames ∧ W + (maxL + 11) + rm.locals ≤ R.locals ∧ cells + rm.cells ≤ R.cells ∧ slots + rm.slots ≤ R.slots) (hW : (rest.map fun v => v.category).sum ≤ W) (hsz : Ls.size = nl) (hlen : argsL.length = sig.parameters.length) (hst : stk = argsL.reverse ++ .ref b :: rest) : Goes p e below E (T.setTop (mkF m pc Ls stk)) :=
 qI X hx hZ hown (hw i1 q1) (hw i2 q2) wf (hw i4 q4) (hw i5 q5) (hw i6 q6) (hw i7 q7) (hw i8 q8) (hw i9 q9) (hw i10 q10) hM eT E' hdec hW (hsz.trans hml.symm) hd hp hlen hst rfl k
variable {o : Int} {x x' : Int32} {pc' : Nat} {cd : ClassFile.Cond} {t : FieldType} {w : Value} {cs ss : Nat}
theorem gY (X : Stand p l e R s m args below meth c T locs cells slots) (hx : p.tables.exec = Jvm.exec) (hd : decode c.code pc = .ok (.if_icmp cd o, 3)) (hc : if_icmp.holds cd x x' = true) (k : Goes p e below E (T.setTop (mkF m pc' Ls sk))) (ho : 0 ≤ (pc : Int) + o) (hp : ((pc : Int) + o).toNat = pc') : Goes p e below E (T.setTop (mkF m pc Ls (.int x' :: .int x :: sk))) := gicmpYes X hx hd hc ho hp k
theorem gT (X : Stand p l e R s m args below meth c T locs cells slots) (hx : p.tables.exec = Jvm.exec) (hd : decode c.code pc = .ok (.ifCond cd o, 3)) (hc : ifCond.holds cd x = true) (k : Goes p e below E (T.setTop (mkF m pc' Ls sk))) (ho : 0 ≤ (pc : Int) + o) (hp : ((pc : Int) + o).toNat = pc') : Goes p e below E (T.setTop (mkF m pc Ls (.int x :: sk))) := gifYes X hx hd hc ho hp k
theorem gG (X : Stand p l e R s m args below meth c T locs cells slots) (hx : p.tables.exec = Jvm.exec) (hd : decode c.code pc = .ok (.goto o, 3)) (k : Goes p e below E (T.setTop (mkF m pc' Ls sk))) (ho : 0 ≤ (pc : Int) + o) (hp : ((pc : Int) + o).toNat = pc') : Goes p e below E (T.setTop (mkF m pc Ls sk)) := ggoto X hx hd ho hp k
theorem rI (X : Stand p l e R s m args below meth c T locs cells slots) (hx : p.tables.exec = Jvm.exec) (hret : meth.sig.returnType = some .int) (hd : decode c.code pc = .ok (.ireturn, 1)) (hlk : meth.locks = false) (hq : Q (some (.int x)) T.heap locs) (hc : cells ≤ cs) (hs : slots ≤ ss) : Goes p e below (EN s Q cs ss) (T.setTop (mkF m pc Ls (.int x :: sk))) := Goes.retI X hx hret hd (lvN X hlk (vsome hret) hq hc hs)
theorem rV (X : Stand p l e R s m args below meth c T locs cells slots) (hx : p.tables.exec = Jvm.exec) (hret : meth.sig.returnType = none) (hd : decode c.code pc = .ok (.return_, 1)) (hlk : meth.locks = false) (hq : Q none T.heap locs) (hc : cells ≤ cs) (hs : slots ≤ ss) : Goes p e below (EN s Q cs ss) (T.setTop (mkF m pc Ls [])) := Goes.retV X hx hret hd (lvN X hlk (fun _ => rfl) hq hc hs)
theorem rA (X : Stand p l e R s m args below meth c T locs cells slots) (hx : p.tables.exec = Jvm.exec) (hret : meth.sig.returnType = some t) (hd : decode c.code pc = .ok (.areturn, 1)) (hlk : meth.locks = false) (hq : Q (some w) T.heap locs) (ht : t.isReference = true) (hn : narrow t w = w) (hw : w.isRef = true) (hc : cells ≤ cs) (hs : slots ≤ ss) : Goes p e below (EN s Q cs ss) (T.setTop (mkF m pc Ls (w :: sk))) := Goes.retA X hx hret ht hn hw hd (lvN X hlk (vsome hret) hq hc hs)
theorem rN (X : Stand p l e R s m args below meth c T locs cells slots) (hx : p.tables.exec = Jvm.exec) (hret : meth.sig.returnType = some t) (hd : decode c.code pc = .ok (.ireturn, 1)) (hn : nar t x = x) (hlk : meth.locks = false) (hq : Q (some (.int x)) T.heap locs) (ht : t = .boolean ∨ t = .byte ∨ t = .char ∨ t = .short) (hc : cells ≤ cs) (hs : slots ≤ ss) : Goes p e below (EN s Q cs ss) (T.setTop (mkF m pc Ls (.int x :: sk))) := Goes.retN X hx hret ht hd hn (lvN X hlk (vsome hret) hq hc hs)
end OwnCalls
variable (l : Launch) {Z : State} {a0 : Array Value} {ws : List Jvm.Cond} {h0 : Heap} {n0 : Nat}
abbrev mN0 : MethodName := (⟨"java/lang/String", "coder", "()B"⟩ : MethodName)
abbrev mN1 : MethodName := (⟨"java/lang/String", "length", "()I"⟩ : MethodName)
abbrev mN2 : MethodName := (⟨"java/lang/String", "isEmpty", "()Z"⟩ : MethodName)
abbrev mN3 : MethodName := (⟨"java/lang/String", "isLatin1", "()Z"⟩ : MethodName)
abbrev mN4 : MethodName := (⟨"jdk/internal/util/Preconditions", "checkIndex", "(IILjava/util/function/BiFunction;)I"⟩ : MethodName)
abbrev mN5 : MethodName := (⟨"java/lang/String", "checkIndex", "(II)V"⟩ : MethodName)
abbrev mN6 : MethodName := (⟨"jdk/internal/util/Preconditions", "checkFromToIndex", "(IIILjava/util/function/BiFunction;)I"⟩ : MethodName)
abbrev mN7 : MethodName := (⟨"java/lang/String", "checkBoundsBeginEnd", "(III)V"⟩ : MethodName)
abbrev mN8 : MethodName := (⟨"java/lang/StringUTF16", "length", "([B)I"⟩ : MethodName)
abbrev mN9 : MethodName := (⟨"java/lang/StringUTF16", "checkIndex", "(I[B)V"⟩ : MethodName)
abbrev mN10 : MethodName := (⟨"java/lang/StringUTF16", "getChar", "([BI)C"⟩ : MethodName)
abbrev mN11 : MethodName := (⟨"java/lang/StringUTF16", "charAt", "([BI)C"⟩ : MethodName)
abbrev mN12 : MethodName := (⟨"java/lang/StringLatin1", "charAt", "([BI)C"⟩ : MethodName)
abbrev mN13 : MethodName := (⟨"java/lang/String", "charAt", "(I)C"⟩ : MethodName)
abbrev mN14 : MethodName := (⟨"java/lang/StringUTF16", "compress", "([CI[BII)I"⟩ : MethodName)
abbrev mN15 : MethodName := (⟨"java/lang/StringUTF16", "newBytesLength", "(I)I"⟩ : MethodName)
abbrev mN16 : MethodName := (⟨"java/lang/StringUTF16", "newBytesFor", "(I)[B"⟩ : MethodName)
abbrev mN17 : MethodName := (⟨"java/lang/StringUTF16", "putChar", "([BII)V"⟩ : MethodName)
abbrev mN18 : MethodName := (⟨"java/lang/StringUTF16", "toBytes", "([CII)[B"⟩ : MethodName)
abbrev mN19 : MethodName := (⟨"java/lang/StringUTF16", "compress", "([CII)[B"⟩ : MethodName)
abbrev mN20 : MethodName := (⟨"java/lang/StringUTF16", "coderFromArrayLen", "([BI)B"⟩ : MethodName)
abbrev mN21 : MethodName := (⟨"java/lang/String", "<init>", "([CIILjava/lang/Void;)V"⟩ : MethodName)
abbrev mN22 : MethodName := (⟨"java/util/Arrays", "checkLength", "(II)V"⟩ : MethodName)
abbrev mN23 : MethodName := (⟨"java/lang/Math", "min", "(II)I"⟩ : MethodName)
abbrev mN24 : MethodName := (⟨"java/util/Arrays", "copyOfRangeByte", "([BII)[B"⟩ : MethodName)
abbrev mN25 : MethodName := (⟨"java/util/Arrays", "copyOfRange", "([BII)[B"⟩ : MethodName)
abbrev mN26 : MethodName := (⟨"java/lang/String", "<init>", "([BB)V"⟩ : MethodName)
abbrev mN27 : MethodName := (⟨"java/lang/StringLatin1", "newString", "([BII)Ljava/lang/String;"⟩ : MethodName)
abbrev mN28 : MethodName := (⟨"jdk/internal/util/Preconditions", "checkFromIndexSize", "(IIILjava/util/function/BiFunction;)I"⟩ : MethodName)
abbrev mN29 : MethodName := (⟨"java/lang/String", "checkBoundsOffCount", "(III)I"⟩ : MethodName)
abbrev mN30 : MethodName := (⟨"java/lang/StringUTF16", "checkBoundsOffCount", "(II[B)V"⟩ : MethodName)
abbrev mN31 : MethodName := (⟨"java/lang/StringUTF16", "compress", "([BI[BII)I"⟩ : MethodName)
abbrev mN32 : MethodName := (⟨"java/lang/StringUTF16", "compress", "([BII)[B"⟩ : MethodName)
abbrev mN33 : MethodName := (⟨"java/lang/StringUTF16", "newString", "([BII)Ljava/lang/String;"⟩ : MethodName)
abbrev mN34 : MethodName := (⟨"java/lang/String", "substring", "(II)Ljava/lang/String;"⟩ : MethodName)
abbrev mN35 : MethodName := (⟨"java/lang/StringUTF16", "trim", "([B)Ljava/lang/String;"⟩ : MethodName)
abbrev mN36 : MethodName := (⟨"java/lang/StringLatin1", "trim", "([B)Ljava/lang/String;"⟩ : MethodName)
abbrev mN37 : MethodName := (⟨"java/lang/String", "trim", "()Ljava/lang/String;"⟩ : MethodName)
abbrev mN38 : MethodName := (⟨"java/lang/String", "<init>", "([C)V"⟩ : MethodName)
abbrev mN39 : MethodName := (⟨"java/util/AbstractCollection", "<init>", "()V"⟩ : MethodName)
abbrev mN40 : MethodName := (⟨"java/util/AbstractList", "<init>", "()V"⟩ : MethodName)
abbrev mN41 : MethodName := (⟨"java/util/ArrayList", "<init>", "()V"⟩ : MethodName)
abbrev mN42 : MethodName := (⟨"java/lang/Math", "max", "(II)I"⟩ : MethodName)
abbrev mN43 : MethodName := (⟨"java/util/ArrayList", "grow", "(I)[Ljava/lang/Object;"⟩ : MethodName)
abbrev mN44 : MethodName := (⟨"java/util/ArrayList", "grow", "()[Ljava/lang/Object;"⟩ : MethodName)
abbrev mN45 : MethodName := (⟨"java/util/ArrayList", "add", "(Ljava/lang/Object;[Ljava/lang/Object;I)V"⟩ : MethodName)
abbrev mN46 : MethodName := (⟨"java/util/ArrayList", "add", "(Ljava/lang/Object;)Z"⟩ : MethodName)
abbrev mN47 : MethodName := (⟨"java/util/ArrayList", "isEmpty", "()Z"⟩ : MethodName)
abbrev mN48 : MethodName := (⟨"java/util/Arrays", "copyOf", "([Ljava/lang/Object;ILjava/lang/Class;)[Ljava/lang/Object;"⟩ : MethodName)
abbrev mN49 : MethodName := (⟨"java/util/Arrays", "copyOf", "([Ljava/lang/Object;I)[Ljava/lang/Object;"⟩ : MethodName)
abbrev mN50 : MethodName := (⟨"java/util/ArrayList", "toArray", "()[Ljava/lang/Object;"⟩ : MethodName)
abbrev mN51 : MethodName := (⟨"java/util/List", "of", "()Ljava/util/List;"⟩ : MethodName)
abbrev mN52 : MethodName := (⟨"java/util/ImmutableCollections$AbstractImmutableCollection", "<init>", "()V"⟩ : MethodName)
abbrev mN53 : MethodName := (⟨"java/util/ImmutableCollections$AbstractImmutableList", "<init>", "()V"⟩ : MethodName)
abbrev mN54 : MethodName := (⟨"java/util/Objects", "requireNonNull", "(Ljava/lang/Object;)Ljava/lang/Object;"⟩ : MethodName)
abbrev mN55 : MethodName := (⟨"java/util/ImmutableCollections$List12", "<init>", "(Ljava/lang/Object;)V"⟩ : MethodName)
abbrev mN56 : MethodName := (⟨"java/util/ImmutableCollections$List12", "<init>", "(Ljava/lang/Object;Ljava/lang/Object;)V"⟩ : MethodName)
abbrev mN57 : MethodName := (⟨"java/util/List", "of", "([Ljava/lang/Object;)Ljava/util/List;"⟩ : MethodName)
abbrev mN58 : MethodName := (⟨"java/util/ImmutableCollections", "listCopy", "(Ljava/util/Collection;)Ljava/util/List;"⟩ : MethodName)
abbrev mN59 : MethodName := (⟨"java/util/List", "copyOf", "(Ljava/util/Collection;)Ljava/util/List;"⟩ : MethodName)
abbrev mN60 : MethodName := (⟨"com/example/engarce/engarce/NameList", "isSeparator", "(C)Z"⟩ : MethodName)
abbrev mN61 : MethodName := (⟨"com/example/engarce/engarce/NameList", "names", "(Ljava/lang/String;)Ljava/util/List;"⟩ : MethodName)
abbrev mN62 : MethodName := (⟨"com/example/engarce/engarce/NameList", "split", "(Ljava/lang/String;)Ljava/util/List;"⟩ : MethodName)
abbrev mN63 : MethodName := (⟨"com/example/engarce/engarce/NameListSplitPinLaw", "pick", "(I)C"⟩ : MethodName)
abbrev mN64 : MethodName := (⟨"com/example/engarce/engarce/NameListSplitPinLaw", "isSep", "(C)Z"⟩ : MethodName)
abbrev mN65 : MethodName := (⟨"com/example/engarce/engarce/NameListSplitPinLaw", "firstKeep", "([CII)I"⟩ : MethodName)
abbrev mN66 : MethodName := (⟨"com/example/engarce/engarce/NameListSplitPinLaw", "lastKeep", "([CII)I"⟩ : MethodName)
abbrev mN67 : MethodName := (⟨"com/example/engarce/engarce/NameListSplitPinLaw", "eqSeg", "(Ljava/lang/String;[CII)Z"⟩ : MethodName)
abbrev mN68 : MethodName := (⟨"java/util/ImmutableCollections$List12", "size", "()I"⟩ : MethodName)
abbrev mN69 : MethodName := (⟨"java/util/ImmutableCollections$List12", "get", "(I)Ljava/lang/Object;"⟩ : MethodName)
abbrev mN70 : MethodName := (⟨"java/util/ImmutableCollections$ListN", "size", "()I"⟩ : MethodName)
abbrev mN71 : MethodName := (⟨"com/example/engarce/engarce/NameListSplitPinLaw", "step", "(Ljava/util/List;[CII[I)V"⟩ : MethodName)
def ELs : List (String × Nat) := [("java/lang/String", 7), ("java/lang/StringLatin1", 151), ("java/lang/StringUTF16", 295)]
theorem hELs {Z : State} {a0 : Array Value} (hw : HW a0 Z) : EW Z a0 ELs := EW.cons (hw 19 rfl) (by decide) (EW.cons (hw 343 rfl) (by decide) (EW.cons (hw 351 rfl) (by decide) (EW.nil)))
abbrev iN (k : Nat) : Int32 := Int32.ofNat k
theorem iN_int {a : Nat} (h : a ≤ 1000) : (iN a).toInt = a := Int32.toInt_ofNat_of_lt (by omega)
theorem iN_lt {a b : Nat} (ha : a ≤ 1000) (hb : b ≤ 1000) : iN a < iN b ↔ a < b := by rw [Int32.lt_iff_toInt_lt, iN_int ha, iN_int hb]; omega
theorem iN_eq {a b : Nat} (ha : a ≤ 1000) (hb : b ≤ 1000) : iN a = iN b ↔ a = b := ⟨fun e => by have := congrArg Int32.toInt e; rw [iN_int ha, iN_int hb] at this; omega, fun e => by rw [e]⟩
theorem ylN (a b : Nat) (h : a < b) (ha : a ≤ 1000) (hb : b ≤ 1000) : iN a < iN b := (iN_lt ha hb).mpr h
theorem nlN (a b : Nat) (h : ¬ a < b) (ha : a ≤ 1000) (hb : b ≤ 1000) : ¬ iN a < iN b := fun q => absurd ((iN_lt ha hb).mp q) h
theorem yeN (a b : Nat) (h : a = b) (ha : a ≤ 1000) (hb : b ≤ 1000) : iN a = iN b := (iN_eq ha hb).mpr h
theorem neN (a b : Nat) (h : ¬ a = b) (ha : a ≤ 1000) (hb : b ≤ 1000) : ¬ iN a = iN b := fun q => absurd ((iN_eq ha hb).mp q) h
theorem iN_add (a b : Nat) : iN a + iN b = iN (a + b) := (Int32.ofNat_add a b).symm
theorem iN_sub {a b : Nat} (h : b ≤ a) : iN a - iN b = iN (a - b) := by
 have e : iN (a - b) + iN b = iN a := by rw [iN_add, Nat.sub_add_cancel h]
 rw [← e]
 exact Int32.add_sub_cancel _ _
theorem iN_dec {a : Nat} (h : 1 ≤ a) : iN a + (-1 : Int32) = iN (a - 1) := by
 rw [← iN_sub h]
 exact (Int32.sub_eq_add_neg _ _).symm
theorem iN_nat {a : Nat} (h : a ≤ 1000) : (iN a).toNatClampNeg = a := by
 show (iN a).toInt.toNat = a
 rw [iN_int h]; rfl
theorem iN_nn {a : Nat} (h : a ≤ 1000) : ¬ iN a < (0 : Int32) := fun q => by
 have := (iN_lt (a := a) (b := 0) h (by omega)).mp q
 omega
theorem nnN (a : Nat) (ha : a ≤ 1000) : ¬ iN a < (0 : Int32) := iN_nn ha
theorem own_shl : ∀ a : Fin 17, iN a.val <<< ((1 : Int32) &&& 31) = iN (2 * a.val) := by decide +kernel
theorem own_shr : ∀ a : Fin 17, iN (2 * a.val) >>> ((1 : Int32) &&& 31) = iN a.val := by decide +kernel
theorem own_sh0 : ∀ a : Fin 17, iN a.val >>> ((0 : Int32) &&& 31) = iN a.val := by decide +kernel
theorem iN_shl {a : Nat} (h : a ≤ 16) : iN a <<< ((1 : Int32) &&& 31) = iN (2 * a) := own_shl ⟨a, by omega⟩
theorem iN_shr {a : Nat} (h : a ≤ 16) : iN (2 * a) >>> ((1 : Int32) &&& 31) = iN a := own_shr ⟨a, by omega⟩
theorem iN_sh0 {a : Nat} (h : a ≤ 16) : iN a >>> ((0 : Int32) &&& 31) = iN a := own_sh0 ⟨a, by omega⟩
def rg (n : Nat) (f : Nat → Value) : List Value := (List.range n).map f
theorem rg_len (n : Nat) (f : Nat → Value) : (rg n f).length = n := by simp [rg]
theorem rg_get {n i : Nat} (f : Nat → Value) (dv : Value) (h : i < n) : (rg n f).getD i dv = f i := by simp [rg, List.getD_eq_getElem?_getD, List.getElem?_map, List.getElem?_range h]
theorem rg_out {n i : Nat} (f : Nat → Value) (dv : Value) (h : n ≤ i) : (rg n f).getD i dv = dv := by
 rw [List.getD_eq_getElem?_getD, List.getElem?_eq_none (by rw [rg_len]; exact h)]; rfl
theorem rg_set {n k : Nat} (f : Nat → Value) (v : Value) : (rg n f).set k v = rg n (fun i => if i = k then v else f i) := by
 apply List.ext_getElem?
 intro i
 by_cases h : i < n
 ·rw [List.getElem?_set]
  by_cases e : k = i
  ·subst e; simp [rg, h]
  ·have e' : ¬ i = k := fun q => e q.symm
   simp [rg, e, e', List.getElem?_range h]
 ·rw [List.getElem?_eq_none (by rw [List.length_set, rg_len]; omega), List.getElem?_eq_none (by rw [rg_len]; omega)]
theorem rg_ext {n : Nat} {f g : Nat → Value} (h : ∀ i, i < n → f i = g i) : rg n f = rg n g := List.map_congr_left (fun i hi => h i (List.mem_range.mp hi))
theorem rg_pad {Z : State} {h : Heap} {a : Addr} {k : ClassId} {ty : FieldType} {z : Int32} {dv : Value} (F : Arv Z h a k ty z [] dv) (n : Nat) : Arv Z h a k ty z (rg n (fun _ => dv)) dv := F.pad fun i => by
 by_cases q : i < n
 ·rw [rg_get _ _ q]; rfl
 ·rw [rg_out _ _ (by omega)]; rfl
theorem rg_to {Z : State} {h : Heap} {a : Addr} {k : ClassId} {ty : FieldType} {z : Int32} {dv : Value} {n : Nat} {f g : Nat → Value} (F : Arv Z h a k ty z (rg n f) dv) (q : ∀ i, i < n → f i = g i) : Arv Z h a k ty z (rg n g) dv := by rw [← rg_ext q]; exact F
def bch (c : Int32) : Int32 := nar .byte (c).toInt8.toInt32
def b0_ (c : Int32) : Int32 := nar .byte (c >>> ((0 : Int32) &&& 31)).toInt8.toInt32
def b8_ (c : Int32) : Int32 := nar .byte (c >>> ((8 : Int32) &&& 31)).toInt8.toInt32
abbrev cCh (ch : Int32) : Int32 := (ch &&& (255 : Int32)).toUInt32.toUInt16.toUInt32.toInt32
theorem own_l256 : ∀ k : Fin 256, cCh (bch (Int32.ofNat k.val)) = Int32.ofNat k.val ∧ (bch (Int32.ofNat k.val) &&& (255 : Int32)) = Int32.ofNat k.val := by decide +kernel
theorem own_lat {c : Int32} (h : 0 ≤ c.toInt ∧ c.toInt < 256) : cCh (bch c) = c ∧ (bch c &&& (255 : Int32)) = c := by
 have e : c = Int32.ofNat c.toInt.toNat := by
  apply Int32.toInt_inj.mp
  rw [Int32.toInt_ofNat_of_lt (by omega)]; omega
 have q := own_l256 ⟨c.toInt.toNat, by omega⟩
 rw [e]; exact q
def ub (c : Nat → Int32) (j : Nat) : Value := .int (if j % 2 = 0 then b0_ (c (j / 2)) else b8_ (c (j / 2)))
def cd : Bool → Int32 | false => 0 | true => 1
def wd : Bool → Nat → Nat | false, n => n | true, n => 2 * n
def bl : Bool → (Nat → Int32) → Nat → Value | false, c => fun i => .int (bch (c i)) | true, c => ub c
def lim : Bool → Int | false => 256 | true => 65536
theorem wd_le {u : Bool} {n : Nat} (h : n ≤ 4) : wd u n ≤ 8 := by cases u <;> simp only [wd] <;> omega
theorem ub0 (c : Nat → Int32) (i : Nat) : ub c (2 * i) = .int (b0_ (c i)) := by simp [ub]
theorem ub1 (c : Nat → Int32) (i : Nat) : ub c (2 * i + 1) = .int (b8_ (c i)) := by
 have e : (2 * i + 1) / 2 = i := by omega
 have e' : (2 * i + 1) % 2 = 1 := by omega
 simp [ub, e, e']
theorem ub_sh (c : Nat → Int32) (a j : Nat) : ub c (2 * a + j) = ub (fun i => c (a + i)) j := by
 have e : (2 * a + j) / 2 = a + j / 2 := by omega
 have e' : (2 * a + j) % 2 = j % 2 := by omega
 simp only [ub, e, e']
def os : Option Int32 → Slot | none => .unset | some x => iv x
def gC (lo hi : Int32) : Int32 := (((lo &&& 255) <<< ((0 : Int32) &&& 31)) ||| ((hi &&& 255) <<< ((8 : Int32) &&& 31))).toUInt32.toUInt16.toUInt32.toInt32
theorem own_rng (x : Int32) : 0 ≤ (nar .char x).toInt ∧ (nar .char x).toInt < 65536 := (c_i2c x).2
theorem own_gc {c : Int32} (h : 0 ≤ c.toInt ∧ c.toInt < 65536) : gC (nar .byte (c >>> ((0 : Int32) &&& 31)).toInt8.toInt32) (nar .byte (c >>> ((8 : Int32) &&& 31)).toInt8.toInt32) = c := by
 have a1 := c_ishr c 0 0 (by decide)
 have a2 := c_ishr c 8 8 (by decide)
 have b1 := c_i2b (c >>> ((0 : Int32) &&& 31))
 have b2 := c_i2b (c >>> ((8 : Int32) &&& 31))
 have d1 := c_i2b (c >>> ((0 : Int32) &&& 31)).toInt8.toInt32
 have d2 := c_i2b (c >>> ((8 : Int32) &&& 31)).toInt8.toInt32
 have m1 := c_mask (nar .byte (c >>> ((0 : Int32) &&& 31)).toInt8.toInt32) 255 8 (by decide) (by decide)
 have m2 := c_mask (nar .byte (c >>> ((8 : Int32) &&& 31)).toInt8.toInt32) 255 8 (by decide) (by decide)
 have e1 : nar .byte (c >>> ((0 : Int32) &&& 31)).toInt8.toInt32 = (c >>> ((0 : Int32) &&& 31)).toInt8.toInt32.toInt8.toInt32 := rfl
 have e2 : nar .byte (c >>> ((8 : Int32) &&& 31)).toInt8.toInt32 = (c >>> ((8 : Int32) &&& 31)).toInt8.toInt32.toInt8.toInt32 := rfl
 have s1 := c_ishl (nar .byte (c >>> ((0 : Int32) &&& 31)).toInt8.toInt32 &&& 255) 0 0 (by decide)
 have s2 := c_ishl (nar .byte (c >>> ((8 : Int32) &&& 31)).toInt8.toInt32 &&& 255) 8 8 (by decide)
 rw [show ((2 ^ 0 : Nat) : Int) = 1 by decide] at a1 s1
 rw [show ((2 ^ 8 : Nat) : Int) = 256 by decide] at a2 s2 m1 m2
 rw [← e1] at d1; rw [← e2] at d2
 unfold gC
 generalize nar .byte (c >>> ((0 : Int32) &&& 31)).toInt8.toInt32 = u1 at *
 generalize nar .byte (c >>> ((8 : Int32) &&& 31)).toInt8.toInt32 = u2 at *
 generalize (c >>> ((0 : Int32) &&& 31)).toInt8.toInt32 = w1 at *
 generalize (c >>> ((8 : Int32) &&& 31)).toInt8.toInt32 = w2 at *
 generalize c >>> ((0 : Int32) &&& 31) = v1 at *
 generalize c >>> ((8 : Int32) &&& 31) = v2 at *
 generalize (u1 &&& 255) <<< ((0 : Int32) &&& 31) = x1 at *
 generalize (u2 &&& 255) <<< ((8 : Int32) &&& 31) = x2 at *
 have r1 := rng32 x1; have r2 := rng32 x2
 have q1 : x1.toInt = v1.toInt % 256 := by omega
 have q2 : x2.toInt = 256 * (v2.toInt % 256) := by omega
 have o := c_or' x1 x2 8 (by decide) 256 (by decide) (by omega) (by omega) (by omega)
 have o3 := c_i2c (x1 ||| x2)
 have r3 := rng32 (x1 ||| x2)
 apply Int32.toInt_inj.mp
 omega
theorem own_gb {c : Int32} (h : 0 ≤ c.toInt ∧ c.toInt < 65536) : gC (b0_ c) (b8_ c) = c := own_gc h
theorem own_idem (x : Int32) : nar .char x.toUInt32.toUInt16.toUInt32.toInt32 = x.toUInt32.toUInt16.toUInt32.toInt32 := by
 have a := c_i2c x
 have b := c_i2c x.toUInt32.toUInt16.toUInt32.toInt32
 apply Int32.toInt_inj.mp
 show (x.toUInt32.toUInt16.toUInt32.toInt32).toUInt32.toUInt16.toUInt32.toInt32.toInt = _
 omega
theorem own_nc {c : Int32} (h : 0 ≤ c.toInt ∧ c.toInt < 65536) : nar .char c = c := by
 have a := c_i2c c
 apply Int32.toInt_inj.mp
 show (c.toUInt32.toUInt16.toUInt32.toInt32).toInt = c.toInt
 omega
def Sb (Z : State) (h : Heap) (b bb : Addr) (kB : ClassId) (u : Bool) (n : Nat) (c : Nat → Int32) : Prop := X_0 Z h b ∧ F_0 Z h b (.ref bb) ∧ F_1 Z h b (.int (cd u)) ∧ Arv Z h bb kB .byte (iN (wd u n)) (rg (wd u n) (bl u c)) (.int 0) ∧ n ≤ 4 ∧ ∀ i, i < n → 0 ≤ (c i).toInt ∧ (c i).toInt < lim u
theorem Sb.keep {Z : State} {h h' : Heap} {ws : List Addr} {b bb : Addr} {kB : ClassId} {u : Bool} {n : Nat} {c : Nat → Int32} (B : Sb Z h b bb kB u n c) (K : Keep h h' ws) (n_ : ∀ x ∈ [b, bb], x ∉ ws) : Sb Z h' b bb kB u n c := by
 obtain ⟨q0, q1, q2, q3, q4⟩ := B
 exact ⟨q0.keep K, q1.keep K (n_ _ (mI 0 rfl)), q2.keep K (n_ _ (mI 0 rfl)), q3.keep K (n_ _ (mI 1 rfl)), q4⟩
theorem Sb.lt {Z : State} {h : Heap} {b bb : Addr} {kB : ClassId} {u : Bool} {n : Nat} {c : Nat → Int32} (B : Sb Z h b bb kB u n c) (i : Nat) {x : Addr} (q : [b, bb][i]? = some x) : x < h.size := by
 obtain ⟨q0, q1, q2, q3, q4⟩ := B
 exact bL (ltS q0.lt (ltS q3.lt lt0)) i q
theorem wd_shr (u : Bool) {n : Nat} (h : n ≤ 4) : iN (wd u n) >>> ((cd u) &&& 31) = iN n := by
 cases u
 ·exact iN_sh0 (a := n) (by omega)
 ·exact iN_shr (a := n) (by omega)
theorem wd_zero {u : Bool} {n : Nat} (h : n ≤ 4) : iN (wd u n) = (0 : Int32) ↔ n = 0 := by
 cases u
 ·exact iN_eq (a := n) (b := 0) (by omega) (by omega)
 ·exact (iN_eq (a := 2 * n) (b := 0) (by omega) (by omega)).trans ⟨fun q => by omega, fun q => by omega⟩
theorem rg_up {Z : State} {h : Heap} {a : Addr} {k : ClassId} {ty : FieldType} {z : Int32} {dv v : Value} {n j : Nat} {f g : Nat → Value} (q : ∀ i, i < n → (if i = j then v else f i) = g i) (F : Arv Z h a k ty z ((rg n f).set j v) dv) : Arv Z h a k ty z (rg n g) dv := by
 rw [rg_set] at F
 exact rg_to F q
theorem cd_nar (u : Bool) : nar .byte (cd u) = cd u := by cases u <;> decide
theorem Dj42_152 : ∀ q ∈ ([(0, .getstatic 38, 3), (3, .ifCond .eq 10, 3), (6, .aload_n 0, 1), (7, .getfield 15, 3), (10, .goto 4, 3), (14, .ireturn, 1)] : List (Nat × Instr × Nat)), decode jdk_42_method_152_code q.1 = .ok (q.2.1, q.2.2) := by decide +kernel
theorem pn0 : plainName "java/lang/String" = true := by first | (simp [plainName, overriddenIn]; done) | decide +kernel
def QCo (Z : State) (rb : Addr) (u : Bool) (cs : Int32) (h0 : Heap) (n0 : Nat) (v : Option Value) (h : Heap) (L : List Loc) : Prop := v = some (.int (cd u)) ∧ Fr n0 L ∧ h = h0
theorem rmCo (hw : HW a0 Z) (rb : Addr) (u : Bool) (cs : Int32) (Z0 : n0 ≤ h0.size) (Scs : S_0 Z h0 (.int cs)) (hcs : ¬ cs = (0 : Int32)) (Cb : F_1 Z h0 rb (.int (cd u))) :
  QMg l Z mN0 jdk_42_method_152_code 1 (some .byte) ws (rM 0 0 0 0) #[(.ref rb)] h0 (QCo Z rb u cs h0 n0) := by
 refine bodyN (pfn pn0) (Ls := #[rv rb]) (fun _ => rfl) ?_
 intro p e s m below meth c s₁ hx hby hlk hret hml hown hnm hZ hh X0 e0
 have D := @db _ _ _ hby Dj42_152
 show Gt s₁ m 0 _ []
 obtain ⟨T1, X1, e1, st1⟩ := getS X0 hx hZ hown (host := "") (hw 64 rfl) Via.refl e0 Scs (g := (mkF m 0 #[rv rb] [])) rfl (D 0 rfl)
 refine Goes.st st1 ?_
 refine gifNo X1 hx (D 1 rfl) ((if0 _ _).trans (feq hcs).1) ?_
 refine aN X1 hx (D 2 rfl) ?_ rfl rfl
 refine qGF X1 hx hZ hown (hw 26 rfl) Via.refl e1 Cb (D 3 rfl) ?_
 intro T2 X2 e2
 refine gG X2 hx (pc := 10) (pc' := 14) (D 4 rfl) ?_ (by decide) (by decide)
 refine rN X2 hx hret (D 5 rfl) (cd_nar u) hlk ?_ (by simp) (by decide) (by decide)
 rw [e2]
 exact ⟨rfl, (Fr.nil n0), rfl⟩
theorem Dj42_54 : ∀ q ∈ ([(0, .aload_n 0, 1), (1, .getfield 9, 3), (4, .arraylength, 1), (5, .aload_n 0, 1), (6, .invokevirtual 335, 3), (9, .ishr, 1), (10, .ireturn, 1)] : List (Nat × Instr × Nat)), decode jdk_42_method_54_code q.1 = .ok (q.2.1, q.2.2) := by decide +kernel
theorem pd0 : parseMethodDescriptor "()B" = some ⟨[], some .byte⟩ := by decide +kernel
def QLe (Z : State) (rb bb : Addr) (kb : ClassId) (u : Bool) (n : Nat) (c_ : Nat → Int32) (cs : Int32) (h0 : Heap) (n0 : Nat) (v : Option Value) (h : Heap) (L : List Loc) : Prop := v = some (.int (iN n)) ∧ Fr n0 L ∧ h = h0
theorem rmLe (hw : HW a0 Z) (rb bb : Addr) (kb : ClassId) (u : Bool) (n : Nat) (c_ : Nat → Int32) (cs : Int32) (Z0 : n0 ≤ h0.size) (Scs : S_0 Z h0 (.int cs)) (hcs : ¬ cs = (0 : Int32)) (Bs : Sb Z h0 rb bb kb u n c_) :
  QMg l Z mN1 jdk_42_method_54_code 1 (some .int) ws (rM 1 0 0 13) #[(.ref rb)] h0 (QLe Z rb bb kb u n c_ cs h0 n0) := by
 refine bodyN (pfn pn0) (Ls := #[rv rb]) (fun _ => rfl) ?_
 intro p e s m below meth c s₁ hx hby hlk hret hml hown hnm hZ hh X0 e0
 have D := @db _ _ _ hby Dj42_54
 obtain ⟨Eb, Vb, Cb, Ab, hn4, hok⟩ := id Bs
 show Gt s₁ m 0 _ []
 refine aN X0 hx (D 0 rfl) ?_ rfl rfl
 refine qGF X0 hx hZ hown (hw 25 rfl) Via.refl e0 Vb (D 1 rfl) ?_
 intro T1 X1 e1
 refine qAL X1 hx hZ e1 Ab (D 2 rfl) ?_
 refine aN X1 hx (D 3 rfl) ?_ rfl rfl
 refine zV X1 hx hZ hown hw 126 rfl 127 129 128 130 8 (rmCo l hw rb u cs Z0 Scs hcs Cb) e1 Eb hml (D 4 rfl) pd0 (W := 1) (rest := [(.int (iN (wd u n)))]) ?_ rfl rfl rfl rfl rfl (by decide) (lq rfl) rfl rfl rfl
 rintro T3 L3 v3 X3 ⟨rfl, N3q, eh3⟩
 have N3 := Fr.app (Fr.nil n0) N3q
 show Gt T3 m 9 _ [(.int (cd u)), (.int (iN (wd u n)))]
 refine Goes.st (fun tg kg => XT.ishr X3.here hx rfl (D 5 rfl) rfl kg) ?_
 show Gt T3 m 10 #[rv rb] [(.int ((iN (wd u n)) >>> ((cd u) &&& 31)))]
 rw [wd_shr u hn4]
 show Gt T3 m 10 _ [(.int (iN n))]
 refine rI X3 hx hret (D 6 rfl) hlk ?_ (by decide) (by decide)
 rw [eh3]
 exact ⟨rfl, N3, rfl⟩
theorem Dj42_55 : ∀ q ∈ ([(0, .aload_n 0, 1), (1, .getfield 9, 3), (4, .arraylength, 1), (5, .ifCond .ne 7, 3), (8, .iconst 1, 1), (9, .goto 4, 3), (12, .iconst 0, 1), (13, .ireturn, 1)] : List (Nat × Instr × Nat)), decode jdk_42_method_55_code q.1 = .ok (q.2.1, q.2.2) := by decide +kernel
def QEm0 (Z : State) (rb bb : Addr) (kb : ClassId) (u : Bool) (n : Nat) (c_ : Nat → Int32) (h0 : Heap) (n0 : Nat) (v : Option Value) (h : Heap) (L : List Loc) : Prop := v = some (.int 0) ∧ Fr n0 L ∧ h = h0
theorem rmEm0 (hw : HW a0 Z) (rb bb : Addr) (kb : ClassId) (u : Bool) (n : Nat) (c_ : Nat → Int32) (Z0 : n0 ≤ h0.size) (Bs : Sb Z h0 rb bb kb u n c_) (hz : ¬ n = 0) :
  QMg l Z mN2 jdk_42_method_55_code 1 (some .boolean) ws (rM 0 0 0 0) #[(.ref rb)] h0 (QEm0 Z rb bb kb u n c_ h0 n0) := by
 refine bodyN (pfn pn0) (Ls := #[rv rb]) (fun _ => rfl) ?_
 intro p e s m below meth c s₁ hx hby hlk hret hml hown hnm hZ hh X0 e0
 have D := @db _ _ _ hby Dj42_55
 obtain ⟨Eb, Vb, Cb, Ab, hn4, hok⟩ := id Bs
 show Gt s₁ m 0 _ []
 refine aN X0 hx (D 0 rfl) ?_ rfl rfl
 refine qGF X0 hx hZ hown (hw 25 rfl) Via.refl e0 Vb (D 1 rfl) ?_
 intro T1 X1 e1
 refine qAL X1 hx hZ e1 Ab (D 2 rfl) ?_
 refine gT X1 hx (pc := 5) (pc' := 12) (D 3 rfl) ((if0 _ _).trans (feq (fun q => hz ((wd_zero hn4).mp q))).2) ?_ (by decide) (by decide)
 refine giconst X1 hx (D 6 rfl) ?_
 refine rN X1 hx hret (D 7 rfl) (by decide) hlk ?_ (by simp) (by decide) (by decide)
 rw [e1]
 exact ⟨rfl, (Fr.nil n0), rfl⟩
def QEm1 (Z : State) (rb bb : Addr) (kb : ClassId) (u : Bool) (n : Nat) (c_ : Nat → Int32) (h0 : Heap) (n0 : Nat) (v : Option Value) (h : Heap) (L : List Loc) : Prop := v = some (.int 1) ∧ Fr n0 L ∧ h = h0
theorem rmEm1 (hw : HW a0 Z) (rb bb : Addr) (kb : ClassId) (u : Bool) (n : Nat) (c_ : Nat → Int32) (Z0 : n0 ≤ h0.size) (Bs : Sb Z h0 rb bb kb u n c_) (hz : n = 0) :
  QMg l Z mN2 jdk_42_method_55_code 1 (some .boolean) ws (rM 0 0 0 0) #[(.ref rb)] h0 (QEm1 Z rb bb kb u n c_ h0 n0) := by
 refine bodyN (pfn pn0) (Ls := #[rv rb]) (fun _ => rfl) ?_
 intro p e s m below meth c s₁ hx hby hlk hret hml hown hnm hZ hh X0 e0
 have D := @db _ _ _ hby Dj42_55
 obtain ⟨Eb, Vb, Cb, Ab, hn4, hok⟩ := id Bs
 show Gt s₁ m 0 _ []
 refine aN X0 hx (D 0 rfl) ?_ rfl rfl
 refine qGF X0 hx hZ hown (hw 25 rfl) Via.refl e0 Vb (D 1 rfl) ?_
 intro T1 X1 e1
 refine qAL X1 hx hZ e1 Ab (D 2 rfl) ?_
 refine gifNo X1 hx (D 3 rfl) ((if0 _ _).trans (teq ((wd_zero hn4).mpr hz)).2) ?_
 refine giconst X1 hx (D 4 rfl) ?_
 refine gG X1 hx (pc := 9) (pc' := 13) (D 5 rfl) ?_ (by decide) (by decide)
 refine rN X1 hx hret (D 7 rfl) (by decide) hlk ?_ (by simp) (by decide) (by decide)
 rw [e1]
 exact ⟨rfl, (Fr.nil n0), rfl⟩
theorem Dj42_154 : ∀ q ∈ ([(0, .getstatic 38, 3), (3, .ifCond .eq 14, 3), (6, .aload_n 0, 1), (7, .getfield 15, 3), (10, .ifCond .ne 7, 3), (13, .iconst 1, 1), (14, .goto 4, 3), (17, .iconst 0, 1), (18, .ireturn, 1)] : List (Nat × Instr × Nat)), decode jdk_42_method_154_code q.1 = .ok (q.2.1, q.2.2) := by decide +kernel
def QIl0 (Z : State) (rb : Addr) (cs : Int32) (h0 : Heap) (n0 : Nat) (v : Option Value) (h : Heap) (L : List Loc) : Prop := v = some (.int 1) ∧ Fr n0 L ∧ h = h0
theorem rmIl0 (hw : HW a0 Z) (rb : Addr) (cs : Int32) (Z0 : n0 ≤ h0.size) (Scs : S_0 Z h0 (.int cs)) (hcs : ¬ cs = (0 : Int32)) (Cb : F_1 Z h0 rb (.int 0)) :
  QMg l Z mN3 jdk_42_method_154_code 1 (some .boolean) ws (rM 0 0 0 0) #[(.ref rb)] h0 (QIl0 Z rb cs h0 n0) := by
 refine bodyN (pfn pn0) (Ls := #[rv rb]) (fun _ => rfl) ?_
 intro p e s m below meth c s₁ hx hby hlk hret hml hown hnm hZ hh X0 e0
 have D := @db _ _ _ hby Dj42_154
 show Gt s₁ m 0 _ []
 obtain ⟨T1, X1, e1, st1⟩ := getS X0 hx hZ hown (host := "") (hw 64 rfl) Via.refl e0 Scs (g := (mkF m 0 #[rv rb] [])) rfl (D 0 rfl)
 refine Goes.st st1 ?_
 refine gifNo X1 hx (D 1 rfl) ((if0 _ _).trans (feq hcs).1) ?_
 refine aN X1 hx (D 2 rfl) ?_ rfl rfl
 refine qGF X1 hx hZ hown (hw 26 rfl) Via.refl e1 Cb (D 3 rfl) ?_
 intro T2 X2 e2
 refine gifNo X2 hx (D 4 rfl) (by decide) ?_
 refine giconst X2 hx (D 5 rfl) ?_
 refine gG X2 hx (pc := 14) (pc' := 18) (D 6 rfl) ?_ (by decide) (by decide)
 refine rN X2 hx hret (D 8 rfl) (by decide) hlk ?_ (by simp) (by decide) (by decide)
 rw [e2]
 exact ⟨rfl, (Fr.nil n0), rfl⟩
def QIl1 (Z : State) (rb : Addr) (cs : Int32) (h0 : Heap) (n0 : Nat) (v : Option Value) (h : Heap) (L : List Loc) : Prop := v = some (.int 0) ∧ Fr n0 L ∧ h = h0
theorem rmIl1 (hw : HW a0 Z) (rb : Addr) (cs : Int32) (Z0 : n0 ≤ h0.size) (Scs : S_0 Z h0 (.int cs)) (hcs : ¬ cs = (0 : Int32)) (Cb : F_1 Z h0 rb (.int 1)) :
  QMg l Z mN3 jdk_42_method_154_code 1 (some .boolean) ws (rM 0 0 0 0) #[(.ref rb)] h0 (QIl1 Z rb cs h0 n0) := by
 refine bodyN (pfn pn0) (Ls := #[rv rb]) (fun _ => rfl) ?_
 intro p e s m below meth c s₁ hx hby hlk hret hml hown hnm hZ hh X0 e0
 have D := @db _ _ _ hby Dj42_154
 show Gt s₁ m 0 _ []
 obtain ⟨T1, X1, e1, st1⟩ := getS X0 hx hZ hown (host := "") (hw 64 rfl) Via.refl e0 Scs (g := (mkF m 0 #[rv rb] [])) rfl (D 0 rfl)
 refine Goes.st st1 ?_
 refine gifNo X1 hx (D 1 rfl) ((if0 _ _).trans (feq hcs).1) ?_
 refine aN X1 hx (D 2 rfl) ?_ rfl rfl
 refine qGF X1 hx hZ hown (hw 26 rfl) Via.refl e1 Cb (D 3 rfl) ?_
 intro T2 X2 e2
 refine gT X2 hx (pc := 10) (pc' := 17) (D 4 rfl) (by decide) ?_ (by decide) (by decide)
 refine giconst X2 hx (D 7 rfl) ?_
 refine rN X2 hx hret (D 8 rfl) (by decide) hlk ?_ (by simp) (by decide) (by decide)
 rw [e2]
 exact ⟨rfl, (Fr.nil n0), rfl⟩
def QPc (Z : State) (ix : Int32) (h0 : Heap) (n0 : Nat) (v : Option Value) (h : Heap) (L : List Loc) : Prop := v = some (.int ix) ∧ Fr n0 L ∧ h = h0
theorem Dj41_11 : ∀ q ∈ ([(0, .iload_n 0, 1), (1, .ifCond .lt 8, 3), (4, .iload_n 0, 1), (5, .iload_n 1, 1), (6, .if_icmp .lt 10, 3), (16, .iload_n 0, 1), (17, .ireturn, 1)] : List (Nat × Instr × Nat)), decode jdk_41_method_11_code q.1 = .ok (q.2.1, q.2.2) := by decide +kernel
theorem pn1 : plainName "jdk/internal/util/Preconditions" = true := by first | (simp [plainName, overriddenIn]; done) | decide +kernel
theorem rmPcN (hw : HW a0 Z) (ix nn : Int32) (Z0 : n0 ≤ h0.size) (hi1 : ¬ ix < (0 : Int32)) (hi2 : ix < nn) :
  QMg l Z mN4 jdk_41_method_11_code 3 (some .int) ws (rM 0 0 0 0) #[(.int ix), (.int nn), .null] h0 (QPc Z ix h0 n0) := by
 refine bodyN (pfn pn1) (Ls := #[iv ix, iv nn, .val .null]) (fun _ => rfl) ?_
 intro p e s m below meth c s₁ hx hby hlk hret hml hown hnm hZ hh X0 e0
 have D := @db _ _ _ hby Dj41_11
 show Gt s₁ m 0 _ []
 refine jN X0 hx (D 0 rfl) ?_ rfl
 refine gifNo X0 hx (D 1 rfl) ((if0 _ _).trans (flt hi1).1) ?_
 refine jN X0 hx (D 2 rfl) ?_ rfl
 refine jN X0 hx (D 3 rfl) ?_ rfl
 refine gY X0 hx (pc := 6) (pc' := 16) (D 4 rfl) (tlt hi2).1 ?_ (by decide) (by decide)
 refine jN X0 hx (D 5 rfl) ?_ rfl
 refine rI X0 hx hret (D 6 rfl) hlk ?_ (by decide) (by decide)
 rw [e0]
 exact ⟨rfl, (Fr.nil n0), rfl⟩
theorem rmPcR (hw : HW a0 Z) (ix nn : Int32) (fm : Addr) (Z0 : n0 ≤ h0.size) (hi1 : ¬ ix < (0 : Int32)) (hi2 : ix < nn) :
  QMg l Z mN4 jdk_41_method_11_code 3 (some .int) ws (rM 0 0 0 0) #[(.int ix), (.int nn), (.ref fm)] h0 (QPc Z ix h0 n0) := by
 refine bodyN (pfn pn1) (Ls := #[iv ix, iv nn, rv fm]) (fun _ => rfl) ?_
 intro p e s m below meth c s₁ hx hby hlk hret hml hown hnm hZ hh X0 e0
 have D := @db _ _ _ hby Dj41_11
 show Gt s₁ m 0 _ []
 refine jN X0 hx (D 0 rfl) ?_ rfl
 refine gifNo X0 hx (D 1 rfl) ((if0 _ _).trans (flt hi1).1) ?_
 refine jN X0 hx (D 2 rfl) ?_ rfl
 refine jN X0 hx (D 3 rfl) ?_ rfl
 refine gY X0 hx (pc := 6) (pc' := 16) (D 4 rfl) (tlt hi2).1 ?_ (by decide) (by decide)
 refine jN X0 hx (D 5 rfl) ?_ rfl
 refine rI X0 hx hret (D 6 rfl) hlk ?_ (by decide) (by decide)
 rw [e0]
 exact ⟨rfl, (Fr.nil n0), rfl⟩
theorem rmPcV (hw : HW a0 Z) (ix nn : Int32) (fm : Value) (Z0 : n0 ≤ h0.size) (hi1 : ¬ ix < (0 : Int32)) (hi2 : ix < nn) (hfm : fm.isRef = true) :
  QMg l Z mN4 jdk_41_method_11_code 3 (some .int) ws (rM 0 0 0 0) #[(.int ix), (.int nn), fm] h0 (QPc Z ix h0 n0) := by
 cases fm with
 | null => exact rmPcN l hw ix nn Z0 hi1 hi2
 | ref a => exact rmPcR l hw ix nn a Z0 hi1 hi2
 | int _ => cases hfm
 | long _ => cases hfm
 | float _ => cases hfm
 | double _ => cases hfm
 | retAddr _ => cases hfm
theorem Dj42_155 : ∀ q ∈ ([(0, .iload_n 0, 1), (1, .iload_n 1, 1), (2, .getstatic 1053, 3), (5, .invokestatic 1059, 3), (8, .pop, 1), (9, .return_, 1)] : List (Nat × Instr × Nat)), decode jdk_42_method_155_code q.1 = .ok (q.2.1, q.2.2) := by decide +kernel
theorem pd1 : parseMethodDescriptor "(IILjava/util/function/BiFunction;)I" = some ⟨[.int, .int, (.object "java/util/function/BiFunction")], some .int⟩ := by decide +kernel
def QSx (Z : State) (ix nn : Int32) (fm : Value) (h0 : Heap) (n0 : Nat) (v : Option Value) (h : Heap) (L : List Loc) : Prop := v = none ∧ Fr n0 L ∧ h = h0
theorem rmSx (hw : HW a0 Z) (ix nn : Int32) (fm : Value) (Z0 : n0 ≤ h0.size) (Sfm : S_1 Z h0 fm) (hfm : fm.isRef = true) (hi1 : ¬ ix < (0 : Int32)) (hi2 : ix < nn) :
  QMg l Z mN5 jdk_42_method_155_code 2 none ws (rM 1 0 0 14) #[(.int ix), (.int nn)] h0 (QSx Z ix nn fm h0 n0) := by
 refine bodyN (pfn pn0) (Ls := #[iv ix, iv nn]) (fun _ => rfl) ?_
 intro p e s m below meth c s₁ hx hby hlk hret hml hown hnm hZ hh X0 e0
 have D := @db _ _ _ hby Dj42_155
 show Gt s₁ m 0 _ []
 refine jN X0 hx (D 0 rfl) ?_ rfl
 refine jN X0 hx (D 1 rfl) ?_ rfl
 obtain ⟨T1, X1, e1, st1⟩ := getS X0 hx hZ hown (host := "") (hw 153 rfl) Via.refl e0 Sfm (g := (mkF m 2 #[iv ix, iv nn] [(.int nn), (.int ix)])) rfl (D 2 rfl)
 refine Goes.st st1 ?_
 refine zS X1 hx hZ hown hw 155 156 157 154 (rmPcV l hw ix nn fm Z0 hi1 hi2 hfm) e1 hml (D 3 rfl) pd1 (W := 0) (rest := []) ?_ rfl rfl rfl rfl (by decide) (lq rfl) rfl rfl rfl
 rintro T2 L2 v2 X2 ⟨rfl, N2q, eh2⟩
 have N2 := Fr.app (Fr.nil n0) N2q
 show Gt T2 m 8 #[iv ix, iv nn] [(.int ix)]
 refine Goes.st (fun tg kg => XT.pop X2.here hx rfl (D 4 rfl) rfl rfl kg) ?_
 refine rV X2 hx hret (D 5 rfl) hlk ?_ (by decide) (by decide)
 rw [eh2]
 exact ⟨rfl, N2, rfl⟩
theorem Dj41_12 : ∀ q ∈ ([(0, .iload_n 0, 1), (1, .ifCond .lt 13, 3), (4, .iload_n 0, 1), (5, .iload_n 1, 1), (6, .if_icmp .gt 8, 3), (9, .iload_n 1, 1), (10, .iload_n 2, 1), (11, .if_icmp .le 11, 3), (22, .iload_n 0, 1), (23, .ireturn, 1)] : List (Nat × Instr × Nat)), decode jdk_41_method_12_code q.1 = .ok (q.2.1, q.2.2) := by decide +kernel
theorem rmPfN (hw : HW a0 Z) (lo hi nn : Int32) (Z0 : n0 ≤ h0.size) (hf1 : ¬ lo < (0 : Int32)) (hf2 : ¬ hi < lo) (hf3 : ¬ nn < hi) :
  QMg l Z mN6 jdk_41_method_12_code 4 (some .int) ws (rM 0 0 0 0) #[(.int lo), (.int hi), (.int nn), .null] h0 (QPc Z lo h0 n0) := by
 refine bodyN (pfn pn1) (Ls := #[iv lo, iv hi, iv nn, .val .null]) (fun _ => rfl) ?_
 intro p e s m below meth c s₁ hx hby hlk hret hml hown hnm hZ hh X0 e0
 have D := @db _ _ _ hby Dj41_12
 show Gt s₁ m 0 _ []
 refine jN X0 hx (D 0 rfl) ?_ rfl
 refine gifNo X0 hx (D 1 rfl) ((if0 _ _).trans (flt hf1).1) ?_
 refine jN X0 hx (D 2 rfl) ?_ rfl
 refine jN X0 hx (D 3 rfl) ?_ rfl
 refine gicmpNo X0 hx (D 4 rfl) (flt hf2).2.2.1 ?_
 refine jN X0 hx (D 5 rfl) ?_ rfl
 refine jN X0 hx (D 6 rfl) ?_ rfl
 refine gY X0 hx (pc := 11) (pc' := 22) (D 7 rfl) (flt hf3).2.2.2 ?_ (by decide) (by decide)
 refine jN X0 hx (D 8 rfl) ?_ rfl
 show Gt s₁ m 23 _ [(.int lo)]
 refine rI X0 hx hret (D 9 rfl) hlk ?_ (by decide) (by decide)
 rw [e0]
 exact ⟨rfl, (Fr.nil n0), rfl⟩
theorem rmPfR (hw : HW a0 Z) (lo hi nn : Int32) (fm : Addr) (Z0 : n0 ≤ h0.size) (hf1 : ¬ lo < (0 : Int32)) (hf2 : ¬ hi < lo) (hf3 : ¬ nn < hi) :
  QMg l Z mN6 jdk_41_method_12_code 4 (some .int) ws (rM 0 0 0 0) #[(.int lo), (.int hi), (.int nn), (.ref fm)] h0 (QPc Z lo h0 n0) := by
 refine bodyN (pfn pn1) (Ls := #[iv lo, iv hi, iv nn, rv fm]) (fun _ => rfl) ?_
 intro p e s m below meth c s₁ hx hby hlk hret hml hown hnm hZ hh X0 e0
 have D := @db _ _ _ hby Dj41_12
 show Gt s₁ m 0 _ []
 refine jN X0 hx (D 0 rfl) ?_ rfl
 refine gifNo X0 hx (D 1 rfl) ((if0 _ _).trans (flt hf1).1) ?_
 refine jN X0 hx (D 2 rfl) ?_ rfl
 refine jN X0 hx (D 3 rfl) ?_ rfl
 refine gicmpNo X0 hx (D 4 rfl) (flt hf2).2.2.1 ?_
 refine jN X0 hx (D 5 rfl) ?_ rfl
 refine jN X0 hx (D 6 rfl) ?_ rfl
 refine gY X0 hx (pc := 11) (pc' := 22) (D 7 rfl) (flt hf3).2.2.2 ?_ (by decide) (by decide)
 refine jN X0 hx (D 8 rfl) ?_ rfl
 show Gt s₁ m 23 _ [(.int lo)]
 refine rI X0 hx hret (D 9 rfl) hlk ?_ (by decide) (by decide)
 rw [e0]
 exact ⟨rfl, (Fr.nil n0), rfl⟩
theorem rmPfV (hw : HW a0 Z) (lo hi nn : Int32) (fm : Value) (Z0 : n0 ≤ h0.size) (hf1 : ¬ lo < (0 : Int32)) (hf2 : ¬ hi < lo) (hf3 : ¬ nn < hi) (hfm : fm.isRef = true) :
  QMg l Z mN6 jdk_41_method_12_code 4 (some .int) ws (rM 0 0 0 0) #[(.int lo), (.int hi), (.int nn), fm] h0 (QPc Z lo h0 n0) := by
 cases fm with
 | null => exact rmPfN l hw lo hi nn Z0 hf1 hf2 hf3
 | ref a => exact rmPfR l hw lo hi nn a Z0 hf1 hf2 hf3
 | int _ => cases hfm
 | long _ => cases hfm
 | float _ => cases hfm
 | double _ => cases hfm
 | retAddr _ => cases hfm
theorem Dj42_158 : ∀ q ∈ ([(0, .iload_n 0, 1), (1, .iload_n 1, 1), (2, .iload_n 2, 1), (3, .getstatic 1053, 3), (6, .invokestatic 1062, 3), (9, .pop, 1), (10, .return_, 1)] : List (Nat × Instr × Nat)), decode jdk_42_method_158_code q.1 = .ok (q.2.1, q.2.2) := by decide +kernel
theorem pd2 : parseMethodDescriptor "(IIILjava/util/function/BiFunction;)I" = some ⟨[.int, .int, .int, (.object "java/util/function/BiFunction")], some .int⟩ := by decide +kernel
def QBb (Z : State) (lo hi nn : Int32) (fm : Value) (h0 : Heap) (n0 : Nat) (v : Option Value) (h : Heap) (L : List Loc) : Prop := v = none ∧ Fr n0 L ∧ h = h0
theorem rmBb (hw : HW a0 Z) (lo hi nn : Int32) (fm : Value) (Z0 : n0 ≤ h0.size) (Sfm : S_1 Z h0 fm) (hfm : fm.isRef = true) (hf1 : ¬ lo < (0 : Int32)) (hf2 : ¬ hi < lo) (hf3 : ¬ nn < hi) :
  QMg l Z mN7 jdk_42_method_158_code 3 none ws (rM 1 0 0 15) #[(.int lo), (.int hi), (.int nn)] h0 (QBb Z lo hi nn fm h0 n0) := by
 refine bodyN (pfn pn0) (Ls := #[iv lo, iv hi, iv nn]) (fun _ => rfl) ?_
 intro p e s m below meth c s₁ hx hby hlk hret hml hown hnm hZ hh X0 e0
 have D := @db _ _ _ hby Dj42_158
 show Gt s₁ m 0 _ []
 refine jN X0 hx (D 0 rfl) ?_ rfl
 refine jN X0 hx (D 1 rfl) ?_ rfl
 refine jN X0 hx (D 2 rfl) ?_ rfl
 obtain ⟨T1, X1, e1, st1⟩ := getS X0 hx hZ hown (host := "") (hw 153 rfl) Via.refl e0 Sfm (g := (mkF m 3 #[iv lo, iv hi, iv nn] [(.int nn), (.int hi), (.int lo)])) rfl (D 3 rfl)
 refine Goes.st st1 ?_
 refine zS X1 hx hZ hown hw 170 171 172 154 (rmPfV l hw lo hi nn fm Z0 hf1 hf2 hf3 hfm) e1 hml (D 4 rfl) pd2 (W := 0) (rest := []) ?_ rfl rfl rfl rfl (by decide) (lq rfl) rfl rfl rfl
 rintro T2 L2 v2 X2 ⟨rfl, N2q, eh2⟩
 have N2 := Fr.app (Fr.nil n0) N2q
 show Gt T2 m 9 #[iv lo, iv hi, iv nn] [(.int lo)]
 refine Goes.st (fun tg kg => XT.pop X2.here hx rfl (D 5 rfl) rfl rfl kg) ?_
 refine rV X2 hx hret (D 6 rfl) hlk ?_ (by decide) (by decide)
 rw [eh2]
 exact ⟨rfl, N2, rfl⟩
theorem Dj52_6 : ∀ q ∈ ([(0, .aload_n 0, 1), (1, .arraylength, 1), (2, .iconst 1, 1), (3, .ishr, 1), (4, .ireturn, 1)] : List (Nat × Instr × Nat)), decode jdk_52_method_6_code q.1 = .ok (q.2.1, q.2.2) := by decide +kernel
theorem pn2 : plainName "java/lang/StringUTF16" = true := by first | (simp [plainName, overriddenIn]; done) | decide +kernel
def QUl (Z : State) (aB : Addr) (kB : ClassId) (n : Nat) (vs : List Value) (h0 : Heap) (n0 : Nat) (v : Option Value) (h : Heap) (L : List Loc) : Prop := v = some (.int (iN n)) ∧ Fr n0 L ∧ h = h0
theorem rmUl (hw : HW a0 Z) (aB : Addr) (kB : ClassId) (n : Nat) (vs : List Value) (Z0 : n0 ≤ h0.size) (VB : Arv Z h0 aB kB .byte (iN (2 * n)) vs (.int 0)) (hn4 : n ≤ 8) :
  QMg l Z mN8 jdk_52_method_6_code 1 (some .int) ws (rM 0 0 0 0) #[(.ref aB)] h0 (QUl Z aB kB n vs h0 n0) := by
 refine bodyN (pfn pn2) (Ls := #[rv aB]) (fun _ => rfl) ?_
 intro p e s m below meth c s₁ hx hby hlk hret hml hown hnm hZ hh X0 e0
 have D := @db _ _ _ hby Dj52_6
 show Gt s₁ m 0 _ []
 refine aN X0 hx (D 0 rfl) ?_ rfl rfl
 refine qAL X0 hx hZ e0 VB (D 1 rfl) ?_
 refine giconst X0 hx (D 2 rfl) ?_
 show Gt s₁ m 3 _ [(.int 1), (.int (iN (2 * n)))]
 refine Goes.st (fun tg kg => XT.ishr X0.here hx rfl (D 3 rfl) rfl kg) ?_
 show Gt s₁ m 4 #[rv aB] [(.int ((iN (2 * n)) >>> ((1 : Int32) &&& 31)))]
 rw [show ((iN (2 * n)) >>> ((1 : Int32) &&& 31)) = (iN n) from iN_shr (a := n) (by omega)]
 refine rI X0 hx hret (D 4 rfl) hlk ?_ (by decide) (by decide)
 rw [e0]
 exact ⟨rfl, (Fr.nil n0), rfl⟩
theorem Dj52_91 : ∀ q ∈ ([(0, .iload_n 0, 1), (1, .aload_n 1, 1), (2, .invokestatic 48, 3), (5, .invokestatic 414, 3), (8, .return_, 1)] : List (Nat × Instr × Nat)), decode jdk_52_method_91_code q.1 = .ok (q.2.1, q.2.2) := by decide +kernel
theorem pd3 : parseMethodDescriptor "([B)I" = some ⟨[(.array .byte)], some .int⟩ := by decide +kernel
theorem pd4 : parseMethodDescriptor "(II)V" = some ⟨[.int, .int], none⟩ := by decide +kernel
def QUk (Z : State) (aB : Addr) (kB : ClassId) (n : Nat) (c_ : Nat → Int32) (i : Nat) (fm : Value) (h0 : Heap) (n0 : Nat) (v : Option Value) (h : Heap) (L : List Loc) : Prop := v = none ∧ Fr n0 L ∧ h = h0
theorem rmUk (hw : HW a0 Z) (aB : Addr) (kB : ClassId) (n : Nat) (c_ : Nat → Int32) (i : Nat) (fm : Value) (Z0 : n0 ≤ h0.size) (Sfm : S_1 Z h0 fm) (hfm : fm.isRef = true) (VB : Arv Z h0 aB kB .byte (iN (2 * n)) (rg (2 * n) (ub c_)) (.int 0)) (hn4 : n ≤ 4) (hi : i < n) :
  QMg l Z mN9 jdk_52_method_91_code 2 none ws (rM 2 0 0 27) #[(.int (iN i)), (.ref aB)] h0 (QUk Z aB kB n c_ i fm h0 n0) := by
 refine bodyN (pfn pn2) (Ls := #[iv (iN i), rv aB]) (fun _ => rfl) ?_
 intro p e s m below meth c s₁ hx hby hlk hret hml hown hnm hZ hh X0 e0
 have D := @db _ _ _ hby Dj52_91
 show Gt s₁ m 0 _ []
 refine jN X0 hx (D 0 rfl) ?_ rfl
 refine aN X0 hx (D 1 rfl) ?_ rfl rfl
 refine zS X0 hx hZ hown hw 147 148 149 67 (rmUl l hw aB kB n (rg (2 * n) (ub c_)) Z0 VB (by omega)) e0 hml (D 2 rfl) pd3 (W := 1) (rest := [(.int (iN i))]) ?_ rfl rfl rfl rfl (by decide) (lq rfl) rfl rfl rfl
 rintro T1 L1 v1 X1 ⟨rfl, N1q, eh1⟩
 have N1 := Fr.app (Fr.nil n0) N1q
 refine zS X1 hx hZ hown hw 150 151 152 8 (rmSx l hw (iN i) (iN n) fm Z0 Sfm hfm (nnN i (by omega)) (ylN i n (by omega) (by omega) (by omega))) eh1 hml (D 3 rfl) pd4 (W := 0) (rest := []) ?_ rfl rfl rfl rfl (by decide) (lq rfl) rfl rfl rfl
 rintro T2 L2 v2 X2 ⟨rfl, N2q, eh2⟩
 have N2 := Fr.app N1 N2q
 refine rV X2 hx hret (D 4 rfl) hlk ?_ (by decide) (by decide)
 rw [eh2]
 exact ⟨rfl, N2, rfl⟩
theorem Dj52_5 : ∀ q ∈ ([(0, .getstatic 44, 3), (3, .ifCond .ne 25, 3), (28, .iload_n 1, 1), (29, .iconst 1, 1), (30, .ishl, 1), (31, .istore_n 1, 1), (32, .aload_n 0, 1), (33, .iload_n 1, 1), (34, .iinc 1 1, 3), (37, .baload, 1), (38, .sipush 255, 3), (41, .iand, 1), (42, .getstatic 59, 3), (45, .ishl, 1), (46, .aload_n 0, 1), (47, .iload_n 1, 1), (48, .baload, 1), (49, .sipush 255, 3), (52, .iand, 1), (53, .getstatic 63, 3), (56, .ishl, 1), (57, .ior, 1), (58, .i2c, 1), (59, .ireturn, 1)] : List (Nat × Instr × Nat)), decode jdk_52_method_5_code q.1 = .ok (q.2.1, q.2.2) := by decide +kernel
def QGc (Z : State) (aB : Addr) (kB : ClassId) (n : Nat) (c_ : Nat → Int32) (i : Nat) (h0 : Heap) (n0 : Nat) (v : Option Value) (h : Heap) (L : List Loc) : Prop := v = some (.int (c_ i)) ∧ Fr n0 L ∧ h = h0
theorem rmGc (hw : HW a0 Z) (aB : Addr) (kB : ClassId) (n : Nat) (c_ : Nat → Int32) (i : Nat) (Z0 : n0 ≤ h0.size) (Sd : S_2 Z h0 (.int 1)) (Sh : S_3 Z h0 (.int 0)) (Sl : S_4 Z h0 (.int 8)) (VB : Arv Z h0 aB kB .byte (iN (2 * n)) (rg (2 * n) (ub c_)) (.int 0)) (hn4 : n ≤ 4) (hok : ∀ i, i < n → 0 ≤ (c_ i).toInt ∧ (c_ i).toInt < 65536) (hi : i < n) :
  QMg l Z mN10 jdk_52_method_5_code 2 (some .char) ws (rM 0 0 0 0) #[(.ref aB), (.int (iN i))] h0 (QGc Z aB kB n c_ i h0 n0) := by
 refine bodyN (pfn pn2) (Ls := #[rv aB, iv (iN i)]) (fun _ => rfl) ?_
 intro p e s m below meth c s₁ hx hby hlk hret hml hown hnm hZ hh X0 e0
 have D := @db _ _ _ hby Dj52_5
 show Gt s₁ m 0 _ []
 obtain ⟨T1, X1, e1, st1⟩ := getS X0 hx hZ hown (host := "") (hw 85 rfl) Via.refl e0 Sd (g := (mkF m 0 #[rv aB, iv (iN i)] [])) rfl (D 0 rfl)
 refine Goes.st st1 ?_
 refine gT X1 hx (pc := 3) (pc' := 28) (D 1 rfl) (by decide) ?_ (by decide) (by decide)
 refine jN X1 hx (D 2 rfl) ?_ rfl
 refine giconst X1 hx (D 3 rfl) ?_
 show Gt T1 m 30 #[rv aB, iv (iN i)] [(.int 1), (.int (iN i))]
 refine Goes.st (fun tg kg => XT.ishl X1.here hx rfl (D 4 rfl) rfl kg) ?_
 show Gt T1 m 31 #[rv aB, iv (iN i)] [(.int ((iN i) <<< ((1 : Int32) &&& 31)))]
 rw [show ((iN i) <<< ((1 : Int32) &&& 31)) = (iN (2 * i)) from iN_shl (a := i) (by omega)]
 refine gistoreN X1 hx (D 5 rfl) (l' := #[rv aB, iv (iN (2 * i))]) rfl ?_
 refine aN X1 hx (D 6 rfl) ?_ rfl rfl
 refine jN X1 hx (D 7 rfl) ?_ rfl
 refine giinc X1 hx (D 8 rfl) rfl (l' := #[rv aB, iv ((iN (2 * i)) + (1 : Int32))]) rfl ?_
 show Gt T1 m 37 _ [(.int (iN (2 * i))), (.ref aB)]
 rw [show ((iN (2 * i)) + (1 : Int32)) = (iN ((2 * i) + 1)) from iN_add (2 * i) 1]
 refine qBa X1 hx hZ e1 VB ⟨nnN (2 * i) (by omega), ylN (2 * i) (2 * n) (by omega) (by omega) (by omega)⟩ (v := (.int (b0_ (c_ i)))) (by rw [iN_nat (a := 2 * i) (by omega), rg_get _ _ (by omega)]; exact ub0 c_ i) (D 9 rfl) ?_
 refine gsipush X1 hx (D 10 rfl) ?_
 refine giand X1 hx (D 11 rfl) ?_
 obtain ⟨T3, X3, e3, st3⟩ := getS X1 hx hZ hown (host := "") (hw 86 rfl) Via.refl e1 Sh (g := (mkF m 42 #[rv aB, iv (iN ((2 * i) + 1))] [(.int ((b0_ (c_ i)) &&& (255 : Int32)))])) rfl (D 12 rfl)
 refine Goes.st st3 ?_
 show Gt T3 m 45 #[rv aB, iv (iN ((2 * i) + 1))] [(.int 0), (.int ((b0_ (c_ i)) &&& (255 : Int32)))]
 refine Goes.st (fun tg kg => XT.ishl X3.here hx rfl (D 13 rfl) rfl kg) ?_
 refine aN X3 hx (D 14 rfl) ?_ rfl rfl
 refine jN X3 hx (D 15 rfl) ?_ rfl
 refine qBa X3 hx hZ e3 VB ⟨nnN ((2 * i) + 1) (by omega), ylN ((2 * i) + 1) (2 * n) (by omega) (by omega) (by omega)⟩ (v := (.int (b8_ (c_ i)))) (by rw [iN_nat (a := (2 * i) + 1) (by omega), rg_get _ _ (by omega)]; exact ub1 c_ i) (D 16 rfl) ?_
 refine gsipush X3 hx (D 17 rfl) ?_
 refine giand X3 hx (D 18 rfl) ?_
 obtain ⟨T5, X5, e5, st5⟩ := getS X3 hx hZ hown (host := "") (hw 87 rfl) Via.refl e3 Sl (g := (mkF m 53 #[rv aB, iv (iN ((2 * i) + 1))] [(.int ((b8_ (c_ i)) &&& (255 : Int32))), (.int (((b0_ (c_ i)) &&& (255 : Int32)) <<< ((0 : Int32) &&& 31)))])) rfl (D 19 rfl)
 refine Goes.st st5 ?_
 show Gt T5 m 56 #[rv aB, iv (iN ((2 * i) + 1))] [(.int 8), (.int ((b8_ (c_ i)) &&& (255 : Int32))), (.int (((b0_ (c_ i)) &&& (255 : Int32)) <<< ((0 : Int32) &&& 31)))]
 refine Goes.st (fun tg kg => XT.ishl X5.here hx rfl (D 20 rfl) rfl kg) ?_
 show Gt T5 m 57 #[rv aB, iv (iN ((2 * i) + 1))] [(.int (((b8_ (c_ i)) &&& (255 : Int32)) <<< ((8 : Int32) &&& 31))), (.int (((b0_ (c_ i)) &&& (255 : Int32)) <<< ((0 : Int32) &&& 31)))]
 refine Goes.st (fun tg kg => XT.ior X5.here hx rfl (D 21 rfl) rfl kg) ?_
 show Gt T5 m 58 #[rv aB, iv (iN ((2 * i) + 1))] [(.int ((((b0_ (c_ i)) &&& (255 : Int32)) <<< ((0 : Int32) &&& 31)) ||| (((b8_ (c_ i)) &&& (255 : Int32)) <<< ((8 : Int32) &&& 31))))]
 refine Goes.st (fun tg kg => XT.i2c X5.here hx rfl (D 22 rfl) rfl kg) ?_
 show Gt T5 m 59 #[rv aB, iv (iN ((2 * i) + 1))] [(.int (((((b0_ (c_ i)) &&& (255 : Int32)) <<< ((0 : Int32) &&& 31)) ||| (((b8_ (c_ i)) &&& (255 : Int32)) <<< ((8 : Int32) &&& 31)))).toUInt32.toUInt16.toUInt32.toInt32)]
 rw [show (((((b0_ (c_ i)) &&& (255 : Int32)) <<< ((0 : Int32) &&& 31)) ||| (((b8_ (c_ i)) &&& (255 : Int32)) <<< ((8 : Int32) &&& 31)))).toUInt32.toUInt16.toUInt32.toInt32 = c_ i from own_gb (hok i hi)]
 refine rN X5 hx hret (D 23 rfl) (own_nc (hok i hi)) hlk ?_ (by simp) (by decide) (by decide)
 rw [e5]
 exact ⟨rfl, (Fr.nil n0), rfl⟩
theorem Dj52_83 : ∀ q ∈ ([(0, .iload_n 1, 1), (1, .aload_n 0, 1), (2, .invokestatic 67, 3), (5, .aload_n 0, 1), (6, .iload_n 1, 1), (7, .invokestatic 71, 3), (10, .ireturn, 1)] : List (Nat × Instr × Nat)), decode jdk_52_method_83_code q.1 = .ok (q.2.1, q.2.2) := by decide +kernel
theorem pd5 : parseMethodDescriptor "(I[B)V" = some ⟨[.int, (.array .byte)], none⟩ := by decide +kernel
theorem pd6 : parseMethodDescriptor "([BI)C" = some ⟨[(.array .byte), .int], some .char⟩ := by decide +kernel
def QUc (Z : State) (aB : Addr) (kB : ClassId) (n : Nat) (c_ : Nat → Int32) (i : Nat) (fm : Value) (h0 : Heap) (n0 : Nat) (v : Option Value) (h : Heap) (L : List Loc) : Prop := v = some (.int (c_ i)) ∧ Fr n0 L ∧ h = h0
theorem rmUc (hw : HW a0 Z) (aB : Addr) (kB : ClassId) (n : Nat) (c_ : Nat → Int32) (i : Nat) (fm : Value) (Z0 : n0 ≤ h0.size) (Sd : S_2 Z h0 (.int 1)) (Sh : S_3 Z h0 (.int 0)) (Sl : S_4 Z h0 (.int 8)) (Sfm : S_1 Z h0 fm) (hfm : fm.isRef = true) (VB : Arv Z h0 aB kB .byte (iN (2 * n)) (rg (2 * n) (ub c_)) (.int 0)) (hn4 : n ≤ 4) (hok : ∀ i, i < n → 0 ≤ (c_ i).toInt ∧ (c_ i).toInt < 65536) (hi : i < n) :
  QMg l Z mN11 jdk_52_method_83_code 2 (some .char) ws (rM 3 0 0 40) #[(.ref aB), (.int (iN i))] h0 (QUc Z aB kB n c_ i fm h0 n0) := by
 refine bodyN (pfn pn2) (Ls := #[rv aB, iv (iN i)]) (fun _ => rfl) ?_
 intro p e s m below meth c s₁ hx hby hlk hret hml hown hnm hZ hh X0 e0
 have D := @db _ _ _ hby Dj52_83
 show Gt s₁ m 0 _ []
 refine jN X0 hx (D 0 rfl) ?_ rfl
 refine aN X0 hx (D 1 rfl) ?_ rfl rfl
 refine zS X0 hx hZ hown hw 144 145 146 67 (rmUk l hw aB kB n c_ i fm Z0 Sfm hfm VB (by omega) (by omega)) e0 hml (D 2 rfl) pd5 (W := 0) (rest := []) ?_ rfl rfl rfl rfl (by decide) (lq rfl) rfl rfl rfl
 rintro T1 L1 v1 X1 ⟨rfl, N1q, eh1⟩
 have N1 := Fr.app (Fr.nil n0) N1q
 refine aN X1 hx (D 3 rfl) ?_ rfl rfl
 refine jN X1 hx (D 4 rfl) ?_ rfl
 refine zS X1 hx hZ hown hw 88 89 90 67 (rmGc l hw aB kB n c_ i Z0 Sd Sh Sl VB (by omega) hok (by omega)) eh1 hml (D 5 rfl) pd6 (W := 0) (rest := []) ?_ rfl rfl rfl rfl (by decide) (lq rfl) rfl rfl rfl
 rintro T2 L2 v2 X2 ⟨rfl, N2q, eh2⟩
 have N2 := Fr.app N1 N2q
 refine rN X2 hx hret (D 6 rfl) (own_nc (hok i hi)) hlk ?_ (by simp) (by decide) (by decide)
 rw [eh2]
 exact ⟨rfl, N2, rfl⟩
theorem own_ncl {c : Int32} (h : 0 ≤ c.toInt ∧ c.toInt < 256) : nar .char c = c := own_nc ⟨h.1, by omega⟩
theorem Dj43_2 : ∀ q ∈ ([(0, .iload_n 1, 1), (1, .aload_n 0, 1), (2, .arraylength, 1), (3, .invokestatic 9, 3), (6, .aload_n 0, 1), (7, .iload_n 1, 1), (8, .baload, 1), (9, .sipush 255, 3), (12, .iand, 1), (13, .i2c, 1), (14, .ireturn, 1)] : List (Nat × Instr × Nat)), decode jdk_43_method_2_code q.1 = .ok (q.2.1, q.2.2) := by decide +kernel
theorem pn3 : plainName "java/lang/StringLatin1" = true := by first | (simp [plainName, overriddenIn]; done) | decide +kernel
def QLc (Z : State) (aB : Addr) (kB : ClassId) (n : Nat) (c_ : Nat → Int32) (i : Nat) (fm : Value) (h0 : Heap) (n0 : Nat) (v : Option Value) (h : Heap) (L : List Loc) : Prop := v = some (.int (c_ i)) ∧ Fr n0 L ∧ h = h0
theorem rmLc (hw : HW a0 Z) (aB : Addr) (kB : ClassId) (n : Nat) (c_ : Nat → Int32) (i : Nat) (fm : Value) (Z0 : n0 ≤ h0.size) (Sfm : S_1 Z h0 fm) (hfm : fm.isRef = true) (VB : Arv Z h0 aB kB .byte (iN n) (rg n (fun i => .int (bch (c_ i)))) (.int 0)) (hn4 : n ≤ 4) (hok : ∀ i, i < n → 0 ≤ (c_ i).toInt ∧ (c_ i).toInt < 256) (hi : i < n) :
  QMg l Z mN12 jdk_43_method_2_code 2 (some .char) ws (rM 2 0 0 27) #[(.ref aB), (.int (iN i))] h0 (QLc Z aB kB n c_ i fm h0 n0) := by
 refine bodyN (pfn pn3) (Ls := #[rv aB, iv (iN i)]) (fun _ => rfl) ?_
 intro p e s m below meth c s₁ hx hby hlk hret hml hown hnm hZ hh X0 e0
 have D := @db _ _ _ hby Dj43_2
 show Gt s₁ m 0 _ []
 refine jN X0 hx (D 0 rfl) ?_ rfl
 refine aN X0 hx (D 1 rfl) ?_ rfl rfl
 refine qAL X0 hx hZ e0 VB (D 2 rfl) ?_
 refine zS X0 hx hZ hown hw 339 151 152 8 (rmSx l hw (iN i) (iN n) fm Z0 Sfm hfm (nnN i (by omega)) (ylN i n (by omega) (by omega) (by omega))) e0 hml (D 3 rfl) pd4 (W := 0) (rest := []) ?_ rfl rfl rfl rfl (by decide) (lq rfl) rfl rfl rfl
 rintro T2 L2 v2 X2 ⟨rfl, N2q, eh2⟩
 have N2 := Fr.app (Fr.nil n0) N2q
 refine aN X2 hx (D 4 rfl) ?_ rfl rfl
 refine jN X2 hx (D 5 rfl) ?_ rfl
 refine qBa X2 hx hZ eh2 VB ⟨nnN i (by omega), ylN i n (by omega) (by omega) (by omega)⟩ (v := (.int (bch (c_ i)))) (by rw [iN_nat (a := i) (by omega)]; exact rg_get _ _ (by omega)) (D 6 rfl) ?_
 refine gsipush X2 hx (D 7 rfl) ?_
 refine giand X2 hx (D 8 rfl) ?_
 show Gt T2 m 13 _ [(.int ((bch (c_ i)) &&& (255 : Int32)))]
 refine Goes.st (fun tg kg => XT.i2c X2.here hx rfl (D 9 rfl) rfl kg) ?_
 show Gt T2 m 14 #[rv aB, iv (iN i)] [(.int (((bch (c_ i)) &&& (255 : Int32))).toUInt32.toUInt16.toUInt32.toInt32)]
 rw [show (((bch (c_ i)) &&& (255 : Int32))).toUInt32.toUInt16.toUInt32.toInt32 = c_ i from (own_lat (hok i hi)).1]
 refine rN X2 hx hret (D 10 rfl) (own_ncl (hok i hi)) hlk ?_ (by simp) (by decide) (by decide)
 rw [eh2]
 exact ⟨rfl, N2, rfl⟩
def QCa (Z : State) (rb bb : Addr) (kb : ClassId) (u : Bool) (n : Nat) (c_ : Nat → Int32) (i : Nat) (cs : Int32) (fm : Value) (h0 : Heap) (n0 : Nat) (v : Option Value) (h : Heap) (L : List Loc) : Prop := v = some (.int (c_ i)) ∧ Fr n0 L ∧ h = h0
theorem Dj42_56 : ∀ q ∈ ([(0, .aload_n 0, 1), (1, .invokevirtual 492, 3), (4, .ifCond .eq 12, 3), (7, .aload_n 0, 1), (8, .getfield 9, 3), (11, .iload_n 1, 1), (12, .invokestatic 495, 3), (15, .ireturn, 1), (16, .aload_n 0, 1), (17, .getfield 9, 3), (20, .iload_n 1, 1), (21, .invokestatic 498, 3), (24, .ireturn, 1)] : List (Nat × Instr × Nat)), decode jdk_42_method_56_code q.1 = .ok (q.2.1, q.2.2) := by decide +kernel
theorem pd7 : parseMethodDescriptor "()Z" = some ⟨[], some .boolean⟩ := by decide +kernel
theorem rmCaL (hw : HW a0 Z) (rb bb : Addr) (kb : ClassId) (n : Nat) (c_ : Nat → Int32) (i : Nat) (cs : Int32) (fm : Value) (Z0 : n0 ≤ h0.size) (Scs : S_0 Z h0 (.int cs)) (hcs : ¬ cs = (0 : Int32)) (Sd : S_2 Z h0 (.int 1)) (Sh : S_3 Z h0 (.int 0)) (Sl : S_4 Z h0 (.int 8)) (Sfm : S_1 Z h0 fm) (hfm : fm.isRef = true) (Bs : Sb Z h0 rb bb kb false n c_) (hi : i < n) :
  QMg l Z mN13 jdk_42_method_56_code 2 (some .char) ws (rM 4 0 0 53) #[(.ref rb), (.int (iN i))] h0 (QCa Z rb bb kb u n c_ i cs fm h0 n0) := by
 refine bodyN (pfn pn0) (Ls := #[rv rb, iv (iN i)]) (fun _ => rfl) ?_
 intro p e s m below meth c s₁ hx hby hlk hret hml hown hnm hZ hh X0 e0
 have D := @db _ _ _ hby Dj42_56
 obtain ⟨Eb, Vb, Cb, Ab, hn4, hok⟩ := id Bs
 have Cb : F_1 Z h0 rb (.int 0) := Cb
 have Ab : Arv Z h0 bb kb .byte (iN n) (rg n (fun i => .int (bch (c_ i)))) (.int 0) := Ab
 have hok : ∀ i, i < n → 0 ≤ (c_ i).toInt ∧ (c_ i).toInt < 256 := hok
 show Gt s₁ m 0 _ []
 refine aN X0 hx (D 0 rfl) ?_ rfl rfl
 refine zV X0 hx hZ hown hw 136 rfl 137 139 138 140 8 (rmIl0 l hw rb cs Z0 Scs hcs Cb) e0 Eb hml (D 1 rfl) pd7 (W := 0) (rest := []) ?_ rfl rfl rfl rfl rfl (by decide) (lq rfl) rfl rfl rfl
 rintro T1 L1 v1 X1 ⟨rfl, N1q, eh1⟩
 have N1 := Fr.app (Fr.nil n0) N1q
 refine gifNo X1 hx (D 2 rfl) (by decide) ?_
 refine aN X1 hx (D 3 rfl) ?_ rfl rfl
 refine qGF X1 hx hZ hown (hw 25 rfl) Via.refl eh1 Vb (D 4 rfl) ?_
 intro T2 X2 e2
 refine jN X2 hx (D 5 rfl) ?_ rfl
 refine zS X2 hx hZ hown hw 335 336 338 337 (rmLc l hw bb kb n c_ i fm Z0 Sfm hfm Ab (by omega) hok (by omega)) e2 hml (D 6 rfl) pd6 (W := 0) (rest := []) ?_ rfl rfl rfl rfl (by decide) (lq rfl) rfl rfl rfl
 rintro T3 L3 v3 X3 ⟨rfl, N3q, eh3⟩
 have N3 := Fr.app N1 N3q
 refine rN X3 hx hret (D 7 rfl) (own_ncl (hok i hi)) hlk ?_ (by simp) (by decide) (by decide)
 rw [eh3]
 exact ⟨rfl, N3, rfl⟩
theorem rmCaU (hw : HW a0 Z) (rb bb : Addr) (kb : ClassId) (n : Nat) (c_ : Nat → Int32) (i : Nat) (cs : Int32) (fm : Value) (Z0 : n0 ≤ h0.size) (Scs : S_0 Z h0 (.int cs)) (hcs : ¬ cs = (0 : Int32)) (Sd : S_2 Z h0 (.int 1)) (Sh : S_3 Z h0 (.int 0)) (Sl : S_4 Z h0 (.int 8)) (Sfm : S_1 Z h0 fm) (hfm : fm.isRef = true) (Bs : Sb Z h0 rb bb kb true n c_) (hi : i < n) :
  QMg l Z mN13 jdk_42_method_56_code 2 (some .char) ws (rM 4 0 0 53) #[(.ref rb), (.int (iN i))] h0 (QCa Z rb bb kb u n c_ i cs fm h0 n0) := by
 refine bodyN (pfn pn0) (Ls := #[rv rb, iv (iN i)]) (fun _ => rfl) ?_
 intro p e s m below meth c s₁ hx hby hlk hret hml hown hnm hZ hh X0 e0
 have D := @db _ _ _ hby Dj42_56
 obtain ⟨Eb, Vb, Cb, Ab, hn4, hok⟩ := id Bs
 have Cb : F_1 Z h0 rb (.int 1) := Cb
 have Ab : Arv Z h0 bb kb .byte (iN (2 * n)) (rg (2 * n) (ub c_)) (.int 0) := Ab
 have hok : ∀ i, i < n → 0 ≤ (c_ i).toInt ∧ (c_ i).toInt < 65536 := hok
 show Gt s₁ m 0 _ []
 refine aN X0 hx (D 0 rfl) ?_ rfl rfl
 refine zV X0 hx hZ hown hw 136 rfl 137 139 138 140 8 (rmIl1 l hw rb cs Z0 Scs hcs Cb) e0 Eb hml (D 1 rfl) pd7 (W := 0) (rest := []) ?_ rfl rfl rfl rfl rfl (by decide) (lq rfl) rfl rfl rfl
 rintro T1 L1 v1 X1 ⟨rfl, N1q, eh1⟩
 have N1 := Fr.app (Fr.nil n0) N1q
 refine gT X1 hx (pc := 4) (pc' := 16) (D 2 rfl) (by decide) ?_ (by decide) (by decide)
 refine aN X1 hx (D 8 rfl) ?_ rfl rfl
 refine qGF X1 hx hZ hown (hw 25 rfl) Via.refl eh1 Vb (D 9 rfl) ?_
 intro T2 X2 e2
 refine jN X2 hx (D 10 rfl) ?_ rfl
 refine zS X2 hx hZ hown hw 141 142 143 67 (rmUc l hw bb kb n c_ i fm Z0 Sd Sh Sl Sfm hfm Ab (by omega) hok (by omega)) e2 hml (D 11 rfl) pd6 (W := 0) (rest := []) ?_ rfl rfl rfl rfl (by decide) (lq rfl) rfl rfl rfl
 rintro T3 L3 v3 X3 ⟨rfl, N3q, eh3⟩
 have N3 := Fr.app N1 N3q
 refine rN X3 hx hret (D 12 rfl) (own_nc (hok i hi)) hlk ?_ (by simp) (by decide) (by decide)
 rw [eh3]
 exact ⟨rfl, N3, rfl⟩
theorem rmCa (hw : HW a0 Z) (rb bb : Addr) (kb : ClassId) (u : Bool) (n : Nat) (c_ : Nat → Int32) (i : Nat) (cs : Int32) (fm : Value) (Z0 : n0 ≤ h0.size) (Scs : S_0 Z h0 (.int cs)) (hcs : ¬ cs = (0 : Int32)) (Sd : S_2 Z h0 (.int 1)) (Sh : S_3 Z h0 (.int 0)) (Sl : S_4 Z h0 (.int 8)) (Sfm : S_1 Z h0 fm) (hfm : fm.isRef = true) (Bs : Sb Z h0 rb bb kb u n c_) (hi : i < n) :
  QMg l Z mN13 jdk_42_method_56_code 2 (some .char) ws (rM 4 0 0 53) #[(.ref rb), (.int (iN i))] h0 (QCa Z rb bb kb u n c_ i cs fm h0 n0) := by
 cases u
 ·exact rmCaL l hw rb bb kb n c_ i cs fm Z0 Scs hcs Sd Sh Sl Sfm hfm Bs hi
 ·exact rmCaU l hw rb bb kb n c_ i cs fm Z0 Scs hcs Sd Sh Sl Sfm hfm Bs hi
theorem own_ite0 {f : Nat → Value} {v : Value} (i : Nat) : (if i < 0 then f i else v) = v := by rw [if_neg (by omega)]
theorem own_iteS {f : Nat → Value} {v : Value} {k : Nat} (i : Nat) : (if i = k then f k else if i < k then f i else v) = (if i < k + 1 then f i else v) := by
 by_cases e : i = k
 ·subst e; rw [if_pos rfl, if_pos (by omega)]
 ·rw [if_neg e]
  by_cases q : i < k
  ·rw [if_pos q, if_pos (by omega)]
  ·rw [if_neg q, if_neg (by omega)]
def Cmp (n : Nat) (c : Nat → Int32) (r : Nat) (f : Nat → Value) : Prop := (r = n ∧ (∀ i, i < n → ¬ (255 : Int32) < c i) ∧ f = fun i => .int (bch (c i))) ∨ (r < n ∧ (255 : Int32) < c r)
theorem Dj52_21 : ∀ q ∈ ([(0, .iconst 0, 1), (1, .istore 5, 2), (3, .iload 5, 2), (5, .iload 4, 2), (7, .if_icmp .ge 37, 3), (10, .aload_n 0, 1), (11, .iload_n 1, 1), (12, .caload, 1), (13, .istore 6, 2), (15, .iload 6, 2), (17, .sipush 255, 3), (20, .if_icmp .le 6, 3), (23, .iload 5, 2), (25, .ireturn, 1), (26, .aload_n 2, 1), (27, .iload_n 3, 1), (28, .iload 6, 2), (30, .i2b, 1), (31, .bastore, 1), (32, .iinc 1 1, 3), (35, .iinc 3 1, 3), (38, .iinc 5 1, 3), (41, .goto (-38), 3), (44, .iload 4, 2), (46, .ireturn, 1)] : List (Nat × Instr × Nat)), decode jdk_52_method_21_code q.1 = .ok (q.2.1, q.2.2) := by decide +kernel
def QCc (Z : State) (aC : Addr) (kC : ClassId) (n : Nat) (c_ : Nat → Int32) (aB : Addr) (kB : ClassId) (h0 : Heap) (n0 : Nat) (v : Option Value) (h : Heap) (L : List Loc) : Prop := ∃ (r : Nat) (f : Nat → Value), v = some (.int (iN r)) ∧ Fr n0 L ∧ Keep h0 h [aB] ∧ Arv Z h aB kB .byte (iN n) (rg n f) (.int 0) ∧ Cmp n c_ r f
def ICc (p : Program) (l : Launch) (e : Env) (s : State) (m : MethodId) (args : Array Value) (below : List Frame) (meth : Method) (c : Code) (Z : State) (n0 : Nat) (h0 : Heap) (aC : Addr) (kC : ClassId) (aB : Addr) (kB : ClassId) (n : Nat) (c_ : Nat → Int32) (k : Nat) : Prop := ∀ (T0 : State) (locs0 : List Loc) (hh : Heap) (o6 : Option Int32), Stand p l e (rM 0 0 0 0) s m args below meth c T0 locs0 0 0 → T0.heap = hh → Fr n0 locs0 → n0 ≤ hh.size → Keep h0 hh [aB] → Arv Z hh aC kC .char (iN n) (rg n (fun i => .int (c_ i))) (.int 0) → Arv Z hh aB kB .byte (iN n) (rg n (fun i => if i < k then .int (bch (c_ i)) else .int 0)) (.int 0) → (n ≤ 4) → (k ≤ n) → (n0 ≤ aB) → (∀ i, i < k → ¬ (255 : Int32) < c_ i) → Goes p e below (EN s (QCc Z aC kC n c_ aB kB h0 n0) (rM 0 0 0 0).cells (rM 0 0 0 0).slots) (T0.setTop (mkF m 3 #[rv aC, iv (iN k), rv aB, iv (iN k), iv (iN n), iv (iN k), (os o6)] []))
theorem tnCc {p : Program} {l : Launch} {e : Env} {s : State} {m : MethodId} {args : Array Value} {below : List Frame} {meth : Method} {c : Code}  (Z : State) (a0 : Array Value) (hw : HW a0 Z) (hx : p.tables.exec = Jvm.exec) (hby : c.code = jdk_52_method_21_code) (hlk : meth.locks = false) (hret : meth.sig.returnType = some .int) (hml : c.maxLocals = 7) (hnm : meth.name = "compress") (hown : s.vm.findClass "java/lang/StringUTF16" = some m.cls) (hZ : Z.Warmed39 s.vm) (aC : Addr) (kC : ClassId) (aB : Addr) (kB : ClassId) (n : Nat) (c_ : Nat → Int32) (k : Nat) (o6 : Option Int32) (h0 hh : Heap) (n0 : Nat) (T0 : State) (locs0 : List Loc) (X0 : Stand p l e (rM 0 0 0 0) s m args below meth c T0 locs0 0 0) (e0 : T0.heap = hh) (N0 : Fr n0 locs0) (Z0 : n0 ≤ hh.size) (K0 : Keep h0 hh [aB]) (VC : Arv Z hh aC kC .char (iN n) (rg n (fun i => .int (c_ i))) (.int 0)) (VB : Arv Z hh aB kB .byte (iN n) (rg n (fun i => if i < k then .int (bch (c_ i)) else .int 0)) (.int 0)) (hn4 : n ≤ 4) (hk_ : k ≤ n) (lB : n0 ≤ aB) (hlt : ∀ i, i < k → ¬ (255 : Int32) < c_ i) (ih : k < n → ICc p l e s m args below meth c Z n0 h0 aC kC aB kB n c_ (k + 1)) :
  Goes p e below (EN s (QCc Z aC kC n c_ aB kB h0 n0) (rM 0 0 0 0).cells (rM 0 0 0 0).slots) (T0.setTop (mkF m 3 #[rv aC, iv (iN k), rv aB, iv (iN k), iv (iN n), iv (iN k), (os o6)] [])) := by
 have D := @db _ _ _ hby Dj52_21
 show Gt T0 m 3 _ []
 refine jW X0 hx (D 2 rfl) ?_ rfl
 refine jW X0 hx (D 3 rfl) ?_ rfl
 by_cases c1 : (iN k) < (iN n)
 ·have c1N := (iN_lt (a := k) (b := n) (by omega) (by omega)).mp c1
  refine gicmpNo X0 hx (D 4 rfl) (tlt c1).2.1 ?_
  refine aN X0 hx (D 5 rfl) ?_ rfl rfl
  refine jN X0 hx (D 6 rfl) ?_ rfl
  refine qCa X0 hx hZ e0 VC ⟨nnN k (by omega), ylN k n (by omega) (by omega) (by omega)⟩ (v := (.int (c_ k))) (by rw [iN_nat (a := k) (by omega)]; exact rg_get _ _ (by omega)) (D 7 rfl) ?_
  refine gistore X0 hx (D 8 rfl) (l' := #[rv aC, iv (iN k), rv aB, iv (iN k), iv (iN n), iv (iN k), iv (c_ k)]) (by cases o6 <;> rfl) ?_
  refine jW X0 hx (D 9 rfl) ?_ rfl
  refine gsipush X0 hx (D 10 rfl) ?_
  show Gt T0 m 20 _ [(.int 255), (.int (c_ k))]
  by_cases c3 : (255 : Int32) < (c_ k)
  ·refine gicmpNo X0 hx (D 11 rfl) (tlt c3).2.2.2 ?_
   refine jW X0 hx (D 12 rfl) ?_ rfl
   refine rI X0 hx hret (D 13 rfl) hlk ?_ (by decide) (by decide)
   rw [e0]
   exact ⟨k, _, rfl, N0, K0, VB, Or.inr ⟨by omega, c3⟩⟩
  ·refine gY X0 hx (pc := 20) (pc' := 26) (D 11 rfl) (flt c3).2.2.2 ?_ (by decide) (by decide)
   refine aN X0 hx (D 14 rfl) ?_ rfl rfl
   refine jN X0 hx (D 15 rfl) ?_ rfl
   refine jW X0 hx (D 16 rfl) ?_ rfl
   show Gt T0 m 30 _ [(.int (c_ k)), (.int (iN k)), (.ref aB)]
   refine Goes.st (fun tg kg => XT.i2b X0.here hx rfl (D 17 rfl) rfl kg) ?_
   show Gt T0 m 31 #[rv aC, iv (iN k), rv aB, iv (iN k), iv (iN n), iv (iN k), iv (c_ k)] [(.int ((c_ k)).toInt8.toInt32), (.int (iN k)), (.ref aB)]
   obtain ⟨cl4, Ar4, qk4, Sz4, qz4, Ha4, Gf4⟩ := id VB
   obtain ⟨T4, h4, X4, e4, W4, st4⟩ := stB X0 hx hZ e0 Ar4 (inb_of Sz4 ⟨nnN k (by omega), ylN k n (by omega) (by omega) (by omega)⟩) (g := (mkF m 31 #[rv aC, iv (iN k), rv aB, iv (iN k), iv (iN n), iv (iN k), iv (c_ k)] [(.int ((c_ k)).toInt8.toInt32), (.int (iN k)), (.ref aB)])) rfl rfl (D 18 rfl)
   have N4 := Fr.snoc X4 N0 lB
   have V4 : Arv Z h4 aB kB .byte (iN n) (rg n (fun i => if i < (k + 1) then .int (bch (c_ i)) else .int 0)) (.int 0) := rg_up (fun i _ => own_iteS (f := fun i => .int (bch (c_ i))) (k := k) i) (Arv.set Ar4 qk4 Sz4 qz4 Ha4 Gf4 (fits_nar_byte _) W4 k (iN_nat (a := k) (by omega)) (by rw [rg_len]; omega))
   refine Goes.st st4 ?_
   have KK5 := K0.wr W4 (Or.inl (mI 0 rfl))
   have Z4 : n0 ≤ h4.size := by have := W4.size; have := Z0; omega
   refine giinc X4 hx (D 19 rfl) rfl (l' := #[rv aC, iv ((iN k) + (1 : Int32)), rv aB, iv (iN k), iv (iN n), iv (iN k), iv (c_ k)]) rfl ?_
   show Gt T4 m 35 _ []
   rw [show ((iN k) + (1 : Int32)) = (iN (k + 1)) from iN_add k 1]
   refine giinc X4 hx (D 20 rfl) rfl (l' := #[rv aC, iv (iN (k + 1)), rv aB, iv ((iN k) + (1 : Int32)), iv (iN n), iv (iN k), iv (c_ k)]) rfl ?_
   show Gt T4 m 38 _ []
   rw [show ((iN k) + (1 : Int32)) = (iN (k + 1)) from iN_add k 1]
   refine giinc X4 hx (D 21 rfl) rfl (l' := #[rv aC, iv (iN (k + 1)), rv aB, iv (iN (k + 1)), iv (iN n), iv ((iN k) + (1 : Int32)), iv (c_ k)]) rfl ?_
   show Gt T4 m 41 _ []
   rw [show ((iN k) + (1 : Int32)) = (iN (k + 1)) from iN_add k 1]
   refine gG X4 hx (pc := 41) (pc' := 3) (D 22 rfl) ?_ (by decide) (by decide)
   show Gt T4 m 3 _ []
   have f6 := (VC.other W4 (kinTy (VC.kin.wr W4) V4.kin (by decide)))
   exact ih (by omega) T4 _ h4 (some (c_ k)) X4 e4 N4 Z4 KK5 f6 V4 hn4 (by omega) lB (fun i q => if e : i = k then e ▸ c3 else hlt i (by omega))
 ·have c1N : ¬ k < n := fun q => c1 ((iN_lt (a := k) (b := n) (by omega) (by omega)).mpr q)
  refine gY X0 hx (pc := 7) (pc' := 44) (D 4 rfl) (flt c1).2.1 ?_ (by decide) (by decide)
  refine jW X0 hx (D 23 rfl) ?_ rfl
  refine rI X0 hx hret (D 24 rfl) hlk ?_ (by decide) (by decide)
  rw [e0]
  exact ⟨n, _, rfl, N0, K0, rg_to VB (fun i q => if_pos (by omega)), Or.inl ⟨rfl, fun i q => hlt i (by omega), rfl⟩⟩
theorem lpCc {p : Program} {l : Launch} {e : Env} {s : State} {m : MethodId} {args : Array Value} {below : List Frame} {meth : Method} {c : Code} (Z : State) (a0 : Array Value) (hw : HW a0 Z) (hx : p.tables.exec = Jvm.exec) (hby : c.code = jdk_52_method_21_code) (hlk : meth.locks = false) (hret : meth.sig.returnType = some .int) (hml : c.maxLocals = 7) (hnm : meth.name = "compress") (hown : s.vm.findClass "java/lang/StringUTF16" = some m.cls) (hZ : Z.Warmed39 s.vm) (aC : Addr) (kC : ClassId) (aB : Addr) (kB : ClassId) (n : Nat) (c_ : Nat → Int32) (h0 : Heap) (n0 : Nat) : ∀ dj_ k, n - k = dj_ → ICc p l e s m args below meth c Z n0 h0 aC kC aB kB n c_ k := by
 intro dj_
 induction dj_ with
 | zero =>
  intro k hd_ T0 locs0 hh o6 X0 e0 N0 Z0 K0 VC VB hn4 hk_ lB hlt
  exact tnCc Z a0 hw hx hby hlk hret hml hnm hown hZ aC kC aB kB n c_ k o6 h0 hh n0 T0 locs0 X0 e0 N0 Z0 K0 VC VB hn4 hk_ lB hlt (fun q => absurd q (by omega))
 | succ dj_ ih =>
  intro k hd_ T0 locs0 hh o6 X0 e0 N0 Z0 K0 VC VB hn4 hk_ lB hlt
  exact tnCc Z a0 hw hx hby hlk hret hml hnm hown hZ aC kC aB kB n c_ k o6 h0 hh n0 T0 locs0 X0 e0 N0 Z0 K0 VC VB hn4 hk_ lB hlt (fun q => ih (k + 1) (by omega))
theorem rmCc (hw : HW a0 Z) (aC : Addr) (kC : ClassId) (n : Nat) (c_ : Nat → Int32) (aB : Addr) (kB : ClassId) (Z0 : n0 ≤ h0.size) (VC : Arv Z h0 aC kC .char (iN n) (rg n (fun i => .int (c_ i))) (.int 0)) (VB : Arv Z h0 aB kB .byte (iN n) (rg n (fun _ => .int 0)) (.int 0)) (lB : n0 ≤ aB) (hn4 : n ≤ 4) :
  QMg l Z mN14 jdk_52_method_21_code 7 (some .int) ws (rM 0 0 0 0) #[(.ref aC), (.int 0), (.ref aB), (.int 0), (.int (iN n))] h0 (QCc Z aC kC n c_ aB kB h0 n0) := by
 refine bodyN (pfn pn2) (Ls := #[rv aC, iv 0, rv aB, iv 0, iv (iN n), .unset, .unset]) (fun _ => rfl) ?_
 intro p e s m below meth c s₁ hx hby hlk hret hml hown hnm hZ hh X0 e0
 have D := @db _ _ _ hby Dj52_21
 have K0 : Keep h0 h0 [aB] := Keep.refl _ _
 show Gt s₁ m 0 _ []
 refine giconst X0 hx (D 0 rfl) ?_
 refine gistore X0 hx (D 1 rfl) (l' := #[rv aC, iv 0, rv aB, iv 0, iv (iN n), iv 0, .unset]) rfl ?_
 show Gt s₁ m 3 _ []
 have VB0 : Arv Z h0 aB kB .byte (iN n) (rg n (fun i => if i < 0 then .int (bch (c_ i)) else .int 0)) (.int 0) := rg_to VB (fun i _ => (own_ite0 (f := fun i => .int (bch (c_ i))) i).symm)
 exact lpCc Z a0 hw hx hby hlk hret hml hnm hown hZ aC kC aB kB n c_ h0 n0 _ 0 rfl s₁ _ h0 none X0 e0 (Fr.nil n0) Z0 K0 VC VB0 hn4 (by omega) lB (fun i q => absurd q (by omega))
theorem iN_big {n : Nat} (h : n ≤ 8) : iN n < (1073741823 : Int32) := by
 rw [Int32.lt_iff_toInt_lt, iN_int (by omega)]
 show (n : Int) < 1073741823
 omega
theorem Dj52_3 : ∀ q ∈ ([(0, .iload_n 0, 1), (1, .ifCond .ge 11, 3), (12, .iload_n 0, 1), (13, .ldc 20, 2), (15, .if_icmp .lt 40, 3), (55, .iload_n 0, 1), (56, .iconst 1, 1), (57, .ishl, 1), (58, .ireturn, 1)] : List (Nat × Instr × Nat)), decode jdk_52_method_3_code q.1 = .ok (q.2.1, q.2.2) := by decide +kernel
def QNl (Z : State) (n : Nat) (h0 : Heap) (n0 : Nat) (v : Option Value) (h : Heap) (L : List Loc) : Prop := v = some (.int (iN (2 * n))) ∧ Fr n0 L ∧ h = h0
theorem rmNl (hw : HW a0 Z) (n : Nat) (Z0 : n0 ≤ h0.size) (hn4 : n ≤ 8) :
  QMg l Z mN15 jdk_52_method_3_code 1 (some .int) ws (rM 0 0 0 0) #[(.int (iN n))] h0 (QNl Z n h0 n0) := by
 refine bodyN (pfn pn2) (Ls := #[iv (iN n)]) (fun _ => rfl) ?_
 intro p e s m below meth c s₁ hx hby hlk hret hml hown hnm hZ hh X0 e0
 have D := @db _ _ _ hby Dj52_3
 show Gt s₁ m 0 _ []
 refine jN X0 hx (D 0 rfl) ?_ rfl
 refine gT X0 hx (pc := 1) (pc' := 12) (D 1 rfl) ((if0 _ _).trans (flt (nlN n 0 (by omega) (by omega) (by omega))).2.1) ?_ (by decide) (by decide)
 refine jN X0 hx (D 2 rfl) ?_ rfl
 show Gt s₁ m 13 _ [(.int (iN n))]
 refine Goes.st (fun tg kg => X0.ldcInt hx hown (mvT hZ (hw 81 rfl)) (g := (mkF m 13 #[iv (iN n)] [(.int (iN n))])) rfl (D 3 rfl) tg kg) ?_
 refine gY X0 hx (pc := 15) (pc' := 55) (D 4 rfl) (tlt (iN_big hn4)).1 ?_ (by decide) (by decide)
 refine jN X0 hx (D 5 rfl) ?_ rfl
 refine giconst X0 hx (D 6 rfl) ?_
 show Gt s₁ m 57 #[iv (iN n)] [(.int 1), (.int (iN n))]
 refine Goes.st (fun tg kg => XT.ishl X0.here hx rfl (D 7 rfl) rfl kg) ?_
 show Gt s₁ m 58 #[iv (iN n)] [(.int ((iN n) <<< ((1 : Int32) &&& 31)))]
 rw [show ((iN n) <<< ((1 : Int32) &&& 31)) = (iN (2 * n)) from iN_shl (a := n) (by omega)]
 refine rI X0 hx hret (D 8 rfl) hlk ?_ (by decide) (by decide)
 rw [e0]
 exact ⟨rfl, (Fr.nil n0), rfl⟩
theorem Dj52_2 : ∀ q ∈ ([(0, .iload_n 0, 1), (1, .invokestatic 11, 3), (4, .newarray .byte, 2), (6, .areturn, 1)] : List (Nat × Instr × Nat)), decode jdk_52_method_2_code q.1 = .ok (q.2.1, q.2.2) := by decide +kernel
theorem pd8 : parseMethodDescriptor "(I)I" = some ⟨[.int], some .int⟩ := by decide +kernel
def QNf (Z : State) (n : Nat) (h0 : Heap) (n0 : Nat) (v : Option Value) (h : Heap) (L : List Loc) : Prop := ∃ (b : Addr) (kB : ClassId), v = some (.ref b) ∧ Fr n0 L ∧ Keep h0 h [] ∧ h0.size ≤ b ∧ n0 ≤ b ∧ Arv Z h b kB .byte (iN (2 * n)) (rg (2 * n) (fun _ => .int 0)) (.int 0)
theorem rmNf (hw : HW a0 Z) (n : Nat) (Z0 : n0 ≤ h0.size) (hn4 : n ≤ 4) :
  QMg l Z mN16 jdk_52_method_2_code 1 (some (.array .byte)) ws (rM 1 1 8 12) #[(.int (iN n))] h0 (QNf Z n h0 n0) := by
 refine bodyN (pfn pn2) (Ls := #[iv (iN n)]) (fun _ => rfl) ?_
 intro p e s m below meth c s₁ hx hby hlk hret hml hown hnm hZ hh X0 e0
 have D := @db _ _ _ hby Dj52_2
 have K0 : Keep h0 h0 [] := Keep.refl _ _
 show Gt s₁ m 0 _ []
 refine jN X0 hx (D 0 rfl) ?_ rfl
 refine zS X0 hx hZ hown hw 78 79 80 67 (rmNl l hw n Z0 (by omega)) e0 hml (D 1 rfl) pd8 (W := 0) (rest := []) ?_ rfl rfl rfl rfl (by decide) (lq rfl) rfl rfl rfl
 rintro T1 L1 v1 X1 ⟨rfl, N1q, eh1⟩
 have N1 := Fr.app (Fr.nil n0) N1q
 obtain ⟨T2, h2, cA2, X2, e2, E2, A2, st2⟩ := newP X1 hx hZ (hw 20 rfl) eh1 (g := (mkF m 4 #[iv (iN n)] [(.int (iN (2 * n)))])) rfl (D 2 rfl) rfl (nnN (2 * n) (by omega)) (cap := 8) (by rw [iN_nat (a := 2 * n) (by omega)]; omega) (by decide) (by decide) (by decide)
 obtain ⟨b2, g2⟩ : ∃ z, z = h0.size := ⟨_, rfl⟩
 rw [← g2] at A2 st2
 have lo_b2 := loB Z0 g2
 have sz_b2 := loB K0.1 g2
 have KK3 := K0.ext E2
 have V2 : Arv Z h2 b2 cA2 .byte (iN (2 * n)) (rg (2 * n) (fun _ => (.int 0))) (.int 0) := rg_pad (Arv.new A2 (nnN (2 * n) (by omega))) (2 * n)
 refine Goes.st st2 ?_
 have Z2 := lT Z0 E2.1
 refine rA X2 hx hret (D 3 rfl) hlk ?_ rfl rfl rfl (by decide) (by decide)
 rw [e2]
 exact ⟨b2, cA2, rfl, N1, KK3, sz_b2, lo_b2, V2⟩
def up2 (f : Nat → Value) (i : Nat) (c : Int32) (j : Nat) : Value := if j = 2 * i + 1 then .int (b8_ c) else if j = 2 * i then .int (b0_ c) else f j
theorem Dj52_4 : ∀ q ∈ ([(0, .getstatic 44, 3), (3, .ifCond .ne 25, 3), (28, .iload_n 1, 1), (29, .iconst 1, 1), (30, .ishl, 1), (31, .istore_n 1, 1), (32, .aload_n 0, 1), (33, .iload_n 1, 1), (34, .iinc 1 1, 3), (37, .iload_n 2, 1), (38, .getstatic 59, 3), (41, .ishr, 1), (42, .i2b, 1), (43, .bastore, 1), (44, .aload_n 0, 1), (45, .iload_n 1, 1), (46, .iload_n 2, 1), (47, .getstatic 63, 3), (50, .ishr, 1), (51, .i2b, 1), (52, .bastore, 1), (53, .return_, 1)] : List (Nat × Instr × Nat)), decode jdk_52_method_4_code q.1 = .ok (q.2.1, q.2.2) := by decide +kernel
def QPc_ (Z : State) (aB : Addr) (kB : ClassId) (n i : Nat) (cc : Int32) (ff : Nat → Value) (h0 : Heap) (n0 : Nat) (v : Option Value) (h : Heap) (L : List Loc) : Prop := v = none ∧ Fr n0 L ∧ Keep h0 h [aB] ∧ Arv Z h aB kB .byte (iN (2 * n)) (rg (2 * n) (up2 ff i cc)) (.int 0)
theorem rmPc_ (hw : HW a0 Z) (aB : Addr) (kB : ClassId) (n i : Nat) (cc : Int32) (ff : Nat → Value) (Z0 : n0 ≤ h0.size) (Sd : S_2 Z h0 (.int 1)) (Sh : S_3 Z h0 (.int 0)) (Sl : S_4 Z h0 (.int 8)) (lB : n0 ≤ aB) (VB : Arv Z h0 aB kB .byte (iN (2 * n)) (rg (2 * n) ff) (.int 0)) (hn4 : n ≤ 4) (hi : i < n) :
  QMg l Z mN17 jdk_52_method_4_code 3 none ws (rM 0 0 0 0) #[(.ref aB), (.int (iN i)), (.int cc)] h0 (QPc_ Z aB kB n i cc ff h0 n0) := by
 refine bodyN (pfn pn2) (Ls := #[rv aB, iv (iN i), iv cc]) (fun _ => rfl) ?_
 intro p e s m below meth c s₁ hx hby hlk hret hml hown hnm hZ hh X0 e0
 have D := @db _ _ _ hby Dj52_4
 have K0 : Keep h0 h0 [aB] := Keep.refl _ _
 show Gt s₁ m 0 _ []
 obtain ⟨T1, X1, e1, st1⟩ := getS X0 hx hZ hown (host := "") (hw 85 rfl) Via.refl e0 Sd (g := (mkF m 0 #[rv aB, iv (iN i), iv cc] [])) rfl (D 0 rfl)
 refine Goes.st st1 ?_
 refine gT X1 hx (pc := 3) (pc' := 28) (D 1 rfl) (by decide) ?_ (by decide) (by decide)
 refine jN X1 hx (D 2 rfl) ?_ rfl
 refine giconst X1 hx (D 3 rfl) ?_
 show Gt T1 m 30 #[rv aB, iv (iN i), iv cc] [(.int 1), (.int (iN i))]
 refine Goes.st (fun tg kg => XT.ishl X1.here hx rfl (D 4 rfl) rfl kg) ?_
 show Gt T1 m 31 #[rv aB, iv (iN i), iv cc] [(.int ((iN i) <<< ((1 : Int32) &&& 31)))]
 rw [show ((iN i) <<< ((1 : Int32) &&& 31)) = (iN (2 * i)) from iN_shl (a := i) (by omega)]
 refine gistoreN X1 hx (D 5 rfl) (l' := #[rv aB, iv (iN (2 * i)), iv cc]) rfl ?_
 refine aN X1 hx (D 6 rfl) ?_ rfl rfl
 refine jN X1 hx (D 7 rfl) ?_ rfl
 refine giinc X1 hx (D 8 rfl) rfl (l' := #[rv aB, iv ((iN (2 * i)) + (1 : Int32)), iv cc]) rfl ?_
 show Gt T1 m 37 _ [(.int (iN (2 * i))), (.ref aB)]
 rw [show ((iN (2 * i)) + (1 : Int32)) = (iN ((2 * i) + 1)) from iN_add (2 * i) 1]
 refine jN X1 hx (D 9 rfl) ?_ rfl
 obtain ⟨T2, X2, e2, st2⟩ := getS X1 hx hZ hown (host := "") (hw 86 rfl) Via.refl e1 Sh (g := (mkF m 38 #[rv aB, iv (iN ((2 * i) + 1)), iv cc] [(.int cc), (.int (iN (2 * i))), (.ref aB)])) rfl (D 10 rfl)
 refine Goes.st st2 ?_
 show Gt T2 m 41 #[rv aB, iv (iN ((2 * i) + 1)), iv cc] [(.int 0), (.int cc), (.int (iN (2 * i))), (.ref aB)]
 refine Goes.st (fun tg kg => XT.ishr X2.here hx rfl (D 11 rfl) rfl kg) ?_
 show Gt T2 m 42 #[rv aB, iv (iN ((2 * i) + 1)), iv cc] [(.int (cc >>> ((0 : Int32) &&& 31))), (.int (iN (2 * i))), (.ref aB)]
 refine Goes.st (fun tg kg => XT.i2b X2.here hx rfl (D 12 rfl) rfl kg) ?_
 show Gt T2 m 43 #[rv aB, iv (iN ((2 * i) + 1)), iv cc] [(.int ((cc >>> ((0 : Int32) &&& 31))).toInt8.toInt32), (.int (iN (2 * i))), (.ref aB)]
 obtain ⟨cl3, Ar3, qk3, Sz3, qz3, Ha3, Gf3⟩ := id VB
 obtain ⟨T3, h3, X3, e3, W3, st3⟩ := stB X2 hx hZ e2 Ar3 (inb_of Sz3 ⟨nnN (2 * i) (by omega), ylN (2 * i) (2 * n) (by omega) (by omega) (by omega)⟩) (g := (mkF m 43 #[rv aB, iv (iN ((2 * i) + 1)), iv cc] [(.int ((cc >>> ((0 : Int32) &&& 31))).toInt8.toInt32), (.int (iN (2 * i))), (.ref aB)])) rfl rfl (D 13 rfl)
 have N3 := Fr.snoc X3 (Fr.nil n0) lB
 have V3 : Arv Z h3 aB kB .byte (iN (2 * n)) (rg (2 * n) (fun j => if j = 2 * i then .int (b0_ cc) else ff j)) (.int 0) := rg_up (fun j _ => rfl) (Arv.set Ar3 qk3 Sz3 qz3 Ha3 Gf3 (fits_nar_byte _) W3 (2 * i) (iN_nat (a := 2 * i) (by omega)) (by rw [rg_len]; omega))
 refine Goes.st st3 ?_
 have KK4 := K0.wr W3 (Or.inl (mI 0 rfl))
 have Z3 : n0 ≤ h3.size := by have := W3.size; have := Z0; omega
 refine aN X3 hx (D 14 rfl) ?_ rfl rfl
 refine jN X3 hx (D 15 rfl) ?_ rfl
 refine jN X3 hx (D 16 rfl) ?_ rfl
 have f6 := (Sl.wr W3)
 obtain ⟨T5, X5, e5, st5⟩ := getS X3 hx hZ hown (host := "") (hw 87 rfl) Via.refl e3 f6 (g := (mkF m 47 #[rv aB, iv (iN ((2 * i) + 1)), iv cc] [(.int cc), (.int (iN ((2 * i) + 1))), (.ref aB)])) rfl (D 17 rfl)
 refine Goes.st st5 ?_
 show Gt T5 m 50 #[rv aB, iv (iN ((2 * i) + 1)), iv cc] [(.int 8), (.int cc), (.int (iN ((2 * i) + 1))), (.ref aB)]
 refine Goes.st (fun tg kg => XT.ishr X5.here hx rfl (D 18 rfl) rfl kg) ?_
 show Gt T5 m 51 #[rv aB, iv (iN ((2 * i) + 1)), iv cc] [(.int (cc >>> ((8 : Int32) &&& 31))), (.int (iN ((2 * i) + 1))), (.ref aB)]
 refine Goes.st (fun tg kg => XT.i2b X5.here hx rfl (D 19 rfl) rfl kg) ?_
 show Gt T5 m 52 #[rv aB, iv (iN ((2 * i) + 1)), iv cc] [(.int ((cc >>> ((8 : Int32) &&& 31))).toInt8.toInt32), (.int (iN ((2 * i) + 1))), (.ref aB)]
 obtain ⟨cl7, Ar7, qk7, Sz7, qz7, Ha7, Gf7⟩ := id V3
 obtain ⟨T7, h7, X7, e7, W7, st7⟩ := stB X5 hx hZ e5 Ar7 (inb_of Sz7 ⟨nnN ((2 * i) + 1) (by omega), ylN ((2 * i) + 1) (2 * n) (by omega) (by omega) (by omega)⟩) (g := (mkF m 52 #[rv aB, iv (iN ((2 * i) + 1)), iv cc] [(.int ((cc >>> ((8 : Int32) &&& 31))).toInt8.toInt32), (.int (iN ((2 * i) + 1))), (.ref aB)])) rfl rfl (D 20 rfl)
 have N7 := Fr.snoc X7 N3 lB
 have V7 : Arv Z h7 aB kB .byte (iN (2 * n)) (rg (2 * n) (up2 ff i cc)) (.int 0) := rg_up (fun j _ => rfl) (Arv.set Ar7 qk7 Sz7 qz7 Ha7 Gf7 (fits_nar_byte _) W7 ((2 * i) + 1) (iN_nat (a := (2 * i) + 1) (by omega)) (by rw [rg_len]; omega))
 refine Goes.st st7 ?_
 have KK8 := KK4.wr W7 (Or.inl (mI 0 rfl))
 have Z7 : n0 ≤ h7.size := by have := W7.size; have := Z3; omega
 refine rV X7 hx hret (D 21 rfl) hlk ?_ (by decide) (by decide)
 rw [e7]
 exact ⟨rfl, N7, KK8, V7⟩
theorem own_ub0 (c : Nat → Int32) (j : Nat) : (if j < 2 * 0 then ub c j else .int 0) = .int 0 := by rw [if_neg (by omega)]
theorem own_ubS (c : Nat → Int32) (k j : Nat) : up2 (fun j => if j < 2 * k then ub c j else .int 0) k (c k) j = (if j < 2 * (k + 1) then ub c j else .int 0) := by
 unfold up2
 by_cases e : j = 2 * k + 1
 ·subst e; rw [if_pos rfl, if_pos (by omega), ub1]
 ·by_cases q : j = 2 * k
  ·subst q; rw [if_neg e, if_pos rfl, if_pos (by omega), ub0]
  ·rw [if_neg e, if_neg q]
   by_cases r : j < 2 * k
   ·show (if j < 2 * k then _ else _) = _; rw [if_pos r, if_pos (by omega)]
   ·show (if j < 2 * k then _ else _) = _; rw [if_neg r, if_neg (by omega)]
theorem Dj52_14 : ∀ q ∈ ([(0, .iload_n 2, 1), (1, .invokestatic 107, 3), (4, .astore_n 3, 1), (5, .iconst 0, 1), (6, .istore 4, 2), (8, .iload 4, 2), (10, .iload_n 2, 1), (11, .if_icmp .ge 21, 3), (14, .aload_n 3, 1), (15, .iload 4, 2), (17, .aload_n 0, 1), (18, .iload_n 1, 1), (19, .caload, 1), (20, .invokestatic 111, 3), (23, .iinc 1 1, 3), (26, .iinc 4 1, 3), (29, .goto (-21), 3), (32, .aload_n 3, 1), (33, .areturn, 1)] : List (Nat × Instr × Nat)), decode jdk_52_method_14_code q.1 = .ok (q.2.1, q.2.2) := by decide +kernel
theorem pd9 : parseMethodDescriptor "(I)[B" = some ⟨[.int], some (.array .byte)⟩ := by decide +kernel
theorem pd10 : parseMethodDescriptor "([BII)V" = some ⟨[(.array .byte), .int, .int], none⟩ := by decide +kernel
def QTb (Z : State) (aC : Addr) (kC : ClassId) (n : Nat) (c_ : Nat → Int32) (h0 : Heap) (n0 : Nat) (v : Option Value) (h : Heap) (L : List Loc) : Prop := ∃ (b : Addr) (kB : ClassId), v = some (.ref b) ∧ Fr n0 L ∧ Keep h0 h [] ∧ h0.size ≤ b ∧ n0 ≤ b ∧ Arv Z h b kB .byte (iN (2 * n)) (rg (2 * n) (ub c_)) (.int 0)
def ITb (p : Program) (l : Launch) (e : Env) (s : State) (m : MethodId) (args : Array Value) (below : List Frame) (meth : Method) (c : Code) (Z : State) (n0 : Nat) (h0 : Heap) (aC : Addr) (kC : ClassId) (aB : Addr) (kB : ClassId) (n : Nat) (c_ : Nat → Int32) (k : Nat) : Prop := ∀ (T0 : State) (locs0 : List Loc) (hh : Heap), Stand p l e (rM 2 1 8 24) s m args below meth c T0 locs0 1 8 → T0.heap = hh → Fr n0 locs0 → n0 ≤ hh.size → Keep h0 hh [] → S_2 Z hh (.int 1) → S_3 Z hh (.int 0) → S_4 Z hh (.int 8) → Arv Z hh aC kC .char (iN n) (rg n (fun i => .int (c_ i))) (.int 0) → Arv Z hh aB kB .byte (iN (2 * n)) (rg (2 * n) (fun j => if j < 2 * k then ub c_ j else .int 0)) (.int 0) → (n ≤ 4) → (k ≤ n) → (n0 ≤ aB) → (h0.size ≤ aB) → Goes p e below (EN s (QTb Z aC kC n c_ h0 n0) (rM 2 1 8 24).cells (rM 2 1 8 24).slots) (T0.setTop (mkF m 8 #[rv aC, iv (iN k), iv (iN n), rv aB, iv (iN k)] []))
theorem tnTb {p : Program} {l : Launch} {e : Env} {s : State} {m : MethodId} {args : Array Value} {below : List Frame} {meth : Method} {c : Code}  (Z : State) (a0 : Array Value) (hw : HW a0 Z) (hx : p.tables.exec = Jvm.exec) (hby : c.code = jdk_52_method_14_code) (hlk : meth.locks = false) (hret : meth.sig.returnType = some (.array .byte)) (hml : c.maxLocals = 5) (hnm : meth.name = "toBytes") (hown : s.vm.findClass "java/lang/StringUTF16" = some m.cls) (hZ : Z.Warmed39 s.vm) (aC : Addr) (kC : ClassId) (aB : Addr) (kB : ClassId) (n : Nat) (c_ : Nat → Int32) (k : Nat) (h0 hh : Heap) (n0 : Nat) (T0 : State) (locs0 : List Loc) (X0 : Stand p l e (rM 2 1 8 24) s m args below meth c T0 locs0 1 8) (e0 : T0.heap = hh) (N0 : Fr n0 locs0) (Z0 : n0 ≤ hh.size) (K0 : Keep h0 hh []) (Sd : S_2 Z hh (.int 1)) (Sh : S_3 Z hh (.int 0)) (Sl : S_4 Z hh (.int 8)) (VC : Arv Z hh aC kC .char (iN n) (rg n (fun i => .int (c_ i))) (.int 0)) (VB : Arv Z hh aB kB .byte (iN (2 * n)) (rg (2 * n) (fun j => if j < 2 * k then ub c_ j else .int 0)) (.int 0)) (hn4 : n ≤ 4) (hk_ : k ≤ n) (lB : n0 ≤ aB) (szB : h0.size ≤ aB) (ih : k < n → ITb p l e s m args below meth c Z n0 h0 aC kC aB kB n c_ (k + 1)) :
  Goes p e below (EN s (QTb Z aC kC n c_ h0 n0) (rM 2 1 8 24).cells (rM 2 1 8 24).slots) (T0.setTop (mkF m 8 #[rv aC, iv (iN k), iv (iN n), rv aB, iv (iN k)] [])) := by
 have D := @db _ _ _ hby Dj52_14
 have sz_aB := szB
 show Gt T0 m 8 _ []
 refine jW X0 hx (D 5 rfl) ?_ rfl
 refine jN X0 hx (D 6 rfl) ?_ rfl
 by_cases c1 : (iN k) < (iN n)
 ·have c1N := (iN_lt (a := k) (b := n) (by omega) (by omega)).mp c1
  refine gicmpNo X0 hx (D 7 rfl) (tlt c1).2.1 ?_
  refine aN X0 hx (D 8 rfl) ?_ rfl rfl
  refine jW X0 hx (D 9 rfl) ?_ rfl
  refine aN X0 hx (D 10 rfl) ?_ rfl rfl
  refine jN X0 hx (D 11 rfl) ?_ rfl
  refine qCa X0 hx hZ e0 VC ⟨nnN k (by omega), ylN k n (by omega) (by omega) (by omega)⟩ (v := (.int (c_ k))) (by rw [iN_nat (a := k) (by omega)]; exact rg_get _ _ (by omega)) (D 12 rfl) ?_
  refine zS X0 hx hZ hown hw 82 83 84 67 (rmPc_ l hw aB kB n k (c_ k) (fun j => if j < 2 * k then ub c_ j else .int 0) Z0 Sd Sh Sl lB VB (by omega) (by omega)) e0 hml (D 13 rfl) pd10 (W := 0) (rest := []) ?_ rfl rfl rfl rfl (by decide) (lq rfl) rfl rfl rfl
  rintro T3 L3 v3 X3 ⟨rfl, N3q, K3, V3⟩
  have KK4 := K0.trans K3 (allS (Or.inr sz_aB) all0)
  have Z3 := lT Z0 K3.1
  have N3 := Fr.app N0 N3q
  show Gt T3 m 23 _ []
  refine giinc X3 hx (D 14 rfl) rfl (l' := #[rv aC, iv ((iN k) + (1 : Int32)), iv (iN n), rv aB, iv (iN k)]) rfl ?_
  show Gt T3 m 26 _ []
  rw [show ((iN k) + (1 : Int32)) = (iN (k + 1)) from iN_add k 1]
  refine giinc X3 hx (D 15 rfl) rfl (l' := #[rv aC, iv (iN (k + 1)), iv (iN n), rv aB, iv ((iN k) + (1 : Int32))]) rfl ?_
  show Gt T3 m 29 _ []
  rw [show ((iN k) + (1 : Int32)) = (iN (k + 1)) from iN_add k 1]
  refine gG X3 hx (pc := 29) (pc' := 8) (D 16 rfl) ?_ (by decide) (by decide)
  show Gt T3 m 8 _ []
  have f5 := (Sd.kept K3 (nsS (Arv.nostat VB) ns0))
  have f6 := (Sh.kept K3 (nsS (Arv.nostat VB) ns0))
  have f7 := (Sl.kept K3 (nsS (Arv.nostat VB) ns0))
  have f8 := (VC.keep K3 (ninS (kinTy (VC.kin.keep K3) V3.kin (by decide)) nin0))
  exact ih (by omega) T3 _ T3.heap X3 rfl N3 Z3 KK4 f5 f6 f7 f8 (rg_to V3 (fun j _ => own_ubS c_ k j)) hn4 (by omega) lB szB
 ·have c1N : ¬ k < n := fun q => c1 ((iN_lt (a := k) (b := n) (by omega) (by omega)).mpr q)
  refine gY X0 hx (pc := 11) (pc' := 32) (D 7 rfl) (flt c1).2.1 ?_ (by decide) (by decide)
  refine aN X0 hx (D 17 rfl) ?_ rfl rfl
  refine rA X0 hx hret (D 18 rfl) hlk ?_ rfl rfl rfl (by decide) (by decide)
  rw [e0]
  exact ⟨aB, kB, rfl, N0, K0, szB, lB, rg_to VB (fun j q => if_pos (by omega))⟩
theorem lpTb {p : Program} {l : Launch} {e : Env} {s : State} {m : MethodId} {args : Array Value} {below : List Frame} {meth : Method} {c : Code} (Z : State) (a0 : Array Value) (hw : HW a0 Z) (hx : p.tables.exec = Jvm.exec) (hby : c.code = jdk_52_method_14_code) (hlk : meth.locks = false) (hret : meth.sig.returnType = some (.array .byte)) (hml : c.maxLocals = 5) (hnm : meth.name = "toBytes") (hown : s.vm.findClass "java/lang/StringUTF16" = some m.cls) (hZ : Z.Warmed39 s.vm) (aC : Addr) (kC : ClassId) (aB : Addr) (kB : ClassId) (n : Nat) (c_ : Nat → Int32) (h0 : Heap) (n0 : Nat) : ∀ dj_ k, n - k = dj_ → ITb p l e s m args below meth c Z n0 h0 aC kC aB kB n c_ k := by
 intro dj_
 induction dj_ with
 | zero =>
  intro k hd_ T0 locs0 hh X0 e0 N0 Z0 K0 Sd Sh Sl VC VB hn4 hk_ lB szB
  exact tnTb Z a0 hw hx hby hlk hret hml hnm hown hZ aC kC aB kB n c_ k h0 hh n0 T0 locs0 X0 e0 N0 Z0 K0 Sd Sh Sl VC VB hn4 hk_ lB szB (fun q => absurd q (by omega))
 | succ dj_ ih =>
  intro k hd_ T0 locs0 hh X0 e0 N0 Z0 K0 Sd Sh Sl VC VB hn4 hk_ lB szB
  exact tnTb Z a0 hw hx hby hlk hret hml hnm hown hZ aC kC aB kB n c_ k h0 hh n0 T0 locs0 X0 e0 N0 Z0 K0 Sd Sh Sl VC VB hn4 hk_ lB szB (fun q => ih (k + 1) (by omega))
theorem rmTb (hw : HW a0 Z) (aC : Addr) (kC : ClassId) (n : Nat) (c_ : Nat → Int32) (Z0 : n0 ≤ h0.size) (Sd : S_2 Z h0 (.int 1)) (Sh : S_3 Z h0 (.int 0)) (Sl : S_4 Z h0 (.int 8)) (VC : Arv Z h0 aC kC .char (iN n) (rg n (fun i => .int (c_ i))) (.int 0)) (hn4 : n ≤ 4) :
  QMg l Z mN18 jdk_52_method_14_code 5 (some (.array .byte)) ws (rM 2 1 8 24) #[(.ref aC), (.int 0), (.int (iN n))] h0 (QTb Z aC kC n c_ h0 n0) := by
 refine bodyN (pfn pn2) (Ls := #[rv aC, iv 0, iv (iN n), .unset, .unset]) (fun _ => rfl) ?_
 intro p e s m below meth c s₁ hx hby hlk hret hml hown hnm hZ hh X0 e0
 have D := @db _ _ _ hby Dj52_14
 have K0 : Keep h0 h0 [] := Keep.refl _ _
 show Gt s₁ m 0 _ []
 refine jN X0 hx (D 0 rfl) ?_ rfl
 refine zS X0 hx hZ hown hw 75 76 77 67 (rmNf l hw n Z0 (by omega)) e0 hml (D 1 rfl) pd9 (W := 0) (rest := []) ?_ rfl rfl rfl rfl (by decide) (lq rfl) rfl rfl rfl
 rintro T1 L1 v1 X1 ⟨b1, kB1, rfl, N1q, K1, szq1, loq1, V1⟩
 have KK2 := K0.trans K1 all0
 have sz_b1 := lT K0.1 szq1
 have Z1 := lT Z0 K1.1
 have N1 := Fr.app (Fr.nil n0) N1q
 refine gastoreN X1 hx (D 2 rfl) rfl (l' := #[rv aC, iv 0, iv (iN n), rv b1, .unset]) rfl ?_
 refine giconst X1 hx (D 3 rfl) ?_
 refine gistore X1 hx (D 4 rfl) (l' := #[rv aC, iv 0, iv (iN n), rv b1, iv 0]) rfl ?_
 show Gt T1 m 8 _ []
 have VB0 : Arv Z T1.heap b1 kB1 .byte (iN (2 * n)) (rg (2 * n) (fun j => if j < 2 * 0 then ub c_ j else .int 0)) (.int 0) := rg_to V1 (fun j _ => (own_ub0 c_ j).symm)
 have f3 := (Sd.kept K1 ns0)
 have f4 := (Sh.kept K1 ns0)
 have f5 := (Sl.kept K1 ns0)
 have f6 := (VC.keep K1 nin0)
 exact lpTb Z a0 hw hx hby hlk hret hml hnm hown hZ aC kC b1 kB1 n c_ h0 n0 _ 0 rfl T1 _ T1.heap X1 rfl N1 Z1 KK2 f3 f4 f5 f6 VB0 hn4 (by omega) loq1 sz_b1
theorem Cmp.full {n r : Nat} {c : Nat → Int32} {f : Nat → Value} (h : Cmp n c r f) (q : r = n) : (∀ i, i < n → ¬ (255 : Int32) < c i) ∧ f = fun i => .int (bch (c i)) := by
 rcases h with ⟨-, a, b⟩ | ⟨a, -⟩
 ·exact ⟨a, b⟩
 ·omega
theorem Cmp.part {n r : Nat} {c : Nat → Int32} {f : Nat → Value} (h : Cmp n c r f) (q : ¬ r = n) : r < n ∧ (255 : Int32) < c r := by
 rcases h with ⟨a, -⟩ | ⟨a, b⟩
 ·exact absurd a q
 ·exact ⟨a, b⟩
theorem Cmp.le {n r : Nat} {c : Nat → Int32} {f : Nat → Value} (h : Cmp n c r f) : r ≤ n := by rcases h with ⟨a, -⟩ | ⟨a, -⟩ <;> omega
theorem own_lim {c : Int32} (h : 0 ≤ c.toInt) (q : ¬ (255 : Int32) < c) : 0 ≤ c.toInt ∧ c.toInt < 256 := by
 rw [Int32.lt_iff_toInt_lt] at q
 have e : (255 : Int32).toInt = 255 := rfl
 omega
theorem Dj52_16 : ∀ q ∈ ([(0, .iload_n 2, 1), (1, .newarray .byte, 2), (3, .astore_n 3, 1), (4, .aload_n 0, 1), (5, .iload_n 1, 1), (6, .aload_n 3, 1), (7, .iconst 0, 1), (8, .iload_n 2, 1), (9, .invokestatic 115, 3), (12, .istore 4, 2), (14, .iload 4, 2), (16, .iload_n 2, 1), (17, .if_icmp .eq 40, 3), (20, .aload_n 0, 1), (21, .iload_n 1, 1), (22, .iload_n 2, 1), (23, .invokestatic 119, 3), (26, .astore 5, 2), (28, .aload 5, 2), (30, .iload 4, 2), (32, .invokestatic 71, 3), (35, .sipush 255, 3), (38, .if_icmp .gt 16, 3), (54, .aload 5, 2), (56, .areturn, 1), (57, .aload_n 3, 1), (58, .areturn, 1)] : List (Nat × Instr × Nat)), decode jdk_52_method_16_code q.1 = .ok (q.2.1, q.2.2) := by decide +kernel
theorem pd11 : parseMethodDescriptor "([CI[BII)I" = some ⟨[(.array .char), .int, (.array .byte), .int, .int], some .int⟩ := by decide +kernel
theorem pd12 : parseMethodDescriptor "([CII)[B" = some ⟨[(.array .char), .int, .int], some (.array .byte)⟩ := by decide +kernel
def QCx (Z : State) (aC : Addr) (kC : ClassId) (n : Nat) (c_ : Nat → Int32) (h0 : Heap) (n0 : Nat) (v : Option Value) (h : Heap) (L : List Loc) : Prop := ∃ (b : Addr) (kB : ClassId) (u : Bool), v = some (.ref b) ∧ Fr n0 L ∧ Keep h0 h [] ∧ h0.size ≤ b ∧ n0 ≤ b ∧ Arv Z h b kB .byte (iN (wd u n)) (rg (wd u n) (bl u c_)) (.int 0) ∧ ∀ i, i < n → 0 ≤ (c_ i).toInt ∧ (c_ i).toInt < lim u
theorem rmCx (hw : HW a0 Z) (aC : Addr) (kC : ClassId) (n : Nat) (c_ : Nat → Int32) (Z0 : n0 ≤ h0.size) (Sd : S_2 Z h0 (.int 1)) (Sh : S_3 Z h0 (.int 0)) (Sl : S_4 Z h0 (.int 8)) (VC : Arv Z h0 aC kC .char (iN n) (rg n (fun i => .int (c_ i))) (.int 0)) (hn4 : n ≤ 4) (hok : ∀ i, i < n → 0 ≤ (c_ i).toInt ∧ (c_ i).toInt < 65536) :
  QMg l Z mN19 jdk_52_method_16_code 6 (some (.array .byte)) ws (rM 3 2 16 40) #[(.ref aC), (.int 0), (.int (iN n))] h0 (QCx Z aC kC n c_ h0 n0) := by
 refine bodyN (pfn pn2) (Ls := #[rv aC, iv 0, iv (iN n), .unset, .unset, .unset]) (fun _ => rfl) ?_
 intro p e s m below meth c s₁ hx hby hlk hret hml hown hnm hZ hh X0 e0
 have D := @db _ _ _ hby Dj52_16
 have K0 : Keep h0 h0 [] := Keep.refl _ _
 show Gt s₁ m 0 _ []
 refine jN X0 hx (D 0 rfl) ?_ rfl
 obtain ⟨T1, h1, cA1, X1, e1, E1, A1, st1⟩ := newP X0 hx hZ (hw 20 rfl) e0 (g := (mkF m 1 #[rv aC, iv 0, iv (iN n), .unset, .unset, .unset] [(.int (iN n))])) rfl (D 1 rfl) rfl (nnN n (by omega)) (cap := 8) (by rw [iN_nat (a := n) (by omega)]; omega) (by decide) (by decide) (by decide)
 obtain ⟨b1, g1⟩ : ∃ z, z = h0.size := ⟨_, rfl⟩
 rw [← g1] at A1 st1
 have lo_b1 := loB Z0 g1
 have sz_b1 := loB K0.1 g1
 have KK2 := K0.ext E1
 have V1 : Arv Z h1 b1 cA1 .byte (iN n) (rg n (fun _ => (.int 0))) (.int 0) := rg_pad (Arv.new A1 (nnN n (by omega))) n
 refine Goes.st st1 ?_
 have Z1 := lT Z0 E1.1
 refine gastoreN X1 hx (D 2 rfl) rfl (l' := #[rv aC, iv 0, iv (iN n), rv b1, .unset, .unset]) rfl ?_
 refine aN X1 hx (D 3 rfl) ?_ rfl rfl
 refine jN X1 hx (D 4 rfl) ?_ rfl
 refine aN X1 hx (D 5 rfl) ?_ rfl rfl
 refine giconst X1 hx (D 6 rfl) ?_
 refine jN X1 hx (D 7 rfl) ?_ rfl
 have f3 := (VC.ext E1)
 refine zS X1 hx hZ hown hw 69 70 71 67 (rmCc l hw aC kC n c_ b1 cA1 Z1 f3 V1 lo_b1 hn4) e1 hml (D 8 rfl) pd11 (W := 0) (rest := []) ?_ rfl rfl rfl rfl (by decide) (lq rfl) rfl rfl rfl
 rintro T4 L4 v4 X4 ⟨r4, f4_, rfl, N4q, K4, V4, Cm4⟩
 have KK5 := KK2.trans K4 (allS (Or.inr sz_b1) all0)
 have Z4 := lT Z1 K4.1
 have N4 := Fr.app (Fr.nil n0) N4q
 show Gt T4 m 12 _ [(.int (iN r4))]
 refine gistore X4 hx (D 9 rfl) (l' := #[rv aC, iv 0, iv (iN n), rv b1, iv (iN r4), .unset]) rfl ?_
 show Gt T4 m 14 _ []
 have rle := Cm4.le
 refine jW X4 hx (D 10 rfl) ?_ rfl
 refine jN X4 hx (D 11 rfl) ?_ rfl
 show Gt T4 m 17 _ [(.int (iN n)), (.int (iN r4))]
 have rle := Cm4.le
 rcases Nat.decEq r4 n with cNE | cEQ
 ·obtain ⟨hr1, hr2⟩ := Cm4.part cNE
  show Gt T4 m 17 _ [(.int (iN n)), (.int (iN r4))]
  refine gicmpNo X4 hx (D 12 rfl) (feq (neN r4 n (by omega) (by omega) (by omega))).1 ?_
  refine aN X4 hx (D 13 rfl) ?_ rfl rfl
  refine jN X4 hx (D 14 rfl) ?_ rfl
  refine jN X4 hx (D 15 rfl) ?_ rfl
  have ne6 := neB VC.lt g1
  have f7 := (f3.keep K4 (ninS ne6 nin0))
  have f8 := ((Sd.ext E1).kept K4 (nsS (Arv.nostat V1) ns0))
  have f9 := ((Sh.ext E1).kept K4 (nsS (Arv.nostat V1) ns0))
  have f10 := ((Sl.ext E1).kept K4 (nsS (Arv.nostat V1) ns0))
  refine zS X4 hx hZ hown hw 72 73 74 67 (rmTb l hw aC kC n c_ Z4 f8 f9 f10 f7 hn4) rfl hml (D 16 rfl) pd12 (W := 0) (rest := []) ?_ rfl rfl rfl rfl (by decide) (lq rfl) rfl rfl rfl
  rintro T11 L11 v11 X11 ⟨b11, kB11, rfl, N11q, K11, szq11, loq11, V11⟩
  have KK12 := KK5.trans K11 all0
  have sz_b11 := lT KK5.1 szq11
  have Z11 := lT Z4 K11.1
  have N11 := Fr.app N4 N11q
  refine gastore X11 hx (D 17 rfl) rfl (l' := #[rv aC, iv 0, iv (iN n), rv b1, iv (iN r4), rv b11]) rfl ?_
  refine aW X11 hx (D 18 rfl) ?_ rfl rfl
  refine jW X11 hx (D 19 rfl) ?_ rfl
  have f13 := (f8.kept K11 ns0)
  have f14 := (f9.kept K11 ns0)
  have f15 := (f10.kept K11 ns0)
  refine zS X11 hx hZ hown hw 88 89 90 67 (rmGc l hw b11 kB11 n c_ r4 Z11 f13 f14 f15 V11 (by omega) hok (by omega)) rfl hml (D 20 rfl) pd6 (W := 0) (rest := []) ?_ rfl rfl rfl rfl (by decide) (lq rfl) rfl rfl rfl
  rintro T16 L16 v16 X16 ⟨rfl, N16q, eh16⟩
  have N16 := Fr.app N11 N16q
  show Gt T16 m 35 _ [(.int (c_ r4))]
  refine gsipush X16 hx (D 21 rfl) ?_
  refine gY X16 hx (pc := 38) (pc' := 54) (D 22 rfl) (tlt hr2).2.2.1 ?_ (by decide) (by decide)
  refine aW X16 hx (D 23 rfl) ?_ rfl rfl
  refine rA X16 hx hret (D 24 rfl) hlk ?_ rfl rfl rfl (by decide) (by decide)
  rw [eh16]
  exact ⟨b11, kB11, true, rfl, N16, KK12, sz_b11, loq11, V11, hok⟩
 ·refine gY X4 hx (pc := 17) (pc' := 57) (D 12 rfl) (teq (yeN r4 n (by omega) (by omega) (by omega))).1 ?_ (by decide) (by decide)
  refine aN X4 hx (D 25 rfl) ?_ rfl rfl
  refine rA X4 hx hret (D 26 rfl) hlk ?_ rfl rfl rfl (by decide) (by decide)
  exact ⟨b1, cA1, false, rfl, N4, KK5, sz_b1, lo_b1, by obtain ⟨q1, q2⟩ := Cm4.full cEQ; subst q2; exact V4, fun i hi => own_lim (hok i hi).1 ((Cm4.full cEQ).1 i hi)⟩
theorem own_cfl {u : Bool} {n : Nat} (h : n ≤ 4) (h1 : 1 ≤ n) : (XT.ushr (iN n - iN (wd u n)) (31 : Int32)).toInt8.toInt32 = cd u := by
 have q : ∀ (u : Bool) (k : Fin 4), (XT.ushr (iN (k.val + 1) - iN (wd u (k.val + 1))) (31 : Int32)).toInt8.toInt32 = cd u := by decide +kernel
 have r := q u ⟨n - 1, by omega⟩
 rw [show n - 1 + 1 = n by omega] at r
 exact r
theorem Dj52_15 : ∀ q ∈ ([(0, .iload_n 1, 1), (1, .aload_n 0, 1), (2, .arraylength, 1), (3, .isub, 1), (4, .bipush 31, 2), (6, .iushr, 1), (7, .i2b, 1), (8, .ireturn, 1)] : List (Nat × Instr × Nat)), decode jdk_52_method_15_code q.1 = .ok (q.2.1, q.2.2) := by decide +kernel
def QCl (Z : State) (aB : Addr) (kB : ClassId) (u : Bool) (n : Nat) (vs : List Value) (h0 : Heap) (n0 : Nat) (v : Option Value) (h : Heap) (L : List Loc) : Prop := v = some (.int (cd u)) ∧ Fr n0 L ∧ h = h0
theorem rmCl (hw : HW a0 Z) (aB : Addr) (kB : ClassId) (u : Bool) (n : Nat) (vs : List Value) (Z0 : n0 ≤ h0.size) (VB : Arv Z h0 aB kB .byte (iN (wd u n)) vs (.int 0)) (hn4 : n ≤ 4) (h1 : 1 ≤ n) :
  QMg l Z mN20 jdk_52_method_15_code 2 (some .byte) ws (rM 0 0 0 0) #[(.ref aB), (.int (iN n))] h0 (QCl Z aB kB u n vs h0 n0) := by
 refine bodyN (pfn pn2) (Ls := #[rv aB, iv (iN n)]) (fun _ => rfl) ?_
 intro p e s m below meth c s₁ hx hby hlk hret hml hown hnm hZ hh X0 e0
 have D := @db _ _ _ hby Dj52_15
 show Gt s₁ m 0 _ []
 refine jN X0 hx (D 0 rfl) ?_ rfl
 refine aN X0 hx (D 1 rfl) ?_ rfl rfl
 refine qAL X0 hx hZ e0 VB (D 2 rfl) ?_
 refine gisub X0 hx (D 3 rfl) ?_
 refine gbipush X0 hx (D 4 rfl) ?_
 refine Goes.st (fun tg kg => XT.iushr X0.here hx rfl (D 5 rfl) rfl kg) ?_
 show Gt s₁ m 7 #[rv aB, iv (iN n)] [(.int (XT.ushr ((iN n) - (iN (wd u n))) (31 : Int32)))]
 refine Goes.st (fun tg kg => XT.i2b X0.here hx rfl (D 6 rfl) rfl kg) ?_
 show Gt s₁ m 8 #[rv aB, iv (iN n)] [(.int ((XT.ushr ((iN n) - (iN (wd u n))) (31 : Int32))).toInt8.toInt32)]
 rw [show ((XT.ushr ((iN n) - (iN (wd u n))) (31 : Int32))).toInt8.toInt32 = cd u from own_cfl hn4 h1]
 refine rN X0 hx hret (D 7 rfl) (cd_nar u) hlk ?_ (by simp) (by decide) (by decide)
 rw [e0]
 exact ⟨rfl, (Fr.nil n0), rfl⟩
theorem cd_nw (u : Bool) : narrow .byte (.int (cd u)) = .int (cd u) := by cases u <;> rfl
theorem cd_ft (u : Bool) : fits .byte (.int (cd u)) = true := by cases u <;> decide
theorem Dj42_149 : ∀ q ∈ ([(0, .aload_n 0, 1), (1, .invokespecial 1, 3), (4, .iload_n 3, 1), (5, .ifCond .ne 22, 3), (8, .aload_n 0, 1), (9, .ldc 7, 2), (11, .getfield 9, 3), (14, .putfield 9, 3), (17, .aload_n 0, 1), (18, .ldc 7, 2), (20, .getfield 15, 3), (23, .putfield 15, 3), (26, .return_, 1), (27, .getstatic 38, 3), (30, .ifCond .eq 28, 3), (33, .aload_n 1, 1), (34, .iload_n 2, 1), (35, .iload_n 3, 1), (36, .invokestatic 177, 3), (39, .astore 5, 2), (41, .aload_n 0, 1), (42, .aload 5, 2), (44, .iload_n 3, 1), (45, .invokestatic 47, 3), (48, .putfield 15, 3), (51, .aload_n 0, 1), (52, .aload 5, 2), (54, .putfield 9, 3), (57, .return_, 1)] : List (Nat × Instr × Nat)), decode jdk_42_method_149_code q.1 = .ok (q.2.1, q.2.2) := by decide +kernel
theorem pd13 : parseMethodDescriptor "([BI)B" = some ⟨[(.array .byte), .int], some .byte⟩ := by decide +kernel
def QIv (Z : State) (a : Addr) (aC : Addr) (kC : ClassId) (n : Nat) (c_ : Nat → Int32) (cs : Int32) (h0 : Heap) (n0 : Nat) (v : Option Value) (h : Heap) (L : List Loc) : Prop := ∃ (bb : Addr) (kB : ClassId) (u : Bool), v = none ∧ Fr n0 L ∧ Keep h0 h [a] ∧ Sb Z h a bb kB u n c_
theorem rmIv (hw : HW a0 Z) (a : Addr) (aC : Addr) (kC : ClassId) (n : Nat) (c_ : Nat → Int32) (cs : Int32) (Z0 : n0 ≤ h0.size) (Scs : S_0 Z h0 (.int cs)) (hcs : ¬ cs = (0 : Int32)) (Sd : S_2 Z h0 (.int 1)) (Sh : S_3 Z h0 (.int 0)) (Sl : S_4 Z h0 (.int 8)) (Ea : X_0 Z h0 a) (ga : n0 ≤ a) (Fv : F_0 Z h0 a .null) (Fc : F_1 Z h0 a (.int 0)) (VC : Arv Z h0 aC kC .char (iN n) (rg n (fun i => .int (c_ i))) (.int 0)) (hn4 : n ≤ 4) (h1 : 1 ≤ n) (hok : ∀ i, i < n → 0 ≤ (c_ i).toInt ∧ (c_ i).toInt < 65536) :
  QMg l Z mN21 jdk_42_method_149_code 6 none ws (rM 4 2 16 57) #[(.ref a), (.ref aC), (.int 0), (.int (iN n)), .null] h0 (QIv Z a aC kC n c_ cs h0 n0) := by
 refine bodyN (pfn pn0) (Ls := #[rv a, rv aC, iv 0, iv (iN n), .val .null, .unset]) (fun _ => rfl) ?_
 intro p e s m below meth c s₁ hx hby hlk hret hml hown hnm hZ hh X0 e0
 have D := @db _ _ _ hby Dj42_149
 have K0 : Keep h0 h0 [a] := Keep.refl _ _
 show Gt s₁ m 0 _ []
 refine aN X0 hx (D 0 rfl) ?_ rfl rfl
 obtain ⟨T1, X1, e1, st1⟩ := initO X0 hx hZ hown (hw 16 rfl) (hw 17 rfl) (hw 18 rfl) e0 (g := (mkF m 1 #[rv a, rv aC, iv 0, iv (iN n), .val .null, .unset] [(.ref a)])) rfl hml.symm rfl (D 1 rfl) (by decide) (W := 0) (by show 2 * 0 + _ ≤ _; exact Nat.le_of_eq rfl) (by decide)
 refine Goes.st st1 ?_
 refine jN X1 hx (D 2 rfl) ?_ rfl
 refine gT X1 hx (pc := 5) (pc' := 27) (D 3 rfl) ((if0 _ _).trans (feq (neN n 0 (by omega) (by omega) (by omega))).2) ?_ (by decide) (by decide)
 obtain ⟨T2, X2, e2, st2⟩ := getS X1 hx hZ hown (host := "") (hw 64 rfl) Via.refl e1 Scs (g := (mkF m 27 #[rv a, rv aC, iv 0, iv (iN n), .val .null, .unset] [])) rfl (D 13 rfl)
 refine Goes.st st2 ?_
 refine gifNo X2 hx (D 14 rfl) ((if0 _ _).trans (feq hcs).1) ?_
 refine aN X2 hx (D 15 rfl) ?_ rfl rfl
 refine jN X2 hx (D 16 rfl) ?_ rfl
 refine jN X2 hx (D 17 rfl) ?_ rfl
 show Gt T2 m 36 #[rv a, rv aC, iv 0, iv (iN n), .val .null, .unset] [(.int (iN n)), (.int 0), (.ref aC)]
 refine zS X2 hx hZ hown hw 65 66 68 67 (rmCx l hw aC kC n c_ Z0 Sd Sh Sl VC hn4 hok) e2 hml (D 18 rfl) pd12 (W := 0) (rest := []) ?_ rfl rfl rfl rfl (by decide) (lq rfl) rfl rfl rfl
 rintro T3 L3 v3 X3 ⟨b3, kB3, u3, rfl, N3q, K3, szq3, loq3, V3, Ok3⟩
 have KK4 := K0.trans K3 all0
 have sz_b3 := lT K0.1 szq3
 have Z3 := lT Z0 K3.1
 have N3 := Fr.app (Fr.nil n0) N3q
 refine gastore X3 hx (D 19 rfl) rfl (l' := #[rv a, rv aC, iv 0, iv (iN n), .val .null, rv b3]) rfl ?_
 refine aN X3 hx (D 20 rfl) ?_ rfl rfl
 refine aW X3 hx (D 21 rfl) ?_ rfl rfl
 refine jN X3 hx (D 22 rfl) ?_ rfl
 refine zS X3 hx hZ hown hw 91 92 93 67 (rmCl l hw b3 kB3 u3 n (rg (wd u3 n) (bl u3 c_)) Z3 V3 (by omega) (by omega)) rfl hml (D 23 rfl) pd13 (W := 1) (rest := [(.ref a)]) ?_ rfl rfl rfl rfl (by decide) (lq rfl) rfl rfl rfl
 rintro T5 L5 v5 X5 ⟨rfl, N5q, eh5⟩
 have N5 := Fr.app N3 N5q
 have f7 := (Fc.keep K3 nin0)
 have f8 := (Ea.keep K3)
 obtain ⟨T6, h6, X6, e6, W6, st6⟩ := putFN X5 hx hZ hown (hw 26 rfl) Via.refl eh5 f7 f8 (Or.inr ⟨(hw 22 rfl), rfl, hnm⟩) (hw 7 rfl) (ty := .byte) (v' := (.int (cd u3))) (by decide) (cd_nw _) (cd_ft _) (g := (mkF m 48 #[rv a, rv aC, iv 0, iv (iN n), .val .null, rv b3] [(.int (cd u3)), (.ref a)])) rfl rfl (D 24 rfl)
 have N6 := Fr.snoc X6 N5 ga
 have G6 := f7.same W6
 refine Goes.st st6 ?_
 have KK9 := KK4.wr W6 (Or.inl (mI 0 rfl))
 have Z6 : n0 ≤ h6.size := by have := W6.size; have := Z3; omega
 refine aN X6 hx (D 25 rfl) ?_ rfl rfl
 refine aW X6 hx (D 26 rfl) ?_ rfl rfl
 show Gt T6 m 54 #[rv a, rv aC, iv 0, iv (iN n), .val .null, rv b3] [(.ref b3), (.ref a)]
 have f11 := ((Fv.keep K3 nin0).other W6 (Or.inr (slot_ne (Or.inr (hw 21 rfl)) (Or.inr (hw 22 rfl)) (by decide) (t := (.array .byte)) (t' := .byte) (by decide) (by decide))))
 have f12 := (f8.wr W6)
 refine qPF X6 hx hZ hown (hw 25 rfl) Via.refl e6 f11 f12 (Or.inr ⟨(hw 21 rfl), rfl, hnm⟩) (hw 7 rfl) (ty := (.array .byte)) (by decide) rfl rfl (D 27 rfl) N6 ga Z6 ?_
 intro T10 h10 L10 X10 e10 W10 N10 G10 Z10
 have KK13 := KK9.wr W10 (Or.inl (mI 0 rfl))
 have f14 := (f12.wr W10)
 have f15 := (G6.other W10 (Or.inr (slot_ne (Or.inr (hw 22 rfl)) (Or.inr (hw 21 rfl)) (by decide) (t := .byte) (t' := (.array .byte)) (by decide) (by decide))))
 have ne16 := neL Ea.lt szq3
 have f17 := ((V3.other W6 ne16.symm).other W10 ne16.symm)
 refine rV X10 hx hret (D 28 rfl) hlk ?_ (by decide) (by decide)
 rw [e10]
 exact ⟨b3, kB3, u3, rfl, N10, KK13, f14, G10, f15, f17, hn4, Ok3⟩
theorem Dj65_131 : ∀ q ∈ ([(0, .iload_n 1, 1), (1, .iload_n 0, 1), (2, .if_icmp .ge 35, 3), (37, .return_, 1)] : List (Nat × Instr × Nat)), decode jdk_65_method_131_code q.1 = .ok (q.2.1, q.2.2) := by decide +kernel
theorem pn4 : plainName "java/util/Arrays" = true := by first | (simp [plainName, overriddenIn]; done) | decide +kernel
def QCk (Z : State) (xx yy : Int32) (h0 : Heap) (n0 : Nat) (v : Option Value) (h : Heap) (L : List Loc) : Prop := v = none ∧ Fr n0 L ∧ h = h0
theorem rmCk (hw : HW a0 Z) (xx yy : Int32) (Z0 : n0 ≤ h0.size) (hxy : ¬ yy < xx) :
  QMg l Z mN22 jdk_65_method_131_code 2 none ws (rM 0 0 0 0) #[(.int xx), (.int yy)] h0 (QCk Z xx yy h0 n0) := by
 refine bodyN (pfn pn4) (Ls := #[iv xx, iv yy]) (fun _ => rfl) ?_
 intro p e s m below meth c s₁ hx hby hlk hret hml hown hnm hZ hh X0 e0
 have D := @db _ _ _ hby Dj65_131
 show Gt s₁ m 0 _ []
 refine jN X0 hx (D 0 rfl) ?_ rfl
 refine jN X0 hx (D 1 rfl) ?_ rfl
 refine gY X0 hx (pc := 2) (pc' := 37) (D 2 rfl) (flt hxy).2.1 ?_ (by decide) (by decide)
 refine rV X0 hx hret (D 3 rfl) hlk ?_ (by decide) (by decide)
 rw [e0]
 exact ⟨rfl, (Fr.nil n0), rfl⟩
theorem own_anti {x y : Int32} (h : ¬ x < y) (q : ¬ y < x) : x = y := by
 rw [Int32.lt_iff_toInt_lt] at *
 exact Int32.toInt_inj.mp (by omega)
theorem cp_us {m a d : Nat} {ff : Nat → Value} {dv : Value} (ha : a ≤ 1000) (hd : d ≤ 1000) (h : a + d ≤ m) : rg d (fun i => ff (a + i)) = (List.range (iN d).toNatClampNeg).map fun i => (rg m ff).getD ((iN a).toNatClampNeg + i) dv := by
 rw [iN_nat ha, iN_nat hd]
 exact List.map_congr_left (fun i hi => (rg_get ff dv (by have := List.mem_range.mp hi; omega)).symm)
theorem cp_h5 {d : Nat} (h : d ≤ 1000) : (0 : Int32).toNatClampNeg + (iN d).toNatClampNeg ≤ (iN d).toNatClampNeg := by
 show 0 + _ ≤ _
 omega
theorem cp_hl {d : Nat} {g : Nat → Value} (h : d ≤ 1000) : (0 : Int32).toNatClampNeg + (iN d).toNatClampNeg ≤ (rg d g).length := by
 rw [rg_len, iN_nat h]
 show 0 + d ≤ d
 omega
theorem cp_out {Z : State} {h : Heap} {a : Addr} {k : ClassId} {ty : FieldType} {z : Int32} {dv : Value} {d : Nat} {g : Nat → Value} {us : List Value} (hd : d ≤ 1000) (F : Arv Z h a k ty z ((rg d g).take (0 : Int32).toNatClampNeg ++ us ++ (rg d g).drop ((0 : Int32).toNatClampNeg + (iN d).toNatClampNeg)) dv) : Arv Z h a k ty z us dv := by
 have e1 : (rg d g).take (0 : Int32).toNatClampNeg = [] := rfl
 have e2 : (rg d g).drop ((0 : Int32).toNatClampNeg + (iN d).toNatClampNeg) = [] := by
  rw [iN_nat hd]
  exact List.drop_eq_nil_of_le (by rw [rg_len]; show d ≤ 0 + d; omega)
 rw [e1, e2] at F
 simpa using F
theorem Dj29_69 : ∀ q ∈ ([(0, .iload_n 0, 1), (1, .iload_n 1, 1), (2, .if_icmp .gt 7, 3), (5, .iload_n 0, 1), (6, .goto 4, 3), (9, .iload_n 1, 1), (10, .ireturn, 1)] : List (Nat × Instr × Nat)), decode jdk_29_method_69_code q.1 = .ok (q.2.1, q.2.2) := by decide +kernel
theorem pf_java_lang_Math_min__II_I : plainFor (⟨"java/lang/Math", "min", "(II)I"⟩ : MethodName) = true := by unfold plainFor; decide +kernel
def QMn (Z : State) (xx yy : Int32) (h0 : Heap) (n0 : Nat) (v : Option Value) (h : Heap) (L : List Loc) : Prop := v = some (.int yy) ∧ Fr n0 L ∧ h = h0
theorem rmMn (hw : HW a0 Z) (xx yy : Int32) (Z0 : n0 ≤ h0.size) (hxy : ¬ xx < yy) :
  QMg l Z mN23 jdk_29_method_69_code 2 (some .int) ws (rM 0 0 0 0) #[(.int xx), (.int yy)] h0 (QMn Z xx yy h0 n0) := by
 refine bodyN pf_java_lang_Math_min__II_I (Ls := #[iv xx, iv yy]) (fun _ => rfl) ?_
 intro p e s m below meth c s₁ hx hby hlk hret hml hown hnm hZ hh X0 e0
 have D := @db _ _ _ hby Dj29_69
 show Gt s₁ m 0 _ []
 refine jN X0 hx (D 0 rfl) ?_ rfl
 refine jN X0 hx (D 1 rfl) ?_ rfl
 by_cases c1 : yy < xx
 ·refine gY X0 hx (pc := 2) (pc' := 9) (D 2 rfl) (tlt c1).2.2.1 ?_ (by decide) (by decide)
  refine jN X0 hx (D 5 rfl) ?_ rfl
  refine rI X0 hx hret (D 6 rfl) hlk ?_ (by decide) (by decide)
  rw [e0]
  exact ⟨rfl, (Fr.nil n0), rfl⟩
 ·refine gicmpNo X0 hx (D 2 rfl) (flt c1).2.2.1 ?_
  refine jN X0 hx (D 3 rfl) ?_ rfl
  refine gG X0 hx (pc := 6) (pc' := 10) (D 4 rfl) ?_ (by decide) (by decide)
  refine rI X0 hx hret (D 6 rfl) hlk ?_ (by decide) (by decide)
  rw [e0]
  exact ⟨congrArg (fun z => some (Value.int z)) (own_anti hxy c1), (Fr.nil n0), rfl⟩
theorem Dj65_133 : ∀ q ∈ ([(0, .iload_n 1, 1), (1, .iload_n 2, 1), (2, .invokestatic 343, 3), (5, .iload_n 2, 1), (6, .iload_n 1, 1), (7, .isub, 1), (8, .istore_n 3, 1), (9, .iload_n 3, 1), (10, .newarray .byte, 2), (12, .astore 4, 2), (14, .aload_n 0, 1), (15, .iload_n 1, 1), (16, .aload 4, 2), (18, .iconst 0, 1), (19, .aload_n 0, 1), (20, .arraylength, 1), (21, .iload_n 1, 1), (22, .isub, 1), (23, .iload_n 3, 1), (24, .invokestatic 304, 3), (27, .invokestatic 150, 3), (30, .aload 4, 2), (32, .areturn, 1)] : List (Nat × Instr × Nat)), decode jdk_65_method_133_code q.1 = .ok (q.2.1, q.2.2) := by decide +kernel
theorem pd14 : parseMethodDescriptor "(II)I" = some ⟨[.int, .int], some .int⟩ := by decide +kernel
def QCb_ (Z : State) (aB : Addr) (kB : ClassId) (m_ a_ b_ : Nat) (ff : Nat → Value) (h0 : Heap) (n0 : Nat) (v : Option Value) (h : Heap) (L : List Loc) : Prop := ∃ (b : Addr) (kC : ClassId), v = some (.ref b) ∧ Fr n0 L ∧ Keep h0 h [] ∧ h0.size ≤ b ∧ n0 ≤ b ∧ Arv Z h b kC .byte (iN (b_ - a_)) (rg (b_ - a_) (fun i => ff (a_ + i))) (.int 0)
theorem rmCb_ (hw : HW a0 Z) (aB : Addr) (kB : ClassId) (m_ a_ b_ : Nat) (ff : Nat → Value) (Z0 : n0 ≤ h0.size) (VB : Arv Z h0 aB kB .byte (iN m_) (rg m_ ff) (.int 0)) (hm : m_ ≤ 8) (hab : a_ ≤ b_) (hbm : b_ ≤ m_) :
  QMg l Z mN24 jdk_65_method_133_code 5 (some (.array .byte)) ws (rM 1 1 8 29) #[(.ref aB), (.int (iN a_)), (.int (iN b_))] h0 (QCb_ Z aB kB m_ a_ b_ ff h0 n0) := by
 refine bodyN (pfn pn4) (Ls := #[rv aB, iv (iN a_), iv (iN b_), .unset, .unset]) (fun _ => rfl) ?_
 intro p e s m below meth c s₁ hx hby hlk hret hml hown hnm hZ hh X0 e0
 have D := @db _ _ _ hby Dj65_133
 have K0 : Keep h0 h0 [] := Keep.refl _ _
 show Gt s₁ m 0 _ []
 refine jN X0 hx (D 0 rfl) ?_ rfl
 refine jN X0 hx (D 1 rfl) ?_ rfl
 refine zS X0 hx hZ hown hw 189 190 191 184 (rmCk l hw (iN a_) (iN b_) Z0 (nlN b_ a_ (by omega) (by omega) (by omega))) e0 hml (D 2 rfl) pd4 (W := 0) (rest := []) ?_ rfl rfl rfl rfl (by decide) (lq rfl) rfl rfl rfl
 rintro T1 L1 v1 X1 ⟨rfl, N1q, eh1⟩
 have N1 := Fr.app (Fr.nil n0) N1q
 refine jN X1 hx (D 3 rfl) ?_ rfl
 refine jN X1 hx (D 4 rfl) ?_ rfl
 refine gisub X1 hx (D 5 rfl) ?_
 show Gt T1 m 8 _ [(.int ((iN b_) - (iN a_)))]
 rw [show ((iN b_) - (iN a_)) = (iN (b_ - a_)) from iN_sub (a := b_) (b := a_) (by omega)]
 refine gistoreN X1 hx (D 6 rfl) (l' := #[rv aB, iv (iN a_), iv (iN b_), iv (iN (b_ - a_)), .unset]) rfl ?_
 refine jN X1 hx (D 7 rfl) ?_ rfl
 obtain ⟨T2, h2, cA2, X2, e2, E2, A2, st2⟩ := newP X1 hx hZ (hw 20 rfl) eh1 (g := (mkF m 10 #[rv aB, iv (iN a_), iv (iN b_), iv (iN (b_ - a_)), .unset] [(.int (iN (b_ - a_)))])) rfl (D 8 rfl) rfl (nnN (b_ - a_) (by omega)) (cap := 8) (by rw [iN_nat (a := b_ - a_) (by omega)]; omega) (by decide) (by decide) (by decide)
 obtain ⟨b2, g2⟩ : ∃ z, z = h0.size := ⟨_, rfl⟩
 rw [← g2] at A2 st2
 have lo_b2 := loB Z0 g2
 have sz_b2 := loB K0.1 g2
 have KK3 := K0.ext E2
 have V2 : Arv Z h2 b2 cA2 .byte (iN (b_ - a_)) (rg (b_ - a_) (fun _ => (.int 0))) (.int 0) := rg_pad (Arv.new A2 (nnN (b_ - a_) (by omega))) (b_ - a_)
 refine Goes.st st2 ?_
 have Z2 := lT Z0 E2.1
 refine gastore X2 hx (D 9 rfl) rfl (l' := #[rv aB, iv (iN a_), iv (iN b_), iv (iN (b_ - a_)), rv b2]) rfl ?_
 refine aN X2 hx (D 10 rfl) ?_ rfl rfl
 refine jN X2 hx (D 11 rfl) ?_ rfl
 refine aW X2 hx (D 12 rfl) ?_ rfl rfl
 refine giconst X2 hx (D 13 rfl) ?_
 refine aN X2 hx (D 14 rfl) ?_ rfl rfl
 show Gt T2 m 20 _ [(.ref aB), (.int 0), (.ref b2), (.int (iN a_)), (.ref aB)]
 have f4 := (VB.ext E2)
 refine qAL X2 hx hZ e2 f4 (D 15 rfl) ?_
 refine jN X2 hx (D 16 rfl) ?_ rfl
 refine gisub X2 hx (D 17 rfl) ?_
 show Gt T2 m 23 _ [(.int ((iN m_) - (iN a_))), (.int 0), (.ref b2), (.int (iN a_)), (.ref aB)]
 rw [show ((iN m_) - (iN a_)) = (iN (m_ - a_)) from iN_sub (a := m_) (b := a_) (by omega)]
 refine jN X2 hx (D 18 rfl) ?_ rfl
 refine zS X2 hx hZ hown hw 192 193 195 194 (rmMn l hw (iN (m_ - a_)) (iN (b_ - a_)) Z2 (nlN (m_ - a_) (b_ - a_) (by omega) (by omega) (by omega))) e2 hml (D 19 rfl) pd14 (W := 4) (rest := [(.int 0), (.ref b2), (.int (iN a_)), (.ref aB)]) ?_ rfl rfl rfl rfl (by decide) (lq rfl) rfl rfl rfl
 rintro T6 L6 v6 X6 ⟨rfl, N6q, eh6⟩
 have N6 := Fr.app N1 N6q
 obtain ⟨T7, h7, L7, X7, e7, N7, K7, V7_, st7⟩ := cpA X6 hx hZ hown (hw 196 rfl) (hw 199 rfl) (hw 197 rfl) (hw 198 rfl) eh6 f4 V2 (sp := (iN a_)) (dp := (0 : Int32)) (nn := (iN (b_ - a_))) (Or.inl ⟨rfl, rfl⟩) (us := (rg (b_ - a_) (fun i => ff (a_ + i)))) (nlN a_ 0 (by omega) (by omega) (by omega)) (by decide) (nlN (b_ - a_) 0 (by omega) (by omega) (by omega)) (by rw [iN_nat (a := a_) (by omega), iN_nat (a := b_ - a_) (by omega), iN_nat (a := m_) (by omega)]; omega) (cp_h5 (by omega)) (cp_us (by omega) (by omega) (by omega)) (cp_hl (by omega)) N6 lo_b2 (g := (mkF m 27 #[rv aB, iv (iN a_), iv (iN b_), iv (iN (b_ - a_)), rv b2] [(.int (iN (b_ - a_))), (.int 0), (.ref b2), (.int (iN a_)), (.ref aB)])) rfl hml.symm rfl (D 20 rfl) (by decide) (W := 0) (by show 2 * 0 + _ ≤ _; exact Nat.le_of_eq rfl) (by decide)
 have V7 : Arv Z h7 b2 cA2 .byte (iN (b_ - a_)) (rg (b_ - a_) (fun i => ff (a_ + i))) (.int 0) := (cp_out (by omega) V7_)
 refine Goes.st st7 ?_
 have KK8 := KK3.trans K7 (allS (Or.inr sz_b2) all0)
 have Z7 := lT Z2 K7.1
 refine aW X7 hx (D 21 rfl) ?_ rfl rfl
 refine rA X7 hx hret (D 22 rfl) hlk ?_ rfl rfl rfl (by decide) (by decide)
 rw [e7]
 exact ⟨b2, cA2, rfl, N7, KK8, sz_b2, lo_b2, V7⟩
theorem Dj65_132 : ∀ q ∈ ([(0, .iload_n 1, 1), (1, .ifCond .ne 9, 3), (4, .iload_n 2, 1), (5, .aload_n 0, 1), (6, .arraylength, 1), (7, .if_icmp .eq 10, 3), (10, .aload_n 0, 1), (11, .iload_n 1, 1), (12, .iload_n 2, 1), (13, .invokestatic 339, 3), (16, .areturn, 1)] : List (Nat × Instr × Nat)), decode jdk_65_method_132_code q.1 = .ok (q.2.1, q.2.2) := by decide +kernel
theorem pd15 : parseMethodDescriptor "([BII)[B" = some ⟨[(.array .byte), .int, .int], some (.array .byte)⟩ := by decide +kernel
def QCr (Z : State) (aB : Addr) (kB : ClassId) (m_ a_ b_ : Nat) (ff : Nat → Value) (h0 : Heap) (n0 : Nat) (v : Option Value) (h : Heap) (L : List Loc) : Prop := ∃ (b : Addr) (kC : ClassId), v = some (.ref b) ∧ Fr n0 L ∧ Keep h0 h [] ∧ h0.size ≤ b ∧ n0 ≤ b ∧ Arv Z h b kC .byte (iN (b_ - a_)) (rg (b_ - a_) (fun i => ff (a_ + i))) (.int 0)
theorem rmCr (hw : HW a0 Z) (aB : Addr) (kB : ClassId) (m_ a_ b_ : Nat) (ff : Nat → Value) (Z0 : n0 ≤ h0.size) (VB : Arv Z h0 aB kB .byte (iN m_) (rg m_ ff) (.int 0)) (hm : m_ ≤ 8) (hab : a_ ≤ b_) (hbm : b_ ≤ m_) (hnf : ¬ (a_ = 0 ∧ b_ = m_)) :
  QMg l Z mN25 jdk_65_method_132_code 3 (some (.array .byte)) ws (rM 2 1 8 45) #[(.ref aB), (.int (iN a_)), (.int (iN b_))] h0 (QCr Z aB kB m_ a_ b_ ff h0 n0) := by
 refine bodyN (pfn pn4) (Ls := #[rv aB, iv (iN a_), iv (iN b_)]) (fun _ => rfl) ?_
 intro p e s m below meth c s₁ hx hby hlk hret hml hown hnm hZ hh X0 e0
 have D := @db _ _ _ hby Dj65_132
 have K0 : Keep h0 h0 [] := Keep.refl _ _
 show Gt s₁ m 0 _ []
 refine jN X0 hx (D 0 rfl) ?_ rfl
 show Gt s₁ m 1 _ [(.int (iN a_))]
 rcases Nat.decEq a_ 0 with cNE | cEQ
 ·refine gT X0 hx (pc := 1) (pc' := 10) (D 1 rfl) ((if0 _ _).trans (feq (neN a_ 0 (by omega) (by omega) (by omega))).2) ?_ (by decide) (by decide)
  refine aN X0 hx (D 6 rfl) ?_ rfl rfl
  refine jN X0 hx (D 7 rfl) ?_ rfl
  refine jN X0 hx (D 8 rfl) ?_ rfl
  refine zS X0 hx hZ hown hw 186 187 188 184 (rmCb_ l hw aB kB m_ a_ b_ ff Z0 VB (by omega) (by omega) (by omega)) e0 hml (D 9 rfl) pd15 (W := 0) (rest := []) ?_ rfl rfl rfl rfl (by decide) (lq rfl) rfl rfl rfl
  rintro T1 L1 v1 X1 ⟨b1, kB1, rfl, N1q, K1, szq1, loq1, V1⟩
  have KK2 := K0.trans K1 all0
  have sz_b1 := lT K0.1 szq1
  have Z1 := lT Z0 K1.1
  have N1 := Fr.app (Fr.nil n0) N1q
  refine rA X1 hx hret (D 10 rfl) hlk ?_ rfl rfl rfl (by decide) (by decide)
  exact ⟨b1, kB1, rfl, N1, KK2, sz_b1, loq1, V1⟩
 ·refine gifNo X0 hx (D 1 rfl) ((if0 _ _).trans (teq (yeN a_ 0 (by omega) (by omega) (by omega))).2) ?_
  refine jN X0 hx (D 2 rfl) ?_ rfl
  refine aN X0 hx (D 3 rfl) ?_ rfl rfl
  refine qAL X0 hx hZ e0 VB (D 4 rfl) ?_
  show Gt s₁ m 7 _ [(.int (iN m_)), (.int (iN b_))]
  refine gicmpNo X0 hx (D 5 rfl) (feq (neN b_ m_ (by omega) (by omega) (by omega))).1 ?_
  refine aN X0 hx (D 6 rfl) ?_ rfl rfl
  refine jN X0 hx (D 7 rfl) ?_ rfl
  refine jN X0 hx (D 8 rfl) ?_ rfl
  refine zS X0 hx hZ hown hw 186 187 188 184 (rmCb_ l hw aB kB m_ a_ b_ ff Z0 VB (by omega) (by omega) (by omega)) e0 hml (D 9 rfl) pd15 (W := 0) (rest := []) ?_ rfl rfl rfl rfl (by decide) (lq rfl) rfl rfl rfl
  rintro T4 L4 v4 X4 ⟨b4, kB4, rfl, N4q, K4, szq4, loq4, V4⟩
  have KK5 := K0.trans K4 all0
  have sz_b4 := lT K0.1 szq4
  have Z4 := lT Z0 K4.1
  have N4 := Fr.app (Fr.nil n0) N4q
  refine rA X4 hx hret (D 10 rfl) hlk ?_ rfl rfl rfl (by decide) (by decide)
  exact ⟨b4, kB4, rfl, N4, KK5, sz_b4, loq4, V4⟩
theorem Dj42_151 : ∀ q ∈ ([(0, .aload_n 0, 1), (1, .invokespecial 1, 3), (4, .aload_n 0, 1), (5, .aload_n 1, 1), (6, .putfield 9, 3), (9, .aload_n 0, 1), (10, .iload_n 2, 1), (11, .putfield 15, 3), (14, .return_, 1)] : List (Nat × Instr × Nat)), decode jdk_42_method_151_code q.1 = .ok (q.2.1, q.2.2) := by decide +kernel
def QIb (Z : State) (a bb : Addr) (kB : ClassId) (u : Bool) (n : Nat) (c_ : Nat → Int32) (h0 : Heap) (n0 : Nat) (v : Option Value) (h : Heap) (L : List Loc) : Prop := v = none ∧ Fr n0 L ∧ Keep h0 h [a] ∧ Sb Z h a bb kB u n c_
theorem rmIb (hw : HW a0 Z) (a bb : Addr) (kB : ClassId) (u : Bool) (n : Nat) (c_ : Nat → Int32) (Z0 : n0 ≤ h0.size) (Ea : X_0 Z h0 a) (ga : n0 ≤ a) (Fv : F_0 Z h0 a .null) (Fc : F_1 Z h0 a (.int 0)) (VB : Arv Z h0 bb kB .byte (iN (wd u n)) (rg (wd u n) (bl u c_)) (.int 0)) (hn4 : n ≤ 4) (hok : ∀ i, i < n → 0 ≤ (c_ i).toInt ∧ (c_ i).toInt < lim u) :
  QMg l Z mN26 jdk_42_method_151_code 3 none ws (rM 1 0 0 12) #[(.ref a), (.ref bb), (.int (cd u))] h0 (QIb Z a bb kB u n c_ h0 n0) := by
 refine bodyN (pfn pn0) (Ls := #[rv a, rv bb, iv (cd u)]) (fun _ => rfl) ?_
 intro p e s m below meth c s₁ hx hby hlk hret hml hown hnm hZ hh X0 e0
 have D := @db _ _ _ hby Dj42_151
 have K0 : Keep h0 h0 [a] := Keep.refl _ _
 show Gt s₁ m 0 _ []
 refine aN X0 hx (D 0 rfl) ?_ rfl rfl
 obtain ⟨T1, X1, e1, st1⟩ := initO X0 hx hZ hown (hw 16 rfl) (hw 17 rfl) (hw 18 rfl) e0 (g := (mkF m 1 #[rv a, rv bb, iv (cd u)] [(.ref a)])) rfl hml.symm rfl (D 1 rfl) (by decide) (W := 0) (by show 2 * 0 + _ ≤ _; exact Nat.le_of_eq rfl) (by decide)
 refine Goes.st st1 ?_
 refine aN X1 hx (D 2 rfl) ?_ rfl rfl
 refine aN X1 hx (D 3 rfl) ?_ rfl rfl
 refine qPF X1 hx hZ hown (hw 25 rfl) Via.refl e1 Fv Ea (Or.inr ⟨(hw 21 rfl), rfl, hnm⟩) (hw 7 rfl) (ty := (.array .byte)) (by decide) rfl rfl (D 4 rfl) (Fr.nil n0) ga Z0 ?_
 intro T2 h2 L2 X2 e2 W2 N2 G2 Z2
 have KK3 := K0.wr W2 (Or.inl (mI 0 rfl))
 refine aN X2 hx (D 5 rfl) ?_ rfl rfl
 refine jN X2 hx (D 6 rfl) ?_ rfl
 have f5 := (Fc.other W2 (Or.inr (slot_ne (Or.inr (hw 22 rfl)) (Or.inr (hw 21 rfl)) (by decide) (t := .byte) (t' := (.array .byte)) (by decide) (by decide))))
 have f6 := (Ea.wr W2)
 obtain ⟨T4, h4, X4, e4, W4, st4⟩ := putFN X2 hx hZ hown (hw 26 rfl) Via.refl e2 f5 f6 (Or.inr ⟨(hw 22 rfl), rfl, hnm⟩) (hw 7 rfl) (ty := .byte) (v' := (.int (cd u))) (by decide) (cd_nw _) (cd_ft _) (g := (mkF m 11 #[rv a, rv bb, iv (cd u)] [(.int (cd u)), (.ref a)])) rfl rfl (D 7 rfl)
 have N4 := Fr.snoc X4 N2 ga
 have G4 := f5.same W4
 refine Goes.st st4 ?_
 have KK7 := KK3.wr W4 (Or.inl (mI 0 rfl))
 have Z4 : n0 ≤ h4.size := by have := W4.size; have := Z2; omega
 have f8 := (f6.wr W4)
 have f9 := (G2.other W4 (Or.inr (slot_ne (Or.inr (hw 21 rfl)) (Or.inr (hw 22 rfl)) (by decide) (t := (.array .byte)) (t' := .byte) (by decide) (by decide))))
 have f10 := (VB.keep KK7 (ninS (kinNe (VB.kin.keep KK7) f8 (hw 7 rfl)) nin0))
 refine rV X4 hx hret (D 8 rfl) hlk ?_ (by decide) (by decide)
 rw [e4]
 exact ⟨rfl, N4, KK7, f8, f9, G4, f10, hn4, hok⟩
theorem own_sub {n a d : Nat} {c : Nat → Int32} {x : Int} (h : a + d ≤ n) (q : ∀ i, i < n → 0 ≤ (c i).toInt ∧ (c i).toInt < x) : ∀ i, i < d → 0 ≤ (c (a + i)).toInt ∧ (c (a + i)).toInt < x := fun i hi => q _ (by omega)
theorem Dj43_47 : ∀ q ∈ ([(0, .iload_n 2, 1), (1, .ifCond .ne 6, 3), (4, .ldc 151, 2), (6, .areturn, 1), (7, .new 1, 3), (10, .dup, 1), (11, .aload_n 0, 1), (12, .iload_n 1, 1), (13, .iload_n 1, 1), (14, .iload_n 2, 1), (15, .iadd, 1), (16, .invokestatic 232, 3), (19, .iconst 0, 1), (20, .invokespecial 112, 3), (23, .areturn, 1)] : List (Nat × Instr × Nat)), decode jdk_43_method_47_code q.1 = .ok (q.2.1, q.2.2) := by decide +kernel
theorem pd16 : parseMethodDescriptor "([BB)V" = some ⟨[(.array .byte), .byte], none⟩ := by decide +kernel
def QNsL (Z : State) (aB : Addr) (kB : ClassId) (n : Nat) (c_ : Nat → Int32) (a_ d_ : Nat) (h0 : Heap) (n0 : Nat) (v : Option Value) (h : Heap) (L : List Loc) : Prop := ∃ (r bb : Addr) (kB : ClassId) (u : Bool), v = some (.ref r) ∧ Fr n0 L ∧ Keep h0 h [] ∧ Sb Z h r bb kB u d_ (fun i => c_ (a_ + i))
theorem rmNsL (hw : HW a0 Z) (aB : Addr) (kB : ClassId) (n : Nat) (c_ : Nat → Int32) (a_ d_ : Nat) (Z0 : n0 ≤ h0.size) (VB : Arv Z h0 aB kB .byte (iN n) (rg n (fun i => .int (bch (c_ i)))) (.int 0)) (hn4 : n ≤ 4) (hok : ∀ i, i < n → 0 ≤ (c_ i).toInt ∧ (c_ i).toInt < 256) (hd1 : 1 ≤ d_) (had : a_ + d_ ≤ n) (hnf : ¬ (a_ = 0 ∧ a_ + d_ = n)) :
  QMg l Z mN27 jdk_43_method_47_code 3 (some (.object "java/lang/String")) ws (rM 3 2 12 61) #[(.ref aB), (.int (iN a_)), (.int (iN d_))] h0 (QNsL Z aB kB n c_ a_ d_ h0 n0) := by
 refine bodyN (pfn pn3) (Ls := #[rv aB, iv (iN a_), iv (iN d_)]) (fun _ => rfl) ?_
 intro p e s m below meth c s₁ hx hby hlk hret hml hown hnm hZ hh X0 e0
 have D := @db _ _ _ hby Dj43_47
 have K0 : Keep h0 h0 [] := Keep.refl _ _
 show Gt s₁ m 0 _ []
 refine jN X0 hx (D 0 rfl) ?_ rfl
 refine gT X0 hx (pc := 1) (pc' := 7) (D 1 rfl) ((if0 _ _).trans (feq (neN d_ 0 (by omega) (by omega) (by omega))).2) ?_ (by decide) (by decide)
 obtain ⟨T1, h1, X1, e1, E1, A1, D1, -, st1⟩ := newO X0 hx hZ hown (hw 369 rfl) (hw 7 rfl) (hw 8 rfl) e0 (g := (mkF m 7 #[rv aB, iv (iN a_), iv (iN d_)] [])) rfl (D 4 rfl) (by decide) (by decide)
 obtain ⟨b1, g1⟩ : ∃ z, z = h0.size := ⟨_, rfl⟩
 rw [← g1] at A1 D1 st1
 have lo_b1 := loB Z0 g1
 have sz_b1 := loB K0.1 g1
 refine Goes.st st1 ?_
 have KK2 := K0.ext E1
 have Z1 := lT Z0 E1.1
 have F1_value : F_0 Z h1 b1 .null := D1 (Or.inr (hw 21 rfl)) (ty := (.array .byte)) (by decide)
 have F1_coder : F_1 Z h1 b1 (.int 0) := D1 (Or.inr (hw 22 rfl)) (ty := .byte) (by decide)
 refine gdup X1 hx (D 5 rfl) rfl ?_
 refine aN X1 hx (D 6 rfl) ?_ rfl rfl
 refine jN X1 hx (D 7 rfl) ?_ rfl
 refine jN X1 hx (D 8 rfl) ?_ rfl
 refine jN X1 hx (D 9 rfl) ?_ rfl
 refine giadd X1 hx (D 10 rfl) ?_
 show Gt T1 m 16 #[rv aB, iv (iN a_), iv (iN d_)] [(.int ((iN a_) + (iN d_))), (.int (iN a_)), (.ref aB), (.ref b1), (.ref b1)]
 rw [show ((iN a_) + (iN d_)) = (iN (a_ + d_)) from iN_add a_ d_]
 have f3 := (VB.ext E1)
 refine zS X1 hx hZ hown hw 370 183 185 184 (rmCr l hw aB kB n a_ (a_ + d_) (fun i => .int (bch (c_ i))) Z1 f3 (by omega) (by omega) (by omega) (by omega)) e1 hml (D 11 rfl) pd15 (W := 2) (rest := [(.ref b1), (.ref b1)]) ?_ rfl rfl rfl rfl (by decide) (lq rfl) rfl rfl rfl
 rintro T4 L4 v4 X4 ⟨b4, kB4, rfl, N4q, K4, szq4, loq4, V4⟩
 have KK5 := KK2.trans K4 all0
 have sz_b4 := lT KK2.1 szq4
 have Z4 := lT Z1 K4.1
 have N4 := Fr.app (Fr.nil n0) N4q
 refine giconst X4 hx (D 12 rfl) ?_
 have f6 := (A1.keep K4)
 have f7 := (F1_value.keep K4 nin0)
 have f8 := (F1_coder.keep K4 nin0)
 refine zC X4 hx hZ hown hw 371 201 202 8 (rmIb l hw b1 b4 kB4 false d_ (fun i => c_ (a_ + i)) Z4 f6 lo_b1 f7 f8 (by have q := V4; rw [show a_ + d_ - a_ = d_ by omega] at q; exact q) (by omega) (own_sub (by omega) hok)) rfl hml (D 13 rfl) pd16 (W := 1) (rest := [(.ref b1)]) ?_ rfl rfl rfl rfl (by decide) (lq rfl) rfl rfl rfl
 rintro T9 L9 v9 X9 ⟨rfl, N9q, K9, Sb9⟩
 have KK10 := KK5.trans K9 (allS (Or.inr sz_b1) all0)
 have Z9 := lT Z4 K9.1
 have N9 := Fr.app N4 N9q
 refine rA X9 hx hret (D 14 rfl) hlk ?_ rfl rfl rfl (by decide) (by decide)
 exact ⟨b1, b4, kB4, false, rfl, N9, KK10, Sb9⟩
theorem own_or3a : ∀ a b c : Fin 9, ¬ ((iN a.val ||| iN b.val) ||| iN c.val) < (0 : Int32) := by decide +kernel
theorem own_or3 {a b c : Nat} (ha : a ≤ 8) (hb : b ≤ 8) (hc : c ≤ 8) : ¬ ((iN a ||| iN b) ||| iN c) < (0 : Int32) := own_or3a ⟨a, by omega⟩ ⟨b, by omega⟩ ⟨c, by omega⟩
theorem Dj41_13 : ∀ q ∈ ([(0, .iload_n 2, 1), (1, .iload_n 0, 1), (2, .ior, 1), (3, .iload_n 1, 1), (4, .ior, 1), (5, .ifCond .lt 10, 3), (8, .iload_n 1, 1), (9, .iload_n 2, 1), (10, .iload_n 0, 1), (11, .isub, 1), (12, .if_icmp .le 11, 3), (23, .iload_n 0, 1), (24, .ireturn, 1)] : List (Nat × Instr × Nat)), decode jdk_41_method_13_code q.1 = .ok (q.2.1, q.2.2) := by decide +kernel
theorem rmFsN (hw : HW a0 Z) (o_ d_ m_ : Nat) (Z0 : n0 ≤ h0.size) (hm : m_ ≤ 8) (hod : o_ + d_ ≤ m_) :
  QMg l Z mN28 jdk_41_method_13_code 4 (some .int) ws (rM 0 0 0 0) #[(.int (iN o_)), (.int (iN d_)), (.int (iN m_)), .null] h0 (QPc Z (iN o_) h0 n0) := by
 refine bodyN (pfn pn1) (Ls := #[iv (iN o_), iv (iN d_), iv (iN m_), .val .null]) (fun _ => rfl) ?_
 intro p e s m below meth c s₁ hx hby hlk hret hml hown hnm hZ hh X0 e0
 have D := @db _ _ _ hby Dj41_13
 show Gt s₁ m 0 _ []
 refine jN X0 hx (D 0 rfl) ?_ rfl
 refine jN X0 hx (D 1 rfl) ?_ rfl
 show Gt s₁ m 2 _ [(.int (iN o_)), (.int (iN m_))]
 refine Goes.st (fun tg kg => XT.ior X0.here hx rfl (D 2 rfl) rfl kg) ?_
 refine jN X0 hx (D 3 rfl) ?_ rfl
 show Gt s₁ m 4 #[iv (iN o_), iv (iN d_), iv (iN m_), .val .null] [(.int (iN d_)), (.int ((iN m_) ||| (iN o_)))]
 refine Goes.st (fun tg kg => XT.ior X0.here hx rfl (D 4 rfl) rfl kg) ?_
 refine gifNo X0 hx (D 5 rfl) ((if0 _ _).trans (flt (own_or3 (by omega) (by omega) (by omega))).1) ?_
 refine jN X0 hx (D 6 rfl) ?_ rfl
 refine jN X0 hx (D 7 rfl) ?_ rfl
 refine jN X0 hx (D 8 rfl) ?_ rfl
 refine gisub X0 hx (D 9 rfl) ?_
 show Gt s₁ m 12 #[iv (iN o_), iv (iN d_), iv (iN m_), .val .null] [(.int ((iN m_) - (iN o_))), (.int (iN d_))]
 rw [show ((iN m_) - (iN o_)) = (iN (m_ - o_)) from iN_sub (a := m_) (b := o_) (by omega)]
 refine gY X0 hx (pc := 12) (pc' := 23) (D 10 rfl) (flt (nlN (m_ - o_) d_ (by omega) (by omega) (by omega))).2.2.2 ?_ (by decide) (by decide)
 refine jN X0 hx (D 11 rfl) ?_ rfl
 refine rI X0 hx hret (D 12 rfl) hlk ?_ (by decide) (by decide)
 rw [e0]
 exact ⟨rfl, (Fr.nil n0), rfl⟩
theorem rmFsR (hw : HW a0 Z) (o_ d_ m_ : Nat) (fm : Addr) (Z0 : n0 ≤ h0.size) (hm : m_ ≤ 8) (hod : o_ + d_ ≤ m_) :
  QMg l Z mN28 jdk_41_method_13_code 4 (some .int) ws (rM 0 0 0 0) #[(.int (iN o_)), (.int (iN d_)), (.int (iN m_)), (.ref fm)] h0 (QPc Z (iN o_) h0 n0) := by
 refine bodyN (pfn pn1) (Ls := #[iv (iN o_), iv (iN d_), iv (iN m_), rv fm]) (fun _ => rfl) ?_
 intro p e s m below meth c s₁ hx hby hlk hret hml hown hnm hZ hh X0 e0
 have D := @db _ _ _ hby Dj41_13
 show Gt s₁ m 0 _ []
 refine jN X0 hx (D 0 rfl) ?_ rfl
 refine jN X0 hx (D 1 rfl) ?_ rfl
 show Gt s₁ m 2 _ [(.int (iN o_)), (.int (iN m_))]
 refine Goes.st (fun tg kg => XT.ior X0.here hx rfl (D 2 rfl) rfl kg) ?_
 refine jN X0 hx (D 3 rfl) ?_ rfl
 show Gt s₁ m 4 #[iv (iN o_), iv (iN d_), iv (iN m_), rv fm] [(.int (iN d_)), (.int ((iN m_) ||| (iN o_)))]
 refine Goes.st (fun tg kg => XT.ior X0.here hx rfl (D 4 rfl) rfl kg) ?_
 refine gifNo X0 hx (D 5 rfl) ((if0 _ _).trans (flt (own_or3 (by omega) (by omega) (by omega))).1) ?_
 refine jN X0 hx (D 6 rfl) ?_ rfl
 refine jN X0 hx (D 7 rfl) ?_ rfl
 refine jN X0 hx (D 8 rfl) ?_ rfl
 refine gisub X0 hx (D 9 rfl) ?_
 show Gt s₁ m 12 #[iv (iN o_), iv (iN d_), iv (iN m_), rv fm] [(.int ((iN m_) - (iN o_))), (.int (iN d_))]
 rw [show ((iN m_) - (iN o_)) = (iN (m_ - o_)) from iN_sub (a := m_) (b := o_) (by omega)]
 refine gY X0 hx (pc := 12) (pc' := 23) (D 10 rfl) (flt (nlN (m_ - o_) d_ (by omega) (by omega) (by omega))).2.2.2 ?_ (by decide) (by decide)
 refine jN X0 hx (D 11 rfl) ?_ rfl
 refine rI X0 hx hret (D 12 rfl) hlk ?_ (by decide) (by decide)
 rw [e0]
 exact ⟨rfl, (Fr.nil n0), rfl⟩
theorem rmFsV (hw : HW a0 Z) (o_ d_ m_ : Nat) (fm : Value) (Z0 : n0 ≤ h0.size) (hm : m_ ≤ 8) (hod : o_ + d_ ≤ m_) (hfm : fm.isRef = true) :
  QMg l Z mN28 jdk_41_method_13_code 4 (some .int) ws (rM 0 0 0 0) #[(.int (iN o_)), (.int (iN d_)), (.int (iN m_)), fm] h0 (QPc Z (iN o_) h0 n0) := by
 cases fm with
 | null => exact rmFsN l hw o_ d_ m_ Z0 hm hod
 | ref a => exact rmFsR l hw o_ d_ m_ a Z0 hm hod
 | int _ => cases hfm
 | long _ => cases hfm
 | float _ => cases hfm
 | double _ => cases hfm
 | retAddr _ => cases hfm
theorem Dj42_157 : ∀ q ∈ ([(0, .iload_n 0, 1), (1, .iload_n 1, 1), (2, .iload_n 2, 1), (3, .getstatic 1053, 3), (6, .invokestatic 1065, 3), (9, .ireturn, 1)] : List (Nat × Instr × Nat)), decode jdk_42_method_157_code q.1 = .ok (q.2.1, q.2.2) := by decide +kernel
def QBo (Z : State) (o_ d_ m_ : Nat) (fm : Value) (h0 : Heap) (n0 : Nat) (v : Option Value) (h : Heap) (L : List Loc) : Prop := v = some (.int (iN o_)) ∧ Fr n0 L ∧ h = h0
theorem rmBo (hw : HW a0 Z) (o_ d_ m_ : Nat) (fm : Value) (Z0 : n0 ≤ h0.size) (Sfm : S_1 Z h0 fm) (hfm : fm.isRef = true) (hm : m_ ≤ 8) (hod : o_ + d_ ≤ m_) :
  QMg l Z mN29 jdk_42_method_157_code 3 (some .int) ws (rM 1 0 0 15) #[(.int (iN o_)), (.int (iN d_)), (.int (iN m_))] h0 (QBo Z o_ d_ m_ fm h0 n0) := by
 refine bodyN (pfn pn0) (Ls := #[iv (iN o_), iv (iN d_), iv (iN m_)]) (fun _ => rfl) ?_
 intro p e s m below meth c s₁ hx hby hlk hret hml hown hnm hZ hh X0 e0
 have D := @db _ _ _ hby Dj42_157
 show Gt s₁ m 0 _ []
 refine jN X0 hx (D 0 rfl) ?_ rfl
 refine jN X0 hx (D 1 rfl) ?_ rfl
 refine jN X0 hx (D 2 rfl) ?_ rfl
 obtain ⟨T1, X1, e1, st1⟩ := getS X0 hx hZ hown (host := "") (hw 153 rfl) Via.refl e0 Sfm (g := (mkF m 3 #[iv (iN o_), iv (iN d_), iv (iN m_)] [(.int (iN m_)), (.int (iN d_)), (.int (iN o_))])) rfl (D 3 rfl)
 refine Goes.st st1 ?_
 refine zS X1 hx hZ hown hw 365 366 367 154 (rmFsV l hw o_ d_ m_ fm Z0 (by omega) (by omega) hfm) e1 hml (D 4 rfl) pd2 (W := 0) (rest := []) ?_ rfl rfl rfl rfl (by decide) (lq rfl) rfl rfl rfl
 rintro T2 L2 v2 X2 ⟨rfl, N2q, eh2⟩
 have N2 := Fr.app (Fr.nil n0) N2q
 refine rI X2 hx hret (D 5 rfl) hlk ?_ (by decide) (by decide)
 rw [eh2]
 exact ⟨rfl, N2, rfl⟩
theorem Dj52_94 : ∀ q ∈ ([(0, .iload_n 0, 1), (1, .iload_n 1, 1), (2, .aload_n 2, 1), (3, .invokestatic 48, 3), (6, .invokestatic 419, 3), (9, .pop, 1), (10, .return_, 1)] : List (Nat × Instr × Nat)), decode jdk_52_method_94_code q.1 = .ok (q.2.1, q.2.2) := by decide +kernel
theorem pd17 : parseMethodDescriptor "(III)I" = some ⟨[.int, .int, .int], some .int⟩ := by decide +kernel
def QUo (Z : State) (aB : Addr) (kB : ClassId) (n : Nat) (c_ : Nat → Int32) (o_ d_ : Nat) (fm : Value) (h0 : Heap) (n0 : Nat) (v : Option Value) (h : Heap) (L : List Loc) : Prop := v = none ∧ Fr n0 L ∧ h = h0
theorem rmUo (hw : HW a0 Z) (aB : Addr) (kB : ClassId) (n : Nat) (c_ : Nat → Int32) (o_ d_ : Nat) (fm : Value) (Z0 : n0 ≤ h0.size) (Sfm : S_1 Z h0 fm) (hfm : fm.isRef = true) (VB : Arv Z h0 aB kB .byte (iN (2 * n)) (rg (2 * n) (ub c_)) (.int 0)) (hn4 : n ≤ 4) (hod : o_ + d_ ≤ n) :
  QMg l Z mN30 jdk_52_method_94_code 3 none ws (rM 2 0 0 29) #[(.int (iN o_)), (.int (iN d_)), (.ref aB)] h0 (QUo Z aB kB n c_ o_ d_ fm h0 n0) := by
 refine bodyN (pfn pn2) (Ls := #[iv (iN o_), iv (iN d_), rv aB]) (fun _ => rfl) ?_
 intro p e s m below meth c s₁ hx hby hlk hret hml hown hnm hZ hh X0 e0
 have D := @db _ _ _ hby Dj52_94
 show Gt s₁ m 0 _ []
 refine jN X0 hx (D 0 rfl) ?_ rfl
 refine jN X0 hx (D 1 rfl) ?_ rfl
 refine aN X0 hx (D 2 rfl) ?_ rfl rfl
 refine zS X0 hx hZ hown hw 147 148 149 67 (rmUl l hw aB kB n (rg (2 * n) (ub c_)) Z0 VB (by omega)) e0 hml (D 3 rfl) pd3 (W := 2) (rest := [(.int (iN d_)), (.int (iN o_))]) ?_ rfl rfl rfl rfl (by decide) (lq rfl) rfl rfl rfl
 rintro T1 L1 v1 X1 ⟨rfl, N1q, eh1⟩
 have N1 := Fr.app (Fr.nil n0) N1q
 refine zS X1 hx hZ hown hw 362 363 364 8 (rmBo l hw o_ d_ n fm Z0 Sfm hfm (by omega) (by omega)) eh1 hml (D 4 rfl) pd17 (W := 0) (rest := []) ?_ rfl rfl rfl rfl (by decide) (lq rfl) rfl rfl rfl
 rintro T2 L2 v2 X2 ⟨rfl, N2q, eh2⟩
 have N2 := Fr.app N1 N2q
 show Gt T2 m 9 _ [(.int (iN o_))]
 refine Goes.st (fun tg kg => XT.pop X2.here hx rfl (D 5 rfl) rfl rfl kg) ?_
 refine rV X2 hx hret (D 6 rfl) hlk ?_ (by decide) (by decide)
 rw [eh2]
 exact ⟨rfl, N2, rfl⟩
theorem Dj52_22 : ∀ q ∈ ([(0, .iload_n 1, 1), (1, .iload 4, 2), (3, .aload_n 0, 1), (4, .invokestatic 173, 3), (7, .iconst 0, 1), (8, .istore 5, 2), (10, .iload 5, 2), (12, .iload 4, 2), (14, .if_icmp .ge 39, 3), (17, .aload_n 0, 1), (18, .iload_n 1, 1), (19, .invokestatic 71, 3), (22, .istore 6, 2), (24, .iload 6, 2), (26, .sipush 255, 3), (29, .if_icmp .le 6, 3), (32, .iload 5, 2), (34, .ireturn, 1), (35, .aload_n 2, 1), (36, .iload_n 3, 1), (37, .iload 6, 2), (39, .i2b, 1), (40, .bastore, 1), (41, .iinc 1 1, 3), (44, .iinc 3 1, 3), (47, .iinc 5 1, 3), (50, .goto (-40), 3), (53, .iload 4, 2), (55, .ireturn, 1)] : List (Nat × Instr × Nat)), decode jdk_52_method_22_code q.1 = .ok (q.2.1, q.2.2) := by decide +kernel
theorem pd18 : parseMethodDescriptor "(II[B)V" = some ⟨[.int, .int, (.array .byte)], none⟩ := by decide +kernel
def QDb (Z : State) (aB : Addr) (kB : ClassId) (n : Nat) (c_ : Nat → Int32) (aD : Addr) (kD : ClassId) (a_ d_ : Nat) (fm : Value) (h0 : Heap) (n0 : Nat) (v : Option Value) (h : Heap) (L : List Loc) : Prop := ∃ (r : Nat) (f : Nat → Value), v = some (.int (iN r)) ∧ Fr n0 L ∧ Keep h0 h [aD] ∧ Arv Z h aD kD .byte (iN d_) (rg d_ f) (.int 0) ∧ Cmp d_ (fun i => c_ (a_ + i)) r f
def IDb (p : Program) (l : Launch) (e : Env) (s : State) (m : MethodId) (args : Array Value) (below : List Frame) (meth : Method) (c : Code) (Z : State) (n0 : Nat) (h0 : Heap) (aB : Addr) (kB : ClassId) (n : Nat) (c_ : Nat → Int32) (aD : Addr) (kD : ClassId) (a_ : Nat) (d_ : Nat) (fm : Value) (k : Nat) : Prop := ∀ (T0 : State) (locs0 : List Loc) (hh : Heap) (o6 : Option Int32), Stand p l e (rM 3 0 0 43) s m args below meth c T0 locs0 0 0 → T0.heap = hh → Fr n0 locs0 → n0 ≤ hh.size → Keep h0 hh [aD] → S_2 Z hh (.int 1) → S_3 Z hh (.int 0) → S_4 Z hh (.int 8) → Arv Z hh aB kB .byte (iN (2 * n)) (rg (2 * n) (ub c_)) (.int 0) → Arv Z hh aD kD .byte (iN d_) (rg d_ (fun i => if i < k then .int (bch (c_ (a_ + i))) else .int 0)) (.int 0) → (n ≤ 4) → (a_ + d_ ≤ n) → (k ≤ d_) → (∀ i, i < n → 0 ≤ (c_ i).toInt ∧ (c_ i).toInt < 65536) → (n0 ≤ aD) → (aB ≠ aD) → (∀ i, i < k → ¬ (255 : Int32) < c_ (a_ + i)) → Goes p e below (EN s (QDb Z aB kB n c_ aD kD a_ d_ fm h0 n0) (rM 3 0 0 43).cells (rM 3 0 0 43).slots) (T0.setTop (mkF m 10 #[rv aB, iv (iN (a_ + k)), rv aD, iv (iN k), iv (iN d_), iv (iN k), (os o6)] []))
theorem tnDb {p : Program} {l : Launch} {e : Env} {s : State} {m : MethodId} {args : Array Value} {below : List Frame} {meth : Method} {c : Code}  (Z : State) (a0 : Array Value) (hw : HW a0 Z) (hx : p.tables.exec = Jvm.exec) (hby : c.code = jdk_52_method_22_code) (hlk : meth.locks = false) (hret : meth.sig.returnType = some .int) (hml : c.maxLocals = 7) (hnm : meth.name = "compress") (hown : s.vm.findClass "java/lang/StringUTF16" = some m.cls) (hZ : Z.Warmed39 s.vm) (aB : Addr) (kB : ClassId) (n : Nat) (c_ : Nat → Int32) (aD : Addr) (kD : ClassId) (a_ : Nat) (d_ : Nat) (fm : Value) (k : Nat) (o6 : Option Int32) (h0 hh : Heap) (n0 : Nat) (T0 : State) (locs0 : List Loc) (X0 : Stand p l e (rM 3 0 0 43) s m args below meth c T0 locs0 0 0) (e0 : T0.heap = hh) (N0 : Fr n0 locs0) (Z0 : n0 ≤ hh.size) (K0 : Keep h0 hh [aD]) (Sd : S_2 Z hh (.int 1)) (Sh : S_3 Z hh (.int 0)) (Sl : S_4 Z hh (.int 8)) (VB : Arv Z hh aB kB .byte (iN (2 * n)) (rg (2 * n) (ub c_)) (.int 0)) (VD : Arv Z hh aD kD .byte (iN d_) (rg d_ (fun i => if i < k then .int (bch (c_ (a_ + i))) else .int 0)) (.int 0)) (hn4 : n ≤ 4) (had : a_ + d_ ≤ n) (hk_ : k ≤ d_) (hok : ∀ i, i < n → 0 ≤ (c_ i).toInt ∧ (c_ i).toInt < 65536) (lD : n0 ≤ aD) (nBD : aB ≠ aD) (hlt : ∀ i, i < k → ¬ (255 : Int32) < c_ (a_ + i)) (ih : k < d_ → IDb p l e s m args below meth c Z n0 h0 aB kB n c_ aD kD a_ d_ fm (k + 1)) :
  Goes p e below (EN s (QDb Z aB kB n c_ aD kD a_ d_ fm h0 n0) (rM 3 0 0 43).cells (rM 3 0 0 43).slots) (T0.setTop (mkF m 10 #[rv aB, iv (iN (a_ + k)), rv aD, iv (iN k), iv (iN d_), iv (iN k), (os o6)] [])) := by
 have D := @db _ _ _ hby Dj52_22
 show Gt T0 m 10 _ []
 refine jW X0 hx (D 6 rfl) ?_ rfl
 refine jW X0 hx (D 7 rfl) ?_ rfl
 by_cases c1 : (iN k) < (iN d_)
 ·have c1N := (iN_lt (a := k) (b := d_) (by omega) (by omega)).mp c1
  refine gicmpNo X0 hx (D 8 rfl) (tlt c1).2.1 ?_
  refine aN X0 hx (D 9 rfl) ?_ rfl rfl
  refine jN X0 hx (D 10 rfl) ?_ rfl
  refine zS X0 hx hZ hown hw 88 89 90 67 (rmGc l hw aB kB n c_ (a_ + k) Z0 Sd Sh Sl VB (by omega) hok (by omega)) e0 hml (D 11 rfl) pd6 (W := 0) (rest := []) ?_ rfl rfl rfl rfl (by decide) (lq rfl) rfl rfl rfl
  rintro T2 L2 v2 X2 ⟨rfl, N2q, eh2⟩
  have N2 := Fr.app N0 N2q
  refine gistore X2 hx (D 12 rfl) (l' := #[rv aB, iv (iN (a_ + k)), rv aD, iv (iN k), iv (iN d_), iv (iN k), iv (c_ (a_ + k))]) (by cases o6 <;> rfl) ?_
  refine jW X2 hx (D 13 rfl) ?_ rfl
  refine gsipush X2 hx (D 14 rfl) ?_
  show Gt T2 m 29 _ [(.int 255), (.int (c_ (a_ + k)))]
  by_cases c3 : (255 : Int32) < (c_ (a_ + k))
  ·refine gicmpNo X2 hx (D 15 rfl) (tlt c3).2.2.2 ?_
   refine jW X2 hx (D 16 rfl) ?_ rfl
   refine rI X2 hx hret (D 17 rfl) hlk ?_ (by decide) (by decide)
   rw [eh2]
   exact ⟨k, _, rfl, N2, K0, VD, Or.inr ⟨by omega, c3⟩⟩
  ·refine gY X2 hx (pc := 29) (pc' := 35) (D 15 rfl) (flt c3).2.2.2 ?_ (by decide) (by decide)
   refine aN X2 hx (D 18 rfl) ?_ rfl rfl
   refine jN X2 hx (D 19 rfl) ?_ rfl
   refine jW X2 hx (D 20 rfl) ?_ rfl
   show Gt T2 m 39 _ [(.int (c_ (a_ + k))), (.int (iN k)), (.ref aD)]
   refine Goes.st (fun tg kg => XT.i2b X2.here hx rfl (D 21 rfl) rfl kg) ?_
   show Gt T2 m 40 #[rv aB, iv (iN (a_ + k)), rv aD, iv (iN k), iv (iN d_), iv (iN k), iv (c_ (a_ + k))] [(.int ((c_ (a_ + k))).toInt8.toInt32), (.int (iN k)), (.ref aD)]
   obtain ⟨cl4, Ar4, qk4, Sz4, qz4, Ha4, Gf4⟩ := id VD
   obtain ⟨T4, h4, X4, e4, W4, st4⟩ := stB X2 hx hZ eh2 Ar4 (inb_of Sz4 ⟨nnN k (by omega), ylN k d_ (by omega) (by omega) (by omega)⟩) (g := (mkF m 40 #[rv aB, iv (iN (a_ + k)), rv aD, iv (iN k), iv (iN d_), iv (iN k), iv (c_ (a_ + k))] [(.int ((c_ (a_ + k))).toInt8.toInt32), (.int (iN k)), (.ref aD)])) rfl rfl (D 22 rfl)
   have N4 := Fr.snoc X4 N2 lD
   have V4 : Arv Z h4 aD kD .byte (iN d_) (rg d_ (fun i => if i < (k + 1) then .int (bch (c_ (a_ + i))) else .int 0)) (.int 0) := rg_up (fun i _ => own_iteS (f := fun i => .int (bch (c_ (a_ + i)))) (k := k) i) (Arv.set Ar4 qk4 Sz4 qz4 Ha4 Gf4 (fits_nar_byte _) W4 k (iN_nat (a := k) (by omega)) (by rw [rg_len]; omega))
   refine Goes.st st4 ?_
   have KK5 := K0.wr W4 (Or.inl (mI 0 rfl))
   have Z4 : n0 ≤ h4.size := by have := W4.size; have := Z0; omega
   refine giinc X4 hx (D 23 rfl) rfl (l' := #[rv aB, iv ((iN (a_ + k)) + (1 : Int32)), rv aD, iv (iN k), iv (iN d_), iv (iN k), iv (c_ (a_ + k))]) rfl ?_
   show Gt T4 m 44 _ []
   rw [show ((iN (a_ + k)) + (1 : Int32)) = (iN (a_ + (k + 1))) from iN_add (a_ + k) 1]
   refine giinc X4 hx (D 24 rfl) rfl (l' := #[rv aB, iv (iN (a_ + (k + 1))), rv aD, iv ((iN k) + (1 : Int32)), iv (iN d_), iv (iN k), iv (c_ (a_ + k))]) rfl ?_
   show Gt T4 m 47 _ []
   rw [show ((iN k) + (1 : Int32)) = (iN (k + 1)) from iN_add k 1]
   refine giinc X4 hx (D 25 rfl) rfl (l' := #[rv aB, iv (iN (a_ + (k + 1))), rv aD, iv (iN (k + 1)), iv (iN d_), iv ((iN k) + (1 : Int32)), iv (c_ (a_ + k))]) rfl ?_
   show Gt T4 m 50 _ []
   rw [show ((iN k) + (1 : Int32)) = (iN (k + 1)) from iN_add k 1]
   refine gG X4 hx (pc := 50) (pc' := 10) (D 26 rfl) ?_ (by decide) (by decide)
   show Gt T4 m 10 _ []
   have f6 := (Sd.wr W4)
   have f7 := (Sh.wr W4)
   have f8 := (Sl.wr W4)
   have f9 := (VB.other W4 nBD)
   exact ih (by omega) T4 _ h4 (some (c_ (a_ + k))) X4 e4 N4 Z4 KK5 f6 f7 f8 f9 V4 hn4 had (by omega) hok lD nBD (fun i q => if e : i = k then e ▸ c3 else hlt i (by omega))
 ·have c1N : ¬ k < d_ := fun q => c1 ((iN_lt (a := k) (b := d_) (by omega) (by omega)).mpr q)
  refine gY X0 hx (pc := 14) (pc' := 53) (D 8 rfl) (flt c1).2.1 ?_ (by decide) (by decide)
  refine jW X0 hx (D 27 rfl) ?_ rfl
  refine rI X0 hx hret (D 28 rfl) hlk ?_ (by decide) (by decide)
  rw [e0]
  exact ⟨d_, _, rfl, N0, K0, rg_to VD (fun i q => if_pos (by omega)), Or.inl ⟨rfl, fun i q => hlt i (by omega), rfl⟩⟩
theorem lpDb {p : Program} {l : Launch} {e : Env} {s : State} {m : MethodId} {args : Array Value} {below : List Frame} {meth : Method} {c : Code} (Z : State) (a0 : Array Value) (hw : HW a0 Z) (hx : p.tables.exec = Jvm.exec) (hby : c.code = jdk_52_method_22_code) (hlk : meth.locks = false) (hret : meth.sig.returnType = some .int) (hml : c.maxLocals = 7) (hnm : meth.name = "compress") (hown : s.vm.findClass "java/lang/StringUTF16" = some m.cls) (hZ : Z.Warmed39 s.vm) (aB : Addr) (kB : ClassId) (n : Nat) (c_ : Nat → Int32) (aD : Addr) (kD : ClassId) (a_ : Nat) (d_ : Nat) (fm : Value) (h0 : Heap) (n0 : Nat) : ∀ dj_ k, d_ - k = dj_ → IDb p l e s m args below meth c Z n0 h0 aB kB n c_ aD kD a_ d_ fm k := by
 intro dj_
 induction dj_ with
 | zero =>
  intro k hd_ T0 locs0 hh o6 X0 e0 N0 Z0 K0 Sd Sh Sl VB VD hn4 had hk_ hok lD nBD hlt
  exact tnDb Z a0 hw hx hby hlk hret hml hnm hown hZ aB kB n c_ aD kD a_ d_ fm k o6 h0 hh n0 T0 locs0 X0 e0 N0 Z0 K0 Sd Sh Sl VB VD hn4 had hk_ hok lD nBD hlt (fun q => absurd q (by omega))
 | succ dj_ ih =>
  intro k hd_ T0 locs0 hh o6 X0 e0 N0 Z0 K0 Sd Sh Sl VB VD hn4 had hk_ hok lD nBD hlt
  exact tnDb Z a0 hw hx hby hlk hret hml hnm hown hZ aB kB n c_ aD kD a_ d_ fm k o6 h0 hh n0 T0 locs0 X0 e0 N0 Z0 K0 Sd Sh Sl VB VD hn4 had hk_ hok lD nBD hlt (fun q => ih (k + 1) (by omega))
theorem rmDb (hw : HW a0 Z) (aB : Addr) (kB : ClassId) (n : Nat) (c_ : Nat → Int32) (aD : Addr) (kD : ClassId) (a_ d_ : Nat) (fm : Value) (Z0 : n0 ≤ h0.size) (Sd : S_2 Z h0 (.int 1)) (Sh : S_3 Z h0 (.int 0)) (Sl : S_4 Z h0 (.int 8)) (Sfm : S_1 Z h0 fm) (hfm : fm.isRef = true) (VB : Arv Z h0 aB kB .byte (iN (2 * n)) (rg (2 * n) (ub c_)) (.int 0)) (hn4 : n ≤ 4) (hok : ∀ i, i < n → 0 ≤ (c_ i).toInt ∧ (c_ i).toInt < 65536) (VD : Arv Z h0 aD kD .byte (iN d_) (rg d_ (fun _ => .int 0)) (.int 0)) (lD : n0 ≤ aD) (nBD : aB ≠ aD) (had : a_ + d_ ≤ n) :
  QMg l Z mN31 jdk_52_method_22_code 7 (some .int) ws (rM 3 0 0 43) #[(.ref aB), (.int (iN a_)), (.ref aD), (.int 0), (.int (iN d_))] h0 (QDb Z aB kB n c_ aD kD a_ d_ fm h0 n0) := by
 refine bodyN (pfn pn2) (Ls := #[rv aB, iv (iN a_), rv aD, iv 0, iv (iN d_), .unset, .unset]) (fun _ => rfl) ?_
 intro p e s m below meth c s₁ hx hby hlk hret hml hown hnm hZ hh X0 e0
 have D := @db _ _ _ hby Dj52_22
 have K0 : Keep h0 h0 [aD] := Keep.refl _ _
 show Gt s₁ m 0 _ []
 refine jN X0 hx (D 0 rfl) ?_ rfl
 refine jW X0 hx (D 1 rfl) ?_ rfl
 refine aN X0 hx (D 2 rfl) ?_ rfl rfl
 refine zS X0 hx hZ hown hw 359 360 361 67 (rmUo l hw aB kB n c_ a_ d_ fm Z0 Sfm hfm VB (by omega) (by omega)) e0 hml (D 3 rfl) pd18 (W := 0) (rest := []) ?_ rfl rfl rfl rfl (by decide) (lq rfl) rfl rfl rfl
 rintro T1 L1 v1 X1 ⟨rfl, N1q, eh1⟩
 have N1 := Fr.app (Fr.nil n0) N1q
 refine giconst X1 hx (D 4 rfl) ?_
 refine gistore X1 hx (D 5 rfl) (l' := #[rv aB, iv (iN a_), rv aD, iv 0, iv (iN d_), iv 0, .unset]) rfl ?_
 show Gt T1 m 10 _ []
 have VD0 : Arv Z h0 aD kD .byte (iN d_) (rg d_ (fun i => if i < 0 then .int (bch (c_ (a_ + i))) else .int 0)) (.int 0) := rg_to VD (fun i _ => (own_ite0 (f := fun i => .int (bch (c_ (a_ + i)))) i).symm)
 exact lpDb Z a0 hw hx hby hlk hret hml hnm hown hZ aB kB n c_ aD kD a_ d_ fm h0 n0 _ 0 rfl T1 _ h0 none X1 eh1 N1 Z0 K0 Sd Sh Sl VB VD0 hn4 had (by omega) hok lD nBD (fun i q => absurd q (by omega))
theorem own_dbl {Z : State} {h : Heap} {b : Addr} {k : ClassId} {dv : Value} {a d : Nat} {c : Nat → Int32} (F : Arv Z h b k .byte (iN (2 * (a + d) - 2 * a)) (rg (2 * (a + d) - 2 * a) (fun i => ub c (2 * a + i))) dv) : Arv Z h b k .byte (iN (2 * d)) (rg (2 * d) (ub (fun i => c (a + i)))) dv := by
 rw [show 2 * (a + d) - 2 * a = 2 * d by omega] at F
 exact rg_to F (fun j _ => ub_sh c a j)
theorem Dj52_17 : ∀ q ∈ ([(0, .iload_n 2, 1), (1, .newarray .byte, 2), (3, .astore_n 3, 1), (4, .aload_n 0, 1), (5, .iload_n 1, 1), (6, .aload_n 3, 1), (7, .iconst 0, 1), (8, .iload_n 2, 1), (9, .invokestatic 123, 3), (12, .istore 4, 2), (14, .iload 4, 2), (16, .iload_n 2, 1), (17, .if_icmp .eq 47, 3), (20, .aload_n 0, 1), (21, .iload_n 1, 1), (22, .iconst 1, 1), (23, .ishl, 1), (24, .iload_n 1, 1), (25, .iload_n 2, 1), (26, .iadd, 1), (27, .invokestatic 11, 3), (30, .invokestatic 126, 3), (33, .astore 5, 2), (35, .aload 5, 2), (37, .iload 4, 2), (39, .invokestatic 71, 3), (42, .sipush 255, 3), (45, .if_icmp .gt 16, 3), (61, .aload 5, 2), (63, .areturn, 1), (64, .aload_n 3, 1), (65, .areturn, 1)] : List (Nat × Instr × Nat)), decode jdk_52_method_17_code q.1 = .ok (q.2.1, q.2.2) := by decide +kernel
theorem pd19 : parseMethodDescriptor "([BI[BII)I" = some ⟨[(.array .byte), .int, (.array .byte), .int, .int], some .int⟩ := by decide +kernel
def QDx (Z : State) (aB : Addr) (kB : ClassId) (n : Nat) (c_ : Nat → Int32) (a_ d_ : Nat) (fm : Value) (h0 : Heap) (n0 : Nat) (v : Option Value) (h : Heap) (L : List Loc) : Prop := ∃ (b : Addr) (kC : ClassId) (u : Bool), v = some (.ref b) ∧ Fr n0 L ∧ Keep h0 h [] ∧ h0.size ≤ b ∧ n0 ≤ b ∧ Arv Z h b kC .byte (iN (wd u d_)) (rg (wd u d_) (bl u (fun i => c_ (a_ + i)))) (.int 0) ∧ ∀ i, i < d_ → 0 ≤ (c_ (a_ + i)).toInt ∧ (c_ (a_ + i)).toInt < lim u
theorem rmDx (hw : HW a0 Z) (aB : Addr) (kB : ClassId) (n : Nat) (c_ : Nat → Int32) (a_ d_ : Nat) (fm : Value) (Z0 : n0 ≤ h0.size) (Sd : S_2 Z h0 (.int 1)) (Sh : S_3 Z h0 (.int 0)) (Sl : S_4 Z h0 (.int 8)) (Sfm : S_1 Z h0 fm) (hfm : fm.isRef = true) (VB : Arv Z h0 aB kB .byte (iN (2 * n)) (rg (2 * n) (ub c_)) (.int 0)) (hn4 : n ≤ 4) (hok : ∀ i, i < n → 0 ≤ (c_ i).toInt ∧ (c_ i).toInt < 65536) (hd1 : 1 ≤ d_) (had : a_ + d_ ≤ n) (hnf : ¬ (a_ = 0 ∧ a_ + d_ = n)) :
  QMg l Z mN32 jdk_52_method_17_code 6 (some (.array .byte)) ws (rM 4 2 16 61) #[(.ref aB), (.int (iN a_)), (.int (iN d_))] h0 (QDx Z aB kB n c_ a_ d_ fm h0 n0) := by
 refine bodyN (pfn pn2) (Ls := #[rv aB, iv (iN a_), iv (iN d_), .unset, .unset, .unset]) (fun _ => rfl) ?_
 intro p e s m below meth c s₁ hx hby hlk hret hml hown hnm hZ hh X0 e0
 have D := @db _ _ _ hby Dj52_17
 have K0 : Keep h0 h0 [] := Keep.refl _ _
 show Gt s₁ m 0 _ []
 refine jN X0 hx (D 0 rfl) ?_ rfl
 obtain ⟨T1, h1, cA1, X1, e1, E1, A1, st1⟩ := newP X0 hx hZ (hw 20 rfl) e0 (g := (mkF m 1 #[rv aB, iv (iN a_), iv (iN d_), .unset, .unset, .unset] [(.int (iN d_))])) rfl (D 1 rfl) rfl (nnN d_ (by omega)) (cap := 8) (by rw [iN_nat (a := d_) (by omega)]; omega) (by decide) (by decide) (by decide)
 obtain ⟨b1, g1⟩ : ∃ z, z = h0.size := ⟨_, rfl⟩
 rw [← g1] at A1 st1
 have lo_b1 := loB Z0 g1
 have sz_b1 := loB K0.1 g1
 have KK2 := K0.ext E1
 have V1 : Arv Z h1 b1 cA1 .byte (iN d_) (rg d_ (fun _ => (.int 0))) (.int 0) := rg_pad (Arv.new A1 (nnN d_ (by omega))) d_
 refine Goes.st st1 ?_
 have Z1 := lT Z0 E1.1
 refine gastoreN X1 hx (D 2 rfl) rfl (l' := #[rv aB, iv (iN a_), iv (iN d_), rv b1, .unset, .unset]) rfl ?_
 refine aN X1 hx (D 3 rfl) ?_ rfl rfl
 refine jN X1 hx (D 4 rfl) ?_ rfl
 refine aN X1 hx (D 5 rfl) ?_ rfl rfl
 refine giconst X1 hx (D 6 rfl) ?_
 refine jN X1 hx (D 7 rfl) ?_ rfl
 have f3 := (VB.ext E1)
 have f4 := (Sd.ext E1)
 have f5 := (Sh.ext E1)
 have f6 := (Sl.ext E1)
 have f7 := (Sfm.ext E1)
 have ne8 := neB VB.lt g1
 refine zS X1 hx hZ hown hw 356 357 358 67 (rmDb l hw aB kB n c_ b1 cA1 a_ d_ fm Z1 f4 f5 f6 f7 hfm f3 (by omega) hok V1 lo_b1 ne8 (by omega)) e1 hml (D 8 rfl) pd19 (W := 0) (rest := []) ?_ rfl rfl rfl rfl (by decide) (lq rfl) rfl rfl rfl
 rintro T9 L9 v9 X9 ⟨r9, f9_, rfl, N9q, K9, V9, Cm9⟩
 have KK10 := KK2.trans K9 (allS (Or.inr sz_b1) all0)
 have Z9 := lT Z1 K9.1
 have N9 := Fr.app (Fr.nil n0) N9q
 show Gt T9 m 12 _ [(.int (iN r9))]
 refine gistore X9 hx (D 9 rfl) (l' := #[rv aB, iv (iN a_), iv (iN d_), rv b1, iv (iN r9), .unset]) rfl ?_
 refine jW X9 hx (D 10 rfl) ?_ rfl
 refine jN X9 hx (D 11 rfl) ?_ rfl
 show Gt T9 m 17 _ [(.int (iN d_)), (.int (iN r9))]
 have rle := Cm9.le
 rcases Nat.decEq r9 d_ with cNE | cEQ
 ·obtain ⟨hr1, hr2⟩ := Cm9.part cNE
  show Gt T9 m 17 _ [(.int (iN d_)), (.int (iN r9))]
  refine gicmpNo X9 hx (D 12 rfl) (feq (neN r9 d_ (by omega) (by omega) (by omega))).1 ?_
  refine aN X9 hx (D 13 rfl) ?_ rfl rfl
  refine jN X9 hx (D 14 rfl) ?_ rfl
  refine giconst X9 hx (D 15 rfl) ?_
  show Gt T9 m 23 _ [(.int 1), (.int (iN a_)), (.ref aB)]
  refine Goes.st (fun tg kg => XT.ishl X9.here hx rfl (D 16 rfl) rfl kg) ?_
  show Gt T9 m 24 #[rv aB, iv (iN a_), iv (iN d_), rv b1, iv (iN r9), .unset] [(.int ((iN a_) <<< ((1 : Int32) &&& 31))), (.ref aB)]
  rw [show ((iN a_) <<< ((1 : Int32) &&& 31)) = (iN (2 * a_)) from iN_shl (a := a_) (by omega)]
  refine jN X9 hx (D 17 rfl) ?_ rfl
  refine jN X9 hx (D 18 rfl) ?_ rfl
  refine giadd X9 hx (D 19 rfl) ?_
  show Gt T9 m 27 _ [(.int ((iN a_) + (iN d_))), (.int (iN (2 * a_))), (.ref aB)]
  rw [show ((iN a_) + (iN d_)) = (iN (a_ + d_)) from iN_add a_ d_]
  refine zS X9 hx hZ hown hw 78 79 80 67 (rmNl l hw (a_ + d_) Z9 (by omega)) rfl hml (D 20 rfl) pd8 (W := 2) (rest := [(.int (iN (2 * a_))), (.ref aB)]) ?_ rfl rfl rfl rfl (by decide) (lq rfl) rfl rfl rfl
  rintro T11 L11 v11 X11 ⟨rfl, N11q, eh11⟩
  have N11 := Fr.app N9 N11q
  have f12 := (f3.keep K9 (ninS ne8 nin0))
  refine zS X11 hx hZ hown hw 182 183 185 184 (rmCr l hw aB kB (2 * n) (2 * a_) (2 * (a_ + d_)) (ub c_) Z9 f12 (by omega) (by omega) (by omega) (by omega)) eh11 hml (D 21 rfl) pd15 (W := 0) (rest := []) ?_ rfl rfl rfl rfl (by decide) (lq rfl) rfl rfl rfl
  rintro T13 L13 v13 X13 ⟨b13, kB13, rfl, N13q, K13, szq13, loq13, V13⟩
  have KK14 := KK10.trans K13 all0
  have sz_b13 := lT KK10.1 szq13
  have Z13 := lT Z9 K13.1
  have N13 := Fr.app N11 N13q
  refine gastore X13 hx (D 22 rfl) rfl (l' := #[rv aB, iv (iN a_), iv (iN d_), rv b1, iv (iN r9), rv b13]) rfl ?_
  refine aW X13 hx (D 23 rfl) ?_ rfl rfl
  refine jW X13 hx (D 24 rfl) ?_ rfl
  have f15 := ((f4.kept K9 (nsS (Arv.nostat V1) ns0)).kept K13 ns0)
  have f16 := ((f5.kept K9 (nsS (Arv.nostat V1) ns0)).kept K13 ns0)
  have f17 := ((f6.kept K9 (nsS (Arv.nostat V1) ns0)).kept K13 ns0)
  refine zS X13 hx hZ hown hw 88 89 90 67 (rmGc l hw b13 kB13 d_ (fun i => c_ (a_ + i)) r9 Z13 f15 f16 f17 (own_dbl V13) (by omega) (own_sub (by omega) hok) (by omega)) rfl hml (D 25 rfl) pd6 (W := 0) (rest := []) ?_ rfl rfl rfl rfl (by decide) (lq rfl) rfl rfl rfl
  rintro T18 L18 v18 X18 ⟨rfl, N18q, eh18⟩
  have N18 := Fr.app N13 N18q
  refine gsipush X18 hx (D 26 rfl) ?_
  refine gY X18 hx (pc := 45) (pc' := 61) (D 27 rfl) (tlt hr2).2.2.1 ?_ (by decide) (by decide)
  refine aW X18 hx (D 28 rfl) ?_ rfl rfl
  show Gt T18 m 63 _ [(.ref b13)]
  refine rA X18 hx hret (D 29 rfl) hlk ?_ rfl rfl rfl (by decide) (by decide)
  rw [eh18]
  exact ⟨b13, kB13, true, rfl, N18, KK14, sz_b13, loq13, own_dbl V13, own_sub (by omega) hok⟩
 ·refine gY X9 hx (pc := 17) (pc' := 64) (D 12 rfl) (teq (yeN r9 d_ (by omega) (by omega) (by omega))).1 ?_ (by decide) (by decide)
  refine aN X9 hx (D 30 rfl) ?_ rfl rfl
  refine rA X9 hx hret (D 31 rfl) hlk ?_ rfl rfl rfl (by decide) (by decide)
  exact ⟨b1, cA1, false, rfl, N9, KK10, sz_b1, lo_b1, by obtain ⟨q1, q2⟩ := Cm9.full cEQ; subst q2; exact V9, fun i hi => own_lim (hok _ (by omega)).1 ((Cm9.full cEQ).1 i hi)⟩
theorem Dj52_69 : ∀ q ∈ ([(0, .iload_n 2, 1), (1, .ifCond .ne 7, 3), (4, .ldc_w 295, 3), (7, .areturn, 1), (8, .getstatic 251, 3), (11, .ifCond .eq 28, 3), (14, .aload_n 0, 1), (15, .iload_n 1, 1), (16, .iload_n 2, 1), (17, .invokestatic 257, 3), (20, .astore_n 3, 1), (21, .aload_n 3, 1), (22, .iload_n 2, 1), (23, .invokestatic 259, 3), (26, .istore 4, 2), (28, .new 3, 3), (31, .dup, 1), (32, .aload_n 3, 1), (33, .iload 4, 2), (35, .invokespecial 263, 3), (38, .areturn, 1)] : List (Nat × Instr × Nat)), decode jdk_52_method_69_code q.1 = .ok (q.2.1, q.2.2) := by decide +kernel
def QNsU (Z : State) (aB : Addr) (kB : ClassId) (n : Nat) (c_ : Nat → Int32) (a_ d_ : Nat) (cs : Int32) (fm : Value) (h0 : Heap) (n0 : Nat) (v : Option Value) (h : Heap) (L : List Loc) : Prop := ∃ (r bb : Addr) (kB : ClassId) (u : Bool), v = some (.ref r) ∧ Fr n0 L ∧ Keep h0 h [] ∧ Sb Z h r bb kB u d_ (fun i => c_ (a_ + i))
theorem rmNsU (hw : HW a0 Z) (aB : Addr) (kB : ClassId) (n : Nat) (c_ : Nat → Int32) (a_ d_ : Nat) (cs : Int32) (fm : Value) (Z0 : n0 ≤ h0.size) (Scs : S_0 Z h0 (.int cs)) (hcs : ¬ cs = (0 : Int32)) (Sd : S_2 Z h0 (.int 1)) (Sh : S_3 Z h0 (.int 0)) (Sl : S_4 Z h0 (.int 8)) (Sfm : S_1 Z h0 fm) (hfm : fm.isRef = true) (VB : Arv Z h0 aB kB .byte (iN (2 * n)) (rg (2 * n) (ub c_)) (.int 0)) (hn4 : n ≤ 4) (hok : ∀ i, i < n → 0 ≤ (c_ i).toInt ∧ (c_ i).toInt < 65536) (hd1 : 1 ≤ d_) (had : a_ + d_ ≤ n) (hnf : ¬ (a_ = 0 ∧ a_ + d_ = n)) :
  QMg l Z mN33 jdk_52_method_69_code 5 (some (.object "java/lang/String")) ws (rM 5 3 20 78) #[(.ref aB), (.int (iN a_)), (.int (iN d_))] h0 (QNsU Z aB kB n c_ a_ d_ cs fm h0 n0) := by
 refine bodyN (pfn pn2) (Ls := #[rv aB, iv (iN a_), iv (iN d_), .unset, .unset]) (fun _ => rfl) ?_
 intro p e s m below meth c s₁ hx hby hlk hret hml hown hnm hZ hh X0 e0
 have D := @db _ _ _ hby Dj52_69
 have K0 : Keep h0 h0 [] := Keep.refl _ _
 show Gt s₁ m 0 _ []
 refine jN X0 hx (D 0 rfl) ?_ rfl
 refine gT X0 hx (pc := 1) (pc' := 8) (D 1 rfl) ((if0 _ _).trans (feq (neN d_ 0 (by omega) (by omega) (by omega))).2) ?_ (by decide) (by decide)
 obtain ⟨T1, X1, e1, st1⟩ := getS X0 hx hZ hown (host := "") (hw 352 rfl) Via.refl e0 Scs (g := (mkF m 8 #[rv aB, iv (iN a_), iv (iN d_), .unset, .unset] [])) rfl (D 4 rfl)
 refine Goes.st st1 ?_
 refine gifNo X1 hx (D 5 rfl) ((if0 _ _).trans (feq hcs).1) ?_
 refine aN X1 hx (D 6 rfl) ?_ rfl rfl
 refine jN X1 hx (D 7 rfl) ?_ rfl
 refine jN X1 hx (D 8 rfl) ?_ rfl
 refine zS X1 hx hZ hown hw 353 354 355 67 (rmDx l hw aB kB n c_ a_ d_ fm Z0 Sd Sh Sl Sfm hfm VB (by omega) hok (by omega) (by omega) (by omega)) e1 hml (D 9 rfl) pd15 (W := 0) (rest := []) ?_ rfl rfl rfl rfl (by decide) (lq rfl) rfl rfl rfl
 rintro T2 L2 v2 X2 ⟨b2, kB2, u2, rfl, N2q, K2, szq2, loq2, V2, Ok2⟩
 have KK3 := K0.trans K2 all0
 have sz_b2 := lT K0.1 szq2
 have Z2 := lT Z0 K2.1
 have N2 := Fr.app (Fr.nil n0) N2q
 refine gastoreN X2 hx (D 10 rfl) rfl (l' := #[rv aB, iv (iN a_), iv (iN d_), rv b2, .unset]) rfl ?_
 show Gt T2 m 21 _ []
 refine aN X2 hx (D 11 rfl) ?_ rfl rfl
 refine jN X2 hx (D 12 rfl) ?_ rfl
 refine zS X2 hx hZ hown hw 368 92 93 67 (rmCl l hw b2 kB2 u2 d_ (rg (wd u2 d_) (bl u2 (fun i => c_ (a_ + i)))) Z2 V2 (by omega) (by omega)) rfl hml (D 13 rfl) pd13 (W := 0) (rest := []) ?_ rfl rfl rfl rfl (by decide) (lq rfl) rfl rfl rfl
 rintro T4 L4 v4 X4 ⟨rfl, N4q, eh4⟩
 have N4 := Fr.app N2 N4q
 refine gistore X4 hx (D 14 rfl) (l' := #[rv aB, iv (iN a_), iv (iN d_), rv b2, iv (cd u2)]) rfl ?_
 obtain ⟨T5, h5, X5, e5, E5, A5, D5, -, st5⟩ := newO X4 hx hZ hown (hw 181 rfl) (hw 7 rfl) (hw 8 rfl) eh4 (g := (mkF m 28 #[rv aB, iv (iN a_), iv (iN d_), rv b2, iv (cd u2)] [])) rfl (D 15 rfl) (by decide) (by decide)
 obtain ⟨b5, g5⟩ : ∃ z, z = T2.heap.size := ⟨_, rfl⟩
 rw [← g5] at A5 D5 st5
 have lo_b5 := loB Z2 g5
 have sz_b5 := loB KK3.1 g5
 refine Goes.st st5 ?_
 have KK6 := KK3.ext E5
 have Z5 := lT Z2 E5.1
 have F5_value : F_0 Z h5 b5 .null := D5 (Or.inr (hw 21 rfl)) (ty := (.array .byte)) (by decide)
 have F5_coder : F_1 Z h5 b5 (.int 0) := D5 (Or.inr (hw 22 rfl)) (ty := .byte) (by decide)
 refine gdup X5 hx (D 16 rfl) rfl ?_
 refine aN X5 hx (D 17 rfl) ?_ rfl rfl
 refine jW X5 hx (D 18 rfl) ?_ rfl
 have f7 := (V2.ext E5)
 refine zC X5 hx hZ hown hw 200 201 202 8 (rmIb l hw b5 b2 kB2 u2 d_ (fun i => c_ (a_ + i)) Z5 A5 lo_b5 F5_value F5_coder f7 (by omega) Ok2) e5 hml (D 19 rfl) pd16 (W := 1) (rest := [(.ref b5)]) ?_ rfl rfl rfl rfl (by decide) (lq rfl) rfl rfl rfl
 rintro T8 L8 v8 X8 ⟨rfl, N8q, K8, Sb8⟩
 have KK9 := KK6.trans K8 (allS (Or.inr sz_b5) all0)
 have Z8 := lT Z5 K8.1
 have N8 := Fr.app N4 N8q
 show Gt T8 m 38 #[rv aB, iv (iN a_), iv (iN d_), rv b2, iv (cd u2)] [(.ref b5)]
 refine rA X8 hx hret (D 20 rfl) hlk ?_ rfl rfl rfl (by decide) (by decide)
 exact ⟨b5, b2, kB2, u2, rfl, N8, KK9, Sb8⟩
theorem Sb.cast {Z : State} {h : Heap} {b bb : Addr} {kB : ClassId} {u : Bool} {n n' : Nat} {c c' : Nat → Int32} (B : Sb Z h b bb kB u n c) (e : n' = n) (q : ∀ i, i < n → c i = c' i) : Sb Z h b bb kB u n' c' := by
 subst e
 obtain ⟨q0, q1, q2, q3, q4, q5⟩ := B
 refine ⟨q0, q1, q2, rg_to q3 (fun j hj => ?_), q4, fun i hi => by rw [← q i hi]; exact q5 i hi⟩
 cases u
 ·show Value.int (bch (c j)) = Value.int (bch (c' j))
  rw [q j hj]
 ·show ub c j = ub c' j
  have : j / 2 < n' := by have : j < 2 * n' := hj; omega
  unfold ub
  rw [q _ this]
def QNsL0 (Z : State) (aB : Addr) (a_ : Nat) (h0 : Heap) (n0 : Nat) (v : Option Value) (h : Heap) (L : List Loc) : Prop := ∃ (r bb : Addr) (kB : ClassId) (u : Bool), v = some (.ref r) ∧ Fr n0 L ∧ Keep h0 h [] ∧ Sb Z h r bb kB u 0 (fun _ => 0)
theorem rmNsL0 (hw : HW a0 Z) (aB : Addr) (a_ : Nat) (Z0 : n0 ≤ h0.size)  :
  QMh l Z ELs mN27 jdk_43_method_47_code 3 (some (.object "java/lang/String")) ws (rM 0 2 4 0) #[(.ref aB), (.int (iN a_)), (.int 0)] h0 (QNsL0 Z aB a_ h0 n0) := by
 refine bodyH (pfn pn3) (Ls := #[rv aB, iv (iN a_), iv 0]) (fun _ => rfl) ?_
 intro p e s m below meth c s₁ hx hby hlk hret hml hown hnm hZ hh hR X0 e0 hS
 have hk : 0 ≤ h0.size := Nat.zero_le _
 have D := @db _ _ _ hby Dj43_47
 have K0 : Keep h0 h0 [] := Keep.refl _ _
 show Gt s₁ m 0 _ []
 refine jN X0 hx (D 0 rfl) ?_ rfl
 refine gifNo X0 hx (D 1 rfl) (by decide) ?_
 show Gt s₁ m 4 _ []
 obtain ⟨b1, T1, h1, kk1, bb1, kb1, X1, e1, E1, hS, hk, hZ, hown, LE1, LC1, LV1, LA1, la1, lb1, hCr1, Li1, hSf1, st1⟩ := ldcCH X0 hx hZ hown (hw 343 rfl) (strW (hw 8 rfl) (hw 7 rfl) (hw 20 rfl) (hw 21 rfl) (hw 22 rfl) (hw 23 rfl) (hw 24 rfl)) e0 hS hk (hELs hw) (by decide) hR.1 (vs := []) (z := (0 : Int32)) (by decide) (by decide) (by decide) (g := (mkF m 4 #[rv aB, iv (iN a_), iv 0] [])) rfl (D 2 rfl) (n := 0) (by decide) (by decide) (by decide) (by decide)
 have hR := hR.trans hCr1
 refine Goes.st st1 ?_
 have KK2 := K0.ext E1
 have Z1 := lT Z0 E1.1
 refine Goes.retA X1 hx hret rfl rfl rfl (D 3 rfl) (lvH X1 hlk hS (by rw [e1]; exact hk) hZ (hELs hw) e1 (by rw [hh]; exact hR) (vsome hret) ?_ (by decide) (by decide))
 rw [e1]
 exact ⟨b1, bb1, kb1, false, rfl, (Fr.nil n0), KK2, LE1, LV1, LC1, LA1, by omega, fun i hi => absurd hi (by omega)⟩
def QNsU0 (Z : State) (aB : Addr) (a_ : Nat) (h0 : Heap) (n0 : Nat) (v : Option Value) (h : Heap) (L : List Loc) : Prop := ∃ (r bb : Addr) (kB : ClassId) (u : Bool), v = some (.ref r) ∧ Fr n0 L ∧ Keep h0 h [] ∧ Sb Z h r bb kB u 0 (fun _ => 0)
theorem rmNsU0 (hw : HW a0 Z) (aB : Addr) (a_ : Nat) (Z0 : n0 ≤ h0.size)  :
  QMh l Z ELs mN33 jdk_52_method_69_code 5 (some (.object "java/lang/String")) ws (rM 0 2 4 0) #[(.ref aB), (.int (iN a_)), (.int 0)] h0 (QNsU0 Z aB a_ h0 n0) := by
 refine bodyH (pfn pn2) (Ls := #[rv aB, iv (iN a_), iv 0, .unset, .unset]) (fun _ => rfl) ?_
 intro p e s m below meth c s₁ hx hby hlk hret hml hown hnm hZ hh hR X0 e0 hS
 have hk : 0 ≤ h0.size := Nat.zero_le _
 have D := @db _ _ _ hby Dj52_69
 have K0 : Keep h0 h0 [] := Keep.refl _ _
 show Gt s₁ m 0 _ []
 refine jN X0 hx (D 0 rfl) ?_ rfl
 refine gifNo X0 hx (D 1 rfl) (by decide) ?_
 show Gt s₁ m 4 _ []
 obtain ⟨b1, T1, h1, kk1, bb1, kb1, X1, e1, E1, hS, hk, hZ, hown, LE1, LC1, LV1, LA1, la1, lb1, hCr1, Li1, hSf1, st1⟩ := ldcCW X0 hx hZ hown (hw 351 rfl) (strW (hw 8 rfl) (hw 7 rfl) (hw 20 rfl) (hw 21 rfl) (hw 22 rfl) (hw 23 rfl) (hw 24 rfl)) e0 hS hk (hELs hw) (by decide) hR.1 (g := (mkF m 4 #[rv aB, iv (iN a_), iv 0, .unset, .unset] [])) rfl (D 2 rfl) (by decide) (by decide)
 have hR := hR.trans hCr1
 refine Goes.st st1 ?_
 have KK2 := K0.ext E1
 have Z1 := lT Z0 E1.1
 refine Goes.retA X1 hx hret rfl rfl rfl (D 3 rfl) (lvH X1 hlk hS (by rw [e1]; exact hk) hZ (hELs hw) e1 (by rw [hh]; exact hR) (vsome hret) ?_ (by decide) (by decide))
 rw [e1]
 exact ⟨b1, bb1, kb1, false, rfl, (Fr.nil n0), KK2, LE1, LV1, LC1, LA1, by omega, fun i hi => absurd hi (by omega)⟩
def QSu (Z : State) (rb bb : Addr) (kb : ClassId) (u : Bool) (n : Nat) (c_ : Nat → Int32) (a_ b_ : Nat) (cs : Int32) (fm : Value) (h0 : Heap) (n0 : Nat) (v : Option Value) (h : Heap) (L : List Loc) : Prop := ∃ (r bb_ : Addr) (kB : ClassId) (u_ : Bool), v = some (.ref r) ∧ Fr n0 L ∧ Keep h0 h [] ∧ Sb Z h r bb_ kB u_ (b_ - a_) (fun i => c_ (a_ + i))
theorem Dj42_92 : ∀ q ∈ ([(0, .aload_n 0, 1), (1, .invokevirtual 505, 3), (4, .istore_n 3, 1), (5, .iload_n 1, 1), (6, .iload_n 2, 1), (7, .iload_n 3, 1), (8, .invokestatic 521, 3), (11, .iload_n 1, 1), (12, .ifCond .ne 10, 3), (15, .iload_n 2, 1), (16, .iload_n 3, 1), (17, .if_icmp .ne 5, 3), (20, .aload_n 0, 1), (21, .areturn, 1), (22, .iload_n 2, 1), (23, .iload_n 1, 1), (24, .isub, 1), (25, .istore 4, 2), (27, .aload_n 0, 1), (28, .invokevirtual 492, 3), (31, .ifCond .eq 16, 3), (34, .aload_n 0, 1), (35, .getfield 9, 3), (38, .iload_n 1, 1), (39, .iload 4, 2), (41, .invokestatic 685, 3), (44, .goto 13, 3), (47, .aload_n 0, 1), (48, .getfield 9, 3), (51, .iload_n 1, 1), (52, .iload 4, 2), (54, .invokestatic 689, 3), (57, .areturn, 1)] : List (Nat × Instr × Nat)), decode jdk_42_method_92_code q.1 = .ok (q.2.1, q.2.2) := by decide +kernel
theorem pd20 : parseMethodDescriptor "()I" = some ⟨[], some .int⟩ := by decide +kernel
theorem pd21 : parseMethodDescriptor "(III)V" = some ⟨[.int, .int, .int], none⟩ := by decide +kernel
theorem pd22 : parseMethodDescriptor "([BII)Ljava/lang/String;" = some ⟨[(.array .byte), .int, .int], some (.object "java/lang/String")⟩ := by decide +kernel
theorem rmSuL (hw : HW a0 Z) (rb bb : Addr) (kb : ClassId) (n : Nat) (c_ : Nat → Int32) (a_ b_ : Nat) (cs : Int32) (fm : Value) (Z0 : n0 ≤ h0.size) (Scs : S_0 Z h0 (.int cs)) (hcs : ¬ cs = (0 : Int32)) (Sd : S_2 Z h0 (.int 1)) (Sh : S_3 Z h0 (.int 0)) (Sl : S_4 Z h0 (.int 8)) (Sfm : S_1 Z h0 fm) (hfm : fm.isRef = true) (Bs : Sb Z h0 rb bb kb false n c_) (hab : a_ ≤ b_) (hbn : b_ ≤ n) :
  QMh l Z ELs mN34 jdk_42_method_92_code 5 (some (.object "java/lang/String")) ws (rM 6 3 20 94) #[(.ref rb), (.int (iN a_)), (.int (iN b_))] h0 (QSu Z rb bb kb u n c_ a_ b_ cs fm h0 n0) := by
 refine bodyH (pfn pn0) (Ls := #[rv rb, iv (iN a_), iv (iN b_), .unset, .unset]) (fun _ => rfl) ?_
 intro p e s m below meth c s₁ hx hby hlk hret hml hown hnm hZ hh hR X0 e0 hS
 have hk : 0 ≤ h0.size := Nat.zero_le _
 have D := @db _ _ _ hby Dj42_92
 obtain ⟨Eb, Vb, Cb, Ab, hn4, hok⟩ := id Bs
 have Cb : F_1 Z h0 rb (.int 0) := Cb
 have Ab : Arv Z h0 bb kb .byte (iN n) (rg n (fun i => .int (bch (c_ i)))) (.int 0) := Ab
 have hok : ∀ i, i < n → 0 ≤ (c_ i).toInt ∧ (c_ i).toInt < 256 := hok
 have K0 : Keep h0 h0 [] := Keep.refl _ _
 show Gt s₁ m 0 _ []
 refine aN X0 hx (D 0 rfl) ?_ rfl rfl
 refine zV X0 hx hZ hown hw 166 rfl 122 124 123 125 8 (rmLe l hw rb bb kb false n c_ cs Z0 Scs hcs Bs) e0 Eb hml (D 1 rfl) pd20 (W := 0) (rest := []) ?_ rfl rfl rfl rfl rfl (by decide) (lq rfl) rfl rfl rfl
 rintro T1 L1 v1 X1 ⟨rfl, N1q, eh1⟩
 have N1 := Fr.app (Fr.nil n0) N1q
 refine gistoreN X1 hx (D 2 rfl) (l' := #[rv rb, iv (iN a_), iv (iN b_), iv (iN n), .unset]) rfl ?_
 refine jN X1 hx (D 3 rfl) ?_ rfl
 refine jN X1 hx (D 4 rfl) ?_ rfl
 refine jN X1 hx (D 5 rfl) ?_ rfl
 refine zS X1 hx hZ hown hw 167 168 169 8 (rmBb l hw (iN a_) (iN b_) (iN n) fm Z0 Sfm hfm (nnN a_ (by omega)) (nlN b_ a_ (by omega) (by omega) (by omega)) (nlN n b_ (by omega) (by omega) (by omega))) eh1 hml (D 6 rfl) pd21 (W := 0) (rest := []) ?_ rfl rfl rfl rfl (by decide) (lq rfl) rfl rfl rfl
 rintro T2 L2 v2 X2 ⟨rfl, N2q, eh2⟩
 have N2 := Fr.app N1 N2q
 refine jN X2 hx (D 7 rfl) ?_ rfl
 show Gt T2 m 12 _ [(.int (iN a_))]
 rcases Nat.decEq a_ 0 with cAN | cAE
 ·refine gT X2 hx (pc := 12) (pc' := 22) (D 8 rfl) ((if0 _ _).trans (feq (neN a_ 0 (by omega) (by omega) (by omega))).2) ?_ (by decide) (by decide)
  refine jN X2 hx (D 14 rfl) ?_ rfl
  refine jN X2 hx (D 15 rfl) ?_ rfl
  refine gisub X2 hx (D 16 rfl) ?_
  show Gt T2 m 25 _ [(.int ((iN b_) - (iN a_)))]
  rw [show ((iN b_) - (iN a_)) = (iN (b_ - a_)) from iN_sub (a := b_) (b := a_) (by omega)]
  refine gistore X2 hx (D 17 rfl) (l' := #[rv rb, iv (iN a_), iv (iN b_), iv (iN n), iv (iN (b_ - a_))]) rfl ?_
  show Gt T2 m 27 _ []
  rcases Nat.decEq b_ a_ with cDN | cDE
  ·refine aN X2 hx (D 18 rfl) ?_ rfl rfl
   refine zV X2 hx hZ hown hw 136 rfl 137 139 138 140 8 (rmIl0 l hw rb cs Z0 Scs hcs Cb) eh2 Eb hml (D 19 rfl) pd7 (W := 0) (rest := []) ?_ rfl rfl rfl rfl rfl (by decide) (lq rfl) rfl rfl rfl
   rintro T3 L3 v3 X3 ⟨rfl, N3q, eh3⟩
   have N3 := Fr.app N2 N3q
   refine gifNo X3 hx (D 20 rfl) (by decide) ?_
   refine aN X3 hx (D 21 rfl) ?_ rfl rfl
   refine qGF X3 hx hZ hown (hw 25 rfl) Via.refl eh3 Vb (D 22 rfl) ?_
   intro T4 X4 e4
   refine jN X4 hx (D 23 rfl) ?_ rfl
   refine jW X4 hx (D 24 rfl) ?_ rfl
   refine zS X4 hx hZ hown hw 340 341 342 337 (rmNsL l hw bb kb n c_ a_ (b_ - a_) Z0 Ab (by omega) hok (by omega) (by omega) (by omega)) e4 hml (D 25 rfl) pd22 (W := 0) (rest := []) ?_ rfl rfl rfl rfl (by decide) (lq rfl) rfl rfl rfl
   rintro T5 L5 v5 X5 ⟨r5, bb5, kB5, u5, rfl, N5q, K5, Sb5⟩
   have hk := lT hk K5.1
   have hR := hR.trans (CHr.keep K5 sf0 hR.1)
   have KK6 := K0.trans K5 all0
   have Z5 := lT Z0 K5.1
   have N5 := Fr.app N3 N5q
   refine gG X5 hx (pc := 44) (pc' := 57) (D 26 rfl) ?_ (by decide) (by decide)
   show Gt T5 m 57 _ [(.ref r5)]
   refine Goes.retA X5 hx hret rfl rfl rfl (D 32 rfl) (lvH X5 hlk hS hk hZ (hELs hw) rfl (by rw [hh]; exact hR) (vsome hret) ?_ (by decide) (by decide))
   exact ⟨r5, bb5, kB5, u5, rfl, N5, KK6, Sb5⟩
  ·rw [show (iN (b_ - a_)) = (0 : Int32) from by rw [show b_ - a_ = 0 by omega]; rfl]
   show Gt T2 m 27 _ []
   refine aN X2 hx (D 18 rfl) ?_ rfl rfl
   refine zV X2 hx hZ hown hw 136 rfl 137 139 138 140 8 (rmIl0 l hw rb cs Z0 Scs hcs Cb) eh2 Eb hml (D 19 rfl) pd7 (W := 0) (rest := []) ?_ rfl rfl rfl rfl rfl (by decide) (lq rfl) rfl rfl rfl
   rintro T7 L7 v7 X7 ⟨rfl, N7q, eh7⟩
   have N7 := Fr.app N2 N7q
   refine gifNo X7 hx (D 20 rfl) (by decide) ?_
   refine aN X7 hx (D 21 rfl) ?_ rfl rfl
   refine qGF X7 hx hZ hown (hw 25 rfl) Via.refl eh7 Vb (D 22 rfl) ?_
   intro T8 X8 e8
   refine jN X8 hx (D 23 rfl) ?_ rfl
   refine jW X8 hx (D 24 rfl) ?_ rfl
   obtain ⟨_, _, ⟨T9, L9, k9, n9⟩, -, X9, hS9, hg9, ⟨Lc9, hQ9, l9, y9, z9, hCr9⟩, st9⟩ := callSS X8 hx (y := mN27) hown (mvT hZ (hw 340 rfl)) (mvT hZ (hw 341 rfl)) (mvT hZ (hw 337 rfl)) (mvT hZ (hw 342 rfl)) (by decide) (backOfSH (W := 0) (rmNsL0 l hw bb a_ Z0 ) hZ (hw 342 rfl) (hw 337 rfl) (by decide) (by decide) (hELs hw) hR.1) (g := (mkF m 41 #[rv rb, iv (iN a_), iv (iN b_), iv (iN n), iv 0] [(.int 0), (.int (iN a_)), (.ref bb)])) rfl hml.symm (argsL := [(.ref bb), (.int (iN a_)), (.int 0)]) (rest := []) (lenOf pd22 rfl) rfl (by show 2 * 0 + _ ≤ _; exact Nat.le_of_eq rfl) (D 25 rfl) (fun _ _ => ⟨rfl, e8, (by decide : 0 + 2 ≤ 3), (by decide : 0 + 4 ≤ 20)⟩)
   dsimp only [Pt.U, Pt.locs, Pt.cells, Pt.slots] at X9 l9 y9 z9 st9 hQ9 hS9 hg9 hCr9
   subst l9 y9 z9
   obtain ⟨X9, hS, hZ, hown⟩ := rebS hS (by rw [e8]; exact hk) X9 hS9 hg9 hZ hown
   have hk := Nat.le_refl T9.heap.size
   have hR := hR.trans hCr9
   obtain ⟨r9, bb9, kB9, u9, rfl, N9q, K9, Sb9⟩ := hQ9
   have KK10 := K0.trans K9 all0
   have Z9 := lT Z0 K9.1
   have Sb9 := Sb9.cast (n' := (b_ - a_)) (c' := (fun i => c_ (a_ + i))) (by omega) (fun i hi => absurd hi (by omega))
   have N9 := Fr.app N7 N9q
   refine Goes.sts st9 ?_
   refine gG X9 hx (pc := 44) (pc' := 57) (D 26 rfl) ?_ (by decide) (by decide)
   show Gt T9 m 57 #[rv rb, iv (iN a_), iv (iN b_), iv (iN n), iv 0] [(.ref r9)]
   refine Goes.retA X9 hx hret rfl rfl rfl (D 32 rfl) (lvH X9 hlk hS hk hZ (hELs hw) rfl (by rw [hh]; exact hR) (vsome hret) ?_ (by decide) (by decide))
   exact ⟨r9, bb9, kB9, u9, rfl, N9, KK10, Sb9⟩
 ·rcases Nat.decEq b_ n with cBN | cBE
  ·refine gifNo X2 hx (D 8 rfl) ((if0 _ _).trans (teq (yeN a_ 0 (by omega) (by omega) (by omega))).2) ?_
   refine jN X2 hx (D 9 rfl) ?_ rfl
   refine jN X2 hx (D 10 rfl) ?_ rfl
   refine gY X2 hx (pc := 17) (pc' := 22) (D 11 rfl) (feq (neN b_ n (by omega) (by omega) (by omega))).2 ?_ (by decide) (by decide)
   refine jN X2 hx (D 14 rfl) ?_ rfl
   refine jN X2 hx (D 15 rfl) ?_ rfl
   refine gisub X2 hx (D 16 rfl) ?_
   show Gt T2 m 25 _ [(.int ((iN b_) - (iN a_)))]
   rw [show ((iN b_) - (iN a_)) = (iN (b_ - a_)) from iN_sub (a := b_) (b := a_) (by omega)]
   refine gistore X2 hx (D 17 rfl) (l' := #[rv rb, iv (iN a_), iv (iN b_), iv (iN n), iv (iN (b_ - a_))]) rfl ?_
   show Gt T2 m 27 _ []
   rcases Nat.decEq b_ a_ with cDN | cDE
   ·refine aN X2 hx (D 18 rfl) ?_ rfl rfl
    refine zV X2 hx hZ hown hw 136 rfl 137 139 138 140 8 (rmIl0 l hw rb cs Z0 Scs hcs Cb) eh2 Eb hml (D 19 rfl) pd7 (W := 0) (rest := []) ?_ rfl rfl rfl rfl rfl (by decide) (lq rfl) rfl rfl rfl
    rintro T11 L11 v11 X11 ⟨rfl, N11q, eh11⟩
    have N11 := Fr.app N2 N11q
    refine gifNo X11 hx (D 20 rfl) (by decide) ?_
    refine aN X11 hx (D 21 rfl) ?_ rfl rfl
    refine qGF X11 hx hZ hown (hw 25 rfl) Via.refl eh11 Vb (D 22 rfl) ?_
    intro T12 X12 e12
    refine jN X12 hx (D 23 rfl) ?_ rfl
    refine jW X12 hx (D 24 rfl) ?_ rfl
    refine zS X12 hx hZ hown hw 340 341 342 337 (rmNsL l hw bb kb n c_ a_ (b_ - a_) Z0 Ab (by omega) hok (by omega) (by omega) (by omega)) e12 hml (D 25 rfl) pd22 (W := 0) (rest := []) ?_ rfl rfl rfl rfl (by decide) (lq rfl) rfl rfl rfl
    rintro T13 L13 v13 X13 ⟨r13, bb13, kB13, u13, rfl, N13q, K13, Sb13⟩
    have hk := lT hk K13.1
    have hR := hR.trans (CHr.keep K13 sf0 hR.1)
    have KK14 := K0.trans K13 all0
    have Z13 := lT Z0 K13.1
    have N13 := Fr.app N11 N13q
    refine gG X13 hx (pc := 44) (pc' := 57) (D 26 rfl) ?_ (by decide) (by decide)
    show Gt T13 m 57 _ [(.ref r13)]
    refine Goes.retA X13 hx hret rfl rfl rfl (D 32 rfl) (lvH X13 hlk hS hk hZ (hELs hw) rfl (by rw [hh]; exact hR) (vsome hret) ?_ (by decide) (by decide))
    exact ⟨r13, bb13, kB13, u13, rfl, N13, KK14, Sb13⟩
   ·rw [show (iN (b_ - a_)) = (0 : Int32) from by rw [show b_ - a_ = 0 by omega]; rfl]
    show Gt T2 m 27 _ []
    refine aN X2 hx (D 18 rfl) ?_ rfl rfl
    refine zV X2 hx hZ hown hw 136 rfl 137 139 138 140 8 (rmIl0 l hw rb cs Z0 Scs hcs Cb) eh2 Eb hml (D 19 rfl) pd7 (W := 0) (rest := []) ?_ rfl rfl rfl rfl rfl (by decide) (lq rfl) rfl rfl rfl
    rintro T15 L15 v15 X15 ⟨rfl, N15q, eh15⟩
    have N15 := Fr.app N2 N15q
    refine gifNo X15 hx (D 20 rfl) (by decide) ?_
    refine aN X15 hx (D 21 rfl) ?_ rfl rfl
    refine qGF X15 hx hZ hown (hw 25 rfl) Via.refl eh15 Vb (D 22 rfl) ?_
    intro T16 X16 e16
    refine jN X16 hx (D 23 rfl) ?_ rfl
    refine jW X16 hx (D 24 rfl) ?_ rfl
    obtain ⟨_, _, ⟨T17, L17, k17, n17⟩, -, X17, hS17, hg17, ⟨Lc17, hQ17, l17, y17, z17, hCr17⟩, st17⟩ := callSS X16 hx (y := mN27) hown (mvT hZ (hw 340 rfl)) (mvT hZ (hw 341 rfl)) (mvT hZ (hw 337 rfl)) (mvT hZ (hw 342 rfl)) (by decide) (backOfSH (W := 0) (rmNsL0 l hw bb a_ Z0 ) hZ (hw 342 rfl) (hw 337 rfl) (by decide) (by decide) (hELs hw) hR.1) (g := (mkF m 41 #[rv rb, iv (iN a_), iv (iN b_), iv (iN n), iv 0] [(.int 0), (.int (iN a_)), (.ref bb)])) rfl hml.symm (argsL := [(.ref bb), (.int (iN a_)), (.int 0)]) (rest := []) (lenOf pd22 rfl) rfl (by show 2 * 0 + _ ≤ _; exact Nat.le_of_eq rfl) (D 25 rfl) (fun _ _ => ⟨rfl, e16, (by decide : 0 + 2 ≤ 3), (by decide : 0 + 4 ≤ 20)⟩)
    dsimp only [Pt.U, Pt.locs, Pt.cells, Pt.slots] at X17 l17 y17 z17 st17 hQ17 hS17 hg17 hCr17
    subst l17 y17 z17
    obtain ⟨X17, hS, hZ, hown⟩ := rebS hS (by rw [e16]; exact hk) X17 hS17 hg17 hZ hown
    have hk := Nat.le_refl T17.heap.size
    have hR := hR.trans hCr17
    obtain ⟨r17, bb17, kB17, u17, rfl, N17q, K17, Sb17⟩ := hQ17
    have KK18 := K0.trans K17 all0
    have Z17 := lT Z0 K17.1
    have Sb17 := Sb17.cast (n' := (b_ - a_)) (c' := (fun i => c_ (a_ + i))) (by omega) (fun i hi => absurd hi (by omega))
    have N17 := Fr.app N15 N17q
    refine Goes.sts st17 ?_
    refine gG X17 hx (pc := 44) (pc' := 57) (D 26 rfl) ?_ (by decide) (by decide)
    show Gt T17 m 57 #[rv rb, iv (iN a_), iv (iN b_), iv (iN n), iv 0] [(.ref r17)]
    refine Goes.retA X17 hx hret rfl rfl rfl (D 32 rfl) (lvH X17 hlk hS hk hZ (hELs hw) rfl (by rw [hh]; exact hR) (vsome hret) ?_ (by decide) (by decide))
    exact ⟨r17, bb17, kB17, u17, rfl, N17, KK18, Sb17⟩
  ·refine gifNo X2 hx (D 8 rfl) ((if0 _ _).trans (teq (yeN a_ 0 (by omega) (by omega) (by omega))).2) ?_
   refine jN X2 hx (D 9 rfl) ?_ rfl
   refine jN X2 hx (D 10 rfl) ?_ rfl
   refine gicmpNo X2 hx (D 11 rfl) (teq (yeN b_ n (by omega) (by omega) (by omega))).2 ?_
   refine aN X2 hx (D 12 rfl) ?_ rfl rfl
   refine Goes.retA X2 hx hret rfl rfl rfl (D 13 rfl) (lvH X2 hlk hS (by rw [eh2]; exact hk) hZ (hELs hw) eh2 (by rw [hh]; exact hR) (vsome hret) ?_ (by decide) (by decide))
   rw [eh2]
   exact ⟨rb, bb, kb, false, rfl, N2, K0, Sb.cast Bs (by omega) (fun i hi => by rw [show a_ + i = i by omega])⟩
theorem rmSuU (hw : HW a0 Z) (rb bb : Addr) (kb : ClassId) (n : Nat) (c_ : Nat → Int32) (a_ b_ : Nat) (cs : Int32) (fm : Value) (Z0 : n0 ≤ h0.size) (Scs : S_0 Z h0 (.int cs)) (hcs : ¬ cs = (0 : Int32)) (Sd : S_2 Z h0 (.int 1)) (Sh : S_3 Z h0 (.int 0)) (Sl : S_4 Z h0 (.int 8)) (Sfm : S_1 Z h0 fm) (hfm : fm.isRef = true) (Bs : Sb Z h0 rb bb kb true n c_) (hab : a_ ≤ b_) (hbn : b_ ≤ n) :
  QMh l Z ELs mN34 jdk_42_method_92_code 5 (some (.object "java/lang/String")) ws (rM 6 3 20 94) #[(.ref rb), (.int (iN a_)), (.int (iN b_))] h0 (QSu Z rb bb kb u n c_ a_ b_ cs fm h0 n0) := by
 refine bodyH (pfn pn0) (Ls := #[rv rb, iv (iN a_), iv (iN b_), .unset, .unset]) (fun _ => rfl) ?_
 intro p e s m below meth c s₁ hx hby hlk hret hml hown hnm hZ hh hR X0 e0 hS
 have hk : 0 ≤ h0.size := Nat.zero_le _
 have D := @db _ _ _ hby Dj42_92
 obtain ⟨Eb, Vb, Cb, Ab, hn4, hok⟩ := id Bs
 have Cb : F_1 Z h0 rb (.int 1) := Cb
 have Ab : Arv Z h0 bb kb .byte (iN (2 * n)) (rg (2 * n) (ub c_)) (.int 0) := Ab
 have hok : ∀ i, i < n → 0 ≤ (c_ i).toInt ∧ (c_ i).toInt < 65536 := hok
 have K0 : Keep h0 h0 [] := Keep.refl _ _
 show Gt s₁ m 0 _ []
 refine aN X0 hx (D 0 rfl) ?_ rfl rfl
 refine zV X0 hx hZ hown hw 166 rfl 122 124 123 125 8 (rmLe l hw rb bb kb true n c_ cs Z0 Scs hcs Bs) e0 Eb hml (D 1 rfl) pd20 (W := 0) (rest := []) ?_ rfl rfl rfl rfl rfl (by decide) (lq rfl) rfl rfl rfl
 rintro T1 L1 v1 X1 ⟨rfl, N1q, eh1⟩
 have N1 := Fr.app (Fr.nil n0) N1q
 refine gistoreN X1 hx (D 2 rfl) (l' := #[rv rb, iv (iN a_), iv (iN b_), iv (iN n), .unset]) rfl ?_
 refine jN X1 hx (D 3 rfl) ?_ rfl
 refine jN X1 hx (D 4 rfl) ?_ rfl
 refine jN X1 hx (D 5 rfl) ?_ rfl
 refine zS X1 hx hZ hown hw 167 168 169 8 (rmBb l hw (iN a_) (iN b_) (iN n) fm Z0 Sfm hfm (nnN a_ (by omega)) (nlN b_ a_ (by omega) (by omega) (by omega)) (nlN n b_ (by omega) (by omega) (by omega))) eh1 hml (D 6 rfl) pd21 (W := 0) (rest := []) ?_ rfl rfl rfl rfl (by decide) (lq rfl) rfl rfl rfl
 rintro T2 L2 v2 X2 ⟨rfl, N2q, eh2⟩
 have N2 := Fr.app N1 N2q
 refine jN X2 hx (D 7 rfl) ?_ rfl
 show Gt T2 m 12 _ [(.int (iN a_))]
 rcases Nat.decEq a_ 0 with cAN | cAE
 ·refine gT X2 hx (pc := 12) (pc' := 22) (D 8 rfl) ((if0 _ _).trans (feq (neN a_ 0 (by omega) (by omega) (by omega))).2) ?_ (by decide) (by decide)
  refine jN X2 hx (D 14 rfl) ?_ rfl
  refine jN X2 hx (D 15 rfl) ?_ rfl
  refine gisub X2 hx (D 16 rfl) ?_
  show Gt T2 m 25 _ [(.int ((iN b_) - (iN a_)))]
  rw [show ((iN b_) - (iN a_)) = (iN (b_ - a_)) from iN_sub (a := b_) (b := a_) (by omega)]
  refine gistore X2 hx (D 17 rfl) (l' := #[rv rb, iv (iN a_), iv (iN b_), iv (iN n), iv (iN (b_ - a_))]) rfl ?_
  show Gt T2 m 27 _ []
  rcases Nat.decEq b_ a_ with cDN | cDE
  ·refine aN X2 hx (D 18 rfl) ?_ rfl rfl
   refine zV X2 hx hZ hown hw 136 rfl 137 139 138 140 8 (rmIl1 l hw rb cs Z0 Scs hcs Cb) eh2 Eb hml (D 19 rfl) pd7 (W := 0) (rest := []) ?_ rfl rfl rfl rfl rfl (by decide) (lq rfl) rfl rfl rfl
   rintro T3 L3 v3 X3 ⟨rfl, N3q, eh3⟩
   have N3 := Fr.app N2 N3q
   refine gT X3 hx (pc := 31) (pc' := 47) (D 20 rfl) (by decide) ?_ (by decide) (by decide)
   refine aN X3 hx (D 27 rfl) ?_ rfl rfl
   refine qGF X3 hx hZ hown (hw 25 rfl) Via.refl eh3 Vb (D 28 rfl) ?_
   intro T4 X4 e4
   refine jN X4 hx (D 29 rfl) ?_ rfl
   refine jW X4 hx (D 30 rfl) ?_ rfl
   refine zS X4 hx hZ hown hw 348 349 350 67 (rmNsU l hw bb kb n c_ a_ (b_ - a_) cs fm Z0 Scs hcs Sd Sh Sl Sfm hfm Ab (by omega) hok (by omega) (by omega) (by omega)) e4 hml (D 31 rfl) pd22 (W := 0) (rest := []) ?_ rfl rfl rfl rfl (by decide) (lq rfl) rfl rfl rfl
   rintro T5 L5 v5 X5 ⟨r5, bb5, kB5, u5, rfl, N5q, K5, Sb5⟩
   have hk := lT hk K5.1
   have hR := hR.trans (CHr.keep K5 sf0 hR.1)
   have KK6 := K0.trans K5 all0
   have Z5 := lT Z0 K5.1
   have N5 := Fr.app N3 N5q
   refine Goes.retA X5 hx hret rfl rfl rfl (D 32 rfl) (lvH X5 hlk hS hk hZ (hELs hw) rfl (by rw [hh]; exact hR) (vsome hret) ?_ (by decide) (by decide))
   exact ⟨r5, bb5, kB5, u5, rfl, N5, KK6, Sb5⟩
  ·rw [show (iN (b_ - a_)) = (0 : Int32) from by rw [show b_ - a_ = 0 by omega]; rfl]
   show Gt T2 m 27 _ []
   refine aN X2 hx (D 18 rfl) ?_ rfl rfl
   refine zV X2 hx hZ hown hw 136 rfl 137 139 138 140 8 (rmIl1 l hw rb cs Z0 Scs hcs Cb) eh2 Eb hml (D 19 rfl) pd7 (W := 0) (rest := []) ?_ rfl rfl rfl rfl rfl (by decide) (lq rfl) rfl rfl rfl
   rintro T7 L7 v7 X7 ⟨rfl, N7q, eh7⟩
   have N7 := Fr.app N2 N7q
   refine gT X7 hx (pc := 31) (pc' := 47) (D 20 rfl) (by decide) ?_ (by decide) (by decide)
   refine aN X7 hx (D 27 rfl) ?_ rfl rfl
   refine qGF X7 hx hZ hown (hw 25 rfl) Via.refl eh7 Vb (D 28 rfl) ?_
   intro T8 X8 e8
   refine jN X8 hx (D 29 rfl) ?_ rfl
   refine jW X8 hx (D 30 rfl) ?_ rfl
   obtain ⟨_, _, ⟨T9, L9, k9, n9⟩, -, X9, hS9, hg9, ⟨Lc9, hQ9, l9, y9, z9, hCr9⟩, st9⟩ := callSS X8 hx (y := mN33) hown (mvT hZ (hw 348 rfl)) (mvT hZ (hw 349 rfl)) (mvT hZ (hw 67 rfl)) (mvT hZ (hw 350 rfl)) (by decide) (backOfSH (W := 0) (rmNsU0 l hw bb a_ Z0 ) hZ (hw 350 rfl) (hw 67 rfl) (by decide) (by decide) (hELs hw) hR.1) (g := (mkF m 54 #[rv rb, iv (iN a_), iv (iN b_), iv (iN n), iv 0] [(.int 0), (.int (iN a_)), (.ref bb)])) rfl hml.symm (argsL := [(.ref bb), (.int (iN a_)), (.int 0)]) (rest := []) (lenOf pd22 rfl) rfl (by show 2 * 0 + _ ≤ _; exact Nat.le_of_eq rfl) (D 31 rfl) (fun _ _ => ⟨rfl, e8, (by decide : 0 + 2 ≤ 3), (by decide : 0 + 4 ≤ 20)⟩)
   dsimp only [Pt.U, Pt.locs, Pt.cells, Pt.slots] at X9 l9 y9 z9 st9 hQ9 hS9 hg9 hCr9
   subst l9 y9 z9
   obtain ⟨X9, hS, hZ, hown⟩ := rebS hS (by rw [e8]; exact hk) X9 hS9 hg9 hZ hown
   have hk := Nat.le_refl T9.heap.size
   have hR := hR.trans hCr9
   obtain ⟨r9, bb9, kB9, u9, rfl, N9q, K9, Sb9⟩ := hQ9
   have KK10 := K0.trans K9 all0
   have Z9 := lT Z0 K9.1
   have Sb9 := Sb9.cast (n' := (b_ - a_)) (c' := (fun i => c_ (a_ + i))) (by omega) (fun i hi => absurd hi (by omega))
   have N9 := Fr.app N7 N9q
   refine Goes.sts st9 ?_
   refine Goes.retA X9 hx hret rfl rfl rfl (D 32 rfl) (lvH X9 hlk hS hk hZ (hELs hw) rfl (by rw [hh]; exact hR) (vsome hret) ?_ (by decide) (by decide))
   exact ⟨r9, bb9, kB9, u9, rfl, N9, KK10, Sb9⟩
 ·rcases Nat.decEq b_ n with cBN | cBE
  ·refine gifNo X2 hx (D 8 rfl) ((if0 _ _).trans (teq (yeN a_ 0 (by omega) (by omega) (by omega))).2) ?_
   show Gt T2 m 15 _ []
   refine jN X2 hx (D 9 rfl) ?_ rfl
   refine jN X2 hx (D 10 rfl) ?_ rfl
   refine gY X2 hx (pc := 17) (pc' := 22) (D 11 rfl) (feq (neN b_ n (by omega) (by omega) (by omega))).2 ?_ (by decide) (by decide)
   refine jN X2 hx (D 14 rfl) ?_ rfl
   refine jN X2 hx (D 15 rfl) ?_ rfl
   refine gisub X2 hx (D 16 rfl) ?_
   show Gt T2 m 25 _ [(.int ((iN b_) - (iN a_)))]
   rw [show ((iN b_) - (iN a_)) = (iN (b_ - a_)) from iN_sub (a := b_) (b := a_) (by omega)]
   refine gistore X2 hx (D 17 rfl) (l' := #[rv rb, iv (iN a_), iv (iN b_), iv (iN n), iv (iN (b_ - a_))]) rfl ?_
   show Gt T2 m 27 _ []
   rcases Nat.decEq b_ a_ with cDN | cDE
   ·refine aN X2 hx (D 18 rfl) ?_ rfl rfl
    refine zV X2 hx hZ hown hw 136 rfl 137 139 138 140 8 (rmIl1 l hw rb cs Z0 Scs hcs Cb) eh2 Eb hml (D 19 rfl) pd7 (W := 0) (rest := []) ?_ rfl rfl rfl rfl rfl (by decide) (lq rfl) rfl rfl rfl
    rintro T11 L11 v11 X11 ⟨rfl, N11q, eh11⟩
    have N11 := Fr.app N2 N11q
    refine gT X11 hx (pc := 31) (pc' := 47) (D 20 rfl) (by decide) ?_ (by decide) (by decide)
    refine aN X11 hx (D 27 rfl) ?_ rfl rfl
    refine qGF X11 hx hZ hown (hw 25 rfl) Via.refl eh11 Vb (D 28 rfl) ?_
    intro T12 X12 e12
    refine jN X12 hx (D 29 rfl) ?_ rfl
    refine jW X12 hx (D 30 rfl) ?_ rfl
    refine zS X12 hx hZ hown hw 348 349 350 67 (rmNsU l hw bb kb n c_ a_ (b_ - a_) cs fm Z0 Scs hcs Sd Sh Sl Sfm hfm Ab (by omega) hok (by omega) (by omega) (by omega)) e12 hml (D 31 rfl) pd22 (W := 0) (rest := []) ?_ rfl rfl rfl rfl (by decide) (lq rfl) rfl rfl rfl
    rintro T13 L13 v13 X13 ⟨r13, bb13, kB13, u13, rfl, N13q, K13, Sb13⟩
    have hk := lT hk K13.1
    have hR := hR.trans (CHr.keep K13 sf0 hR.1)
    have KK14 := K0.trans K13 all0
    have Z13 := lT Z0 K13.1
    have N13 := Fr.app N11 N13q
    refine Goes.retA X13 hx hret rfl rfl rfl (D 32 rfl) (lvH X13 hlk hS hk hZ (hELs hw) rfl (by rw [hh]; exact hR) (vsome hret) ?_ (by decide) (by decide))
    exact ⟨r13, bb13, kB13, u13, rfl, N13, KK14, Sb13⟩
   ·rw [show (iN (b_ - a_)) = (0 : Int32) from by rw [show b_ - a_ = 0 by omega]; rfl]
    show Gt T2 m 27 _ []
    refine aN X2 hx (D 18 rfl) ?_ rfl rfl
    refine zV X2 hx hZ hown hw 136 rfl 137 139 138 140 8 (rmIl1 l hw rb cs Z0 Scs hcs Cb) eh2 Eb hml (D 19 rfl) pd7 (W := 0) (rest := []) ?_ rfl rfl rfl rfl rfl (by decide) (lq rfl) rfl rfl rfl
    rintro T15 L15 v15 X15 ⟨rfl, N15q, eh15⟩
    have N15 := Fr.app N2 N15q
    refine gT X15 hx (pc := 31) (pc' := 47) (D 20 rfl) (by decide) ?_ (by decide) (by decide)
    refine aN X15 hx (D 27 rfl) ?_ rfl rfl
    refine qGF X15 hx hZ hown (hw 25 rfl) Via.refl eh15 Vb (D 28 rfl) ?_
    intro T16 X16 e16
    refine jN X16 hx (D 29 rfl) ?_ rfl
    refine jW X16 hx (D 30 rfl) ?_ rfl
    obtain ⟨_, _, ⟨T17, L17, k17, n17⟩, -, X17, hS17, hg17, ⟨Lc17, hQ17, l17, y17, z17, hCr17⟩, st17⟩ := callSS X16 hx (y := mN33) hown (mvT hZ (hw 348 rfl)) (mvT hZ (hw 349 rfl)) (mvT hZ (hw 67 rfl)) (mvT hZ (hw 350 rfl)) (by decide) (backOfSH (W := 0) (rmNsU0 l hw bb a_ Z0 ) hZ (hw 350 rfl) (hw 67 rfl) (by decide) (by decide) (hELs hw) hR.1) (g := (mkF m 54 #[rv rb, iv (iN a_), iv (iN b_), iv (iN n), iv 0] [(.int 0), (.int (iN a_)), (.ref bb)])) rfl hml.symm (argsL := [(.ref bb), (.int (iN a_)), (.int 0)]) (rest := []) (lenOf pd22 rfl) rfl (by show 2 * 0 + _ ≤ _; exact Nat.le_of_eq rfl) (D 31 rfl) (fun _ _ => ⟨rfl, e16, (by decide : 0 + 2 ≤ 3), (by decide : 0 + 4 ≤ 20)⟩)
    dsimp only [Pt.U, Pt.locs, Pt.cells, Pt.slots] at X17 l17 y17 z17 st17 hQ17 hS17 hg17 hCr17
    subst l17 y17 z17
    obtain ⟨X17, hS, hZ, hown⟩ := rebS hS (by rw [e16]; exact hk) X17 hS17 hg17 hZ hown
    have hk := Nat.le_refl T17.heap.size
    have hR := hR.trans hCr17
    obtain ⟨r17, bb17, kB17, u17, rfl, N17q, K17, Sb17⟩ := hQ17
    have KK18 := K0.trans K17 all0
    have Z17 := lT Z0 K17.1
    have Sb17 := Sb17.cast (n' := (b_ - a_)) (c' := (fun i => c_ (a_ + i))) (by omega) (fun i hi => absurd hi (by omega))
    have N17 := Fr.app N15 N17q
    refine Goes.sts st17 ?_
    refine Goes.retA X17 hx hret rfl rfl rfl (D 32 rfl) (lvH X17 hlk hS hk hZ (hELs hw) rfl (by rw [hh]; exact hR) (vsome hret) ?_ (by decide) (by decide))
    exact ⟨r17, bb17, kB17, u17, rfl, N17, KK18, Sb17⟩
  ·refine gifNo X2 hx (D 8 rfl) ((if0 _ _).trans (teq (yeN a_ 0 (by omega) (by omega) (by omega))).2) ?_
   show Gt T2 m 15 _ []
   refine jN X2 hx (D 9 rfl) ?_ rfl
   refine jN X2 hx (D 10 rfl) ?_ rfl
   refine gicmpNo X2 hx (D 11 rfl) (teq (yeN b_ n (by omega) (by omega) (by omega))).2 ?_
   refine aN X2 hx (D 12 rfl) ?_ rfl rfl
   refine Goes.retA X2 hx hret rfl rfl rfl (D 13 rfl) (lvH X2 hlk hS (by rw [eh2]; exact hk) hZ (hELs hw) eh2 (by rw [hh]; exact hR) (vsome hret) ?_ (by decide) (by decide))
   rw [eh2]
   exact ⟨rb, bb, kb, true, rfl, N2, K0, Sb.cast Bs (by omega) (fun i hi => by rw [show a_ + i = i by omega])⟩
theorem rmSu (hw : HW a0 Z) (rb bb : Addr) (kb : ClassId) (u : Bool) (n : Nat) (c_ : Nat → Int32) (a_ b_ : Nat) (cs : Int32) (fm : Value) (Z0 : n0 ≤ h0.size) (Scs : S_0 Z h0 (.int cs)) (hcs : ¬ cs = (0 : Int32)) (Sd : S_2 Z h0 (.int 1)) (Sh : S_3 Z h0 (.int 0)) (Sl : S_4 Z h0 (.int 8)) (Sfm : S_1 Z h0 fm) (hfm : fm.isRef = true) (Bs : Sb Z h0 rb bb kb u n c_) (hab : a_ ≤ b_) (hbn : b_ ≤ n) :
  QMh l Z ELs mN34 jdk_42_method_92_code 5 (some (.object "java/lang/String")) ws (rM 6 3 20 94) #[(.ref rb), (.int (iN a_)), (.int (iN b_))] h0 (QSu Z rb bb kb u n c_ a_ b_ cs fm h0 n0) := by
 cases u
 ·exact rmSuL l hw rb bb kb n c_ a_ b_ cs fm Z0 Scs hcs Sd Sh Sl Sfm hfm Bs hab hbn
 ·exact rmSuU l hw rb bb kb n c_ a_ b_ cs fm Z0 Scs hcs Sd Sh Sl Sfm hfm Bs hab hbn
def TB (n : Nat) (c : Nat → Int32) (s e : Nat) : Prop := s ≤ e ∧ e ≤ n ∧ (∀ i, i < s → ¬ (32 : Int32) < c i) ∧ (∀ i, e ≤ i → i < n → ¬ (32 : Int32) < c i) ∧ (s = n ∨ (s < e ∧ (32 : Int32) < c s ∧ (32 : Int32) < c (e - 1)))
theorem own_sg {c : Nat → Int32} {x y : Nat} (h : (32 : Int32) < c x) (q : ¬ (32 : Int32) < c y) : x ≠ y := fun e => q (e ▸ h)
theorem own_dbl2 {Z : State} {h : Heap} {b : Addr} {k : ClassId} {dv : Value} {s e : Nat} {c : Nat → Int32} (F : Arv Z h b k .byte (iN (2 * e - 2 * s)) (rg (2 * e - 2 * s) (fun i => ub c (2 * s + i))) dv) : Arv Z h b k .byte (iN (wd true (e - s))) (rg (wd true (e - s)) (bl true (fun i => c (s + i)))) dv := by
 rw [show 2 * e - 2 * s = 2 * (e - s) by omega] at F
 exact rg_to F (fun j _ => ub_sh c s j)
theorem Dj52_61 : ∀ q ∈ ([(0, .aload_n 0, 1), (1, .arraylength, 1), (2, .iconst 1, 1), (3, .ishr, 1), (4, .istore_n 1, 1), (5, .iload_n 1, 1), (6, .istore_n 2, 1), (7, .iconst 0, 1), (8, .istore_n 3, 1), (9, .iload_n 3, 1), (10, .iload_n 2, 1), (11, .if_icmp .ge 19, 3), (14, .aload_n 0, 1), (15, .iload_n 3, 1), (16, .invokestatic 71, 3), (19, .bipush 32, 2), (21, .if_icmp .gt 9, 3), (24, .iinc 3 1, 3), (27, .goto (-18), 3), (30, .iload_n 3, 1), (31, .iload_n 2, 1), (32, .if_icmp .ge 21, 3), (35, .aload_n 0, 1), (36, .iload_n 2, 1), (37, .iconst 1, 1), (38, .isub, 1), (39, .invokestatic 71, 3), (42, .bipush 32, 2), (44, .if_icmp .gt 9, 3), (47, .iinc 2 (-1), 3), (50, .goto (-20), 3), (53, .iload_n 3, 1), (54, .ifCond .gt 8, 3), (57, .iload_n 2, 1), (58, .iload_n 1, 1), (59, .if_icmp .ge 24, 3), (62, .new 3, 3), (65, .dup, 1), (66, .aload_n 0, 1), (67, .iload_n 3, 1), (68, .iconst 1, 1), (69, .ishl, 1), (70, .iload_n 2, 1), (71, .iconst 1, 1), (72, .ishl, 1), (73, .invokestatic 126, 3), (76, .iconst 1, 1), (77, .invokespecial 263, 3), (80, .goto 4, 3), (83, .aconst_null, 1), (84, .areturn, 1)] : List (Nat × Instr × Nat)), decode jdk_52_method_61_code q.1 = .ok (q.2.1, q.2.2) := by decide +kernel
def QTrU (Z : State) (aB : Addr) (kB : ClassId) (n : Nat) (c_ : Nat → Int32) (h0 : Heap) (n0 : Nat) (v : Option Value) (h : Heap) (L : List Loc) : Prop := ∃ (x : Value) (s_ e_ : Nat), v = some x ∧ Fr n0 L ∧ Keep h0 h [] ∧ TB n c_ s_ e_ ∧ ((x = .null ∧ s_ = 0 ∧ e_ = n) ∨ ∃ (r bb : Addr) (kC : ClassId) (u : Bool), x = .ref r ∧ Sb Z h r bb kC u (e_ - s_) (fun i => c_ (s_ + i)))
def IT1U (p : Program) (l : Launch) (e : Env) (s : State) (m : MethodId) (args : Array Value) (below : List Frame) (meth : Method) (c : Code) (E : Outcome → State → Prop) (Z : State) (n0 : Nat) (hh : Heap) (aB : Addr) (kB : ClassId) (n : Nat) (c_ : Nat → Int32) (k : Nat) : Prop := ∀ (T0 : State) (locs0 : List Loc), Stand p l e (rM 3 2 12 61) s m args below meth c T0 locs0 0 0 → T0.heap = hh → Fr n0 locs0 → (n ≤ 4) → (∀ i, i < n → 0 ≤ (c_ i).toInt ∧ (c_ i).toInt < 65536) → (k ≤ n) → (∀ i, i < k → ¬ (32 : Int32) < c_ i) → Goes p e below E (T0.setTop (mkF m 9 #[rv aB, iv (iN n), iv (iN n), iv (iN k)] []))
def IT2U (p : Program) (l : Launch) (e : Env) (s : State) (m : MethodId) (args : Array Value) (below : List Frame) (meth : Method) (c : Code) (E : Outcome → State → Prop) (Z : State) (n0 : Nat) (hh : Heap) (aB : Addr) (kB : ClassId) (n : Nat) (c_ : Nat → Int32) (s_ : Nat) (j : Nat) : Prop := ∀ (T0 : State) (locs0 : List Loc), Stand p l e (rM 3 2 12 61) s m args below meth c T0 locs0 0 0 → T0.heap = hh → Fr n0 locs0 → (n ≤ 4) → (∀ i, i < n → 0 ≤ (c_ i).toInt ∧ (c_ i).toInt < 65536) → (j ≤ n - s_) → (s_ ≤ n) → (∀ i, i < s_ → ¬ (32 : Int32) < c_ i) → (s_ = n ∨ (32 : Int32) < c_ s_) → (s_ < n → s_ < n - j) → (∀ i, n - j ≤ i → i < n → ¬ (32 : Int32) < c_ i) → Goes p e below E (T0.setTop (mkF m 30 #[rv aB, iv (iN n), iv (iN (n - j)), iv (iN s_)] []))
theorem tnT2U {p : Program} {l : Launch} {e : Env} {s : State} {m : MethodId} {args : Array Value} {below : List Frame} {meth : Method} {c : Code} {E : Outcome → State → Prop} (Z : State) (a0 : Array Value) (hw : HW a0 Z) (hx : p.tables.exec = Jvm.exec) (hby : c.code = jdk_52_method_61_code) (hlk : meth.locks = false) (hret : meth.sig.returnType = some (.object "java/lang/String")) (hml : c.maxLocals = 4) (hnm : meth.name = "trim") (hown : s.vm.findClass "java/lang/StringUTF16" = some m.cls) (hZ : Z.Warmed39 s.vm) (aB : Addr) (kB : ClassId) (n : Nat) (c_ : Nat → Int32) (s_ : Nat) (j : Nat) (h0 hh : Heap) (n0 : Nat) (T0 : State) (locs0 : List Loc) (X0 : Stand p l e (rM 3 2 12 61) s m args below meth c T0 locs0 0 0) (e0 : T0.heap = hh) (N0 : Fr n0 locs0) (Z0 : n0 ≤ hh.size) (Sd : S_2 Z hh (.int 1)) (Sh : S_3 Z hh (.int 0)) (Sl : S_4 Z hh (.int 8)) (VB : Arv Z hh aB kB .byte (iN (2 * n)) (rg (2 * n) (ub c_)) (.int 0)) (kont : ∀ (s_ e_ : Nat), TB n c_ s_ e_ → ∀ (T1 : State) (L1 : List Loc), Stand p l e (rM 3 2 12 61) s m args below meth c T1 L1 0 0 → T1.heap = hh → Fr n0 L1 → Goes p e below E (T1.setTop (mkF m 53 #[rv aB, iv (iN n), iv (iN e_), iv (iN s_)] []))) (hn4 : n ≤ 4) (hok : ∀ i, i < n → 0 ≤ (c_ i).toInt ∧ (c_ i).toInt < 65536) (hj : j ≤ n - s_) (hsn : s_ ≤ n) (hb : ∀ i, i < s_ → ¬ (32 : Int32) < c_ i) (hx_ : s_ = n ∨ (32 : Int32) < c_ s_) (hs1 : s_ < n → s_ < n - j) (ht : ∀ i, n - j ≤ i → i < n → ¬ (32 : Int32) < c_ i) (ih : j < (n - s_) → IT2U p l e s m args below meth c E Z n0 hh aB kB n c_ s_ (j + 1)) :
  Goes p e below E (T0.setTop (mkF m 30 #[rv aB, iv (iN n), iv (iN (n - j)), iv (iN s_)] [])) := by
 have D := @db _ _ _ hby Dj52_61
 show Gt T0 m 30 _ []
 refine jN X0 hx (D 19 rfl) ?_ rfl
 refine jN X0 hx (D 20 rfl) ?_ rfl
 by_cases c1 : (iN s_) < (iN (n - j))
 ·have c1N := (iN_lt (a := s_) (b := n - j) (by omega) (by omega)).mp c1
  refine gicmpNo X0 hx (D 21 rfl) (tlt c1).2.1 ?_
  refine aN X0 hx (D 22 rfl) ?_ rfl rfl
  refine jN X0 hx (D 23 rfl) ?_ rfl
  refine giconst X0 hx (D 24 rfl) ?_
  refine gisub X0 hx (D 25 rfl) ?_
  show Gt T0 m 39 _ [(.int ((iN (n - j)) - (1 : Int32))), (.ref aB)]
  rw [show ((iN (n - j)) - (1 : Int32)) = (iN (n - j - 1)) from ((iN_sub (a := n - j) (b := 1) (by omega)).trans (congrArg iN (by omega)))]
  refine zS X0 hx hZ hown hw 88 89 90 67 (rmGc l hw aB kB n c_ (n - j - 1) Z0 Sd Sh Sl VB (by omega) hok (by omega)) e0 hml (D 26 rfl) pd6 (W := 0) (rest := []) ?_ rfl rfl rfl rfl (by decide) (lq rfl) rfl rfl rfl
  rintro T2 L2 v2 X2 ⟨rfl, N2q, eh2⟩
  have N2 := Fr.app N0 N2q
  refine gbipush X2 hx (D 27 rfl) ?_
  by_cases c3 : (32 : Int32) < (c_ (n - j - 1))
  ·refine gY X2 hx (pc := 44) (pc' := 53) (D 28 rfl) (tlt c3).2.2.1 ?_ (by decide) (by decide)
   show Gt T2 m 53 _ []
   exact kont s_ (n - j) ⟨by omega, by omega, hb, ht, Or.inr ⟨by omega, hx_.elim (fun q => absurd q (by omega)) id, c3⟩⟩ T2 _ X2 eh2 N2
  ·refine gicmpNo X2 hx (D 28 rfl) (flt c3).2.2.1 ?_
   refine giinc X2 hx (D 29 rfl) rfl (l' := #[rv aB, iv (iN n), iv ((iN (n - j)) + (-1 : Int32)), iv (iN s_)]) rfl ?_
   show Gt T2 m 50 _ []
   rw [show ((iN (n - j)) + (-1 : Int32)) = (iN (n - j - 1)) from iN_dec (a := n - j) (by omega)]
   refine gG X2 hx (pc := 50) (pc' := 30) (D 30 rfl) ?_ (by decide) (by decide)
   show Gt T2 m 30 _ []
   exact ih (by omega) T2 _ X2 eh2 N2 hn4 hok (by omega) (by omega) hb hx_ (fun q => hx_.elim (fun r => by omega) (fun r => by have := own_sg r c3; omega)) (fun i q r => if e : i = n - j - 1 then e ▸ c3 else ht i (by omega) r)
 ·have c1N : ¬ s_ < (n - j) := fun q => c1 ((iN_lt (a := s_) (b := n - j) (by omega) (by omega)).mpr q)
  refine gY X0 hx (pc := 32) (pc' := 53) (D 21 rfl) (flt c1).2.1 ?_ (by decide) (by decide)
  show Gt T0 m 53 _ []
  exact kont s_ (n - j) ⟨by omega, by omega, hb, ht, Or.inl (by omega)⟩ T0 _ X0 e0 N0
theorem lpT2U {p : Program} {l : Launch} {e : Env} {s : State} {m : MethodId} {args : Array Value} {below : List Frame} {meth : Method} {c : Code} {E : Outcome → State → Prop} (Z : State) (a0 : Array Value) (hw : HW a0 Z) (hx : p.tables.exec = Jvm.exec) (hby : c.code = jdk_52_method_61_code) (hlk : meth.locks = false) (hret : meth.sig.returnType = some (.object "java/lang/String")) (hml : c.maxLocals = 4) (hnm : meth.name = "trim") (hown : s.vm.findClass "java/lang/StringUTF16" = some m.cls) (hZ : Z.Warmed39 s.vm) (aB : Addr) (kB : ClassId) (n : Nat) (c_ : Nat → Int32) (s_ : Nat) (hh : Heap) (n0 : Nat) (Z0 : n0 ≤ hh.size) (Sd : S_2 Z hh (.int 1)) (Sh : S_3 Z hh (.int 0)) (Sl : S_4 Z hh (.int 8)) (VB : Arv Z hh aB kB .byte (iN (2 * n)) (rg (2 * n) (ub c_)) (.int 0)) (kont : ∀ (s_ e_ : Nat), TB n c_ s_ e_ → ∀ (T1 : State) (L1 : List Loc), Stand p l e (rM 3 2 12 61) s m args below meth c T1 L1 0 0 → T1.heap = hh → Fr n0 L1 → Goes p e below E (T1.setTop (mkF m 53 #[rv aB, iv (iN n), iv (iN e_), iv (iN s_)] []))) : ∀ d_ j, (n - s_) - j = d_ → IT2U p l e s m args below meth c E Z n0 hh aB kB n c_ s_ j := by
 intro d_
 induction d_ with
 | zero =>
  intro j hd_ T0 locs0 X0 e0 N0 hn4 hok hj hsn hb hx_ hs1 ht
  exact tnT2U Z a0 hw hx hby hlk hret hml hnm hown hZ aB kB n c_ s_ j hh hh n0 T0 locs0 X0 e0 N0 Z0 Sd Sh Sl VB kont hn4 hok hj hsn hb hx_ hs1 ht (fun q => absurd q (by omega))
 | succ d_ ih =>
  intro j hd_ T0 locs0 X0 e0 N0 hn4 hok hj hsn hb hx_ hs1 ht
  exact tnT2U Z a0 hw hx hby hlk hret hml hnm hown hZ aB kB n c_ s_ j hh hh n0 T0 locs0 X0 e0 N0 Z0 Sd Sh Sl VB kont hn4 hok hj hsn hb hx_ hs1 ht (fun q => ih (j + 1) (by omega))
theorem tnT1U {p : Program} {l : Launch} {e : Env} {s : State} {m : MethodId} {args : Array Value} {below : List Frame} {meth : Method} {c : Code} {E : Outcome → State → Prop} (Z : State) (a0 : Array Value) (hw : HW a0 Z) (hx : p.tables.exec = Jvm.exec) (hby : c.code = jdk_52_method_61_code) (hlk : meth.locks = false) (hret : meth.sig.returnType = some (.object "java/lang/String")) (hml : c.maxLocals = 4) (hnm : meth.name = "trim") (hown : s.vm.findClass "java/lang/StringUTF16" = some m.cls) (hZ : Z.Warmed39 s.vm) (aB : Addr) (kB : ClassId) (n : Nat) (c_ : Nat → Int32) (k : Nat) (h0 hh : Heap) (n0 : Nat) (T0 : State) (locs0 : List Loc) (X0 : Stand p l e (rM 3 2 12 61) s m args below meth c T0 locs0 0 0) (e0 : T0.heap = hh) (N0 : Fr n0 locs0) (Z0 : n0 ≤ hh.size) (Sd : S_2 Z hh (.int 1)) (Sh : S_3 Z hh (.int 0)) (Sl : S_4 Z hh (.int 8)) (VB : Arv Z hh aB kB .byte (iN (2 * n)) (rg (2 * n) (ub c_)) (.int 0)) (kont : ∀ (s_ e_ : Nat), TB n c_ s_ e_ → ∀ (T1 : State) (L1 : List Loc), Stand p l e (rM 3 2 12 61) s m args below meth c T1 L1 0 0 → T1.heap = hh → Fr n0 L1 → Goes p e below E (T1.setTop (mkF m 53 #[rv aB, iv (iN n), iv (iN e_), iv (iN s_)] []))) (hn4 : n ≤ 4) (hok : ∀ i, i < n → 0 ≤ (c_ i).toInt ∧ (c_ i).toInt < 65536) (hk_ : k ≤ n) (hb : ∀ i, i < k → ¬ (32 : Int32) < c_ i) (ih : k < n → IT1U p l e s m args below meth c E Z n0 hh aB kB n c_ (k + 1)) :
  Goes p e below E (T0.setTop (mkF m 9 #[rv aB, iv (iN n), iv (iN n), iv (iN k)] [])) := by
 have D := @db _ _ _ hby Dj52_61
 show Gt T0 m 9 _ []
 refine jN X0 hx (D 9 rfl) ?_ rfl
 refine jN X0 hx (D 10 rfl) ?_ rfl
 by_cases c1 : (iN k) < (iN n)
 ·have c1N := (iN_lt (a := k) (b := n) (by omega) (by omega)).mp c1
  refine gicmpNo X0 hx (D 11 rfl) (tlt c1).2.1 ?_
  refine aN X0 hx (D 12 rfl) ?_ rfl rfl
  refine jN X0 hx (D 13 rfl) ?_ rfl
  refine zS X0 hx hZ hown hw 88 89 90 67 (rmGc l hw aB kB n c_ k Z0 Sd Sh Sl VB (by omega) hok (by omega)) e0 hml (D 14 rfl) pd6 (W := 0) (rest := []) ?_ rfl rfl rfl rfl (by decide) (lq rfl) rfl rfl rfl
  rintro T2 L2 v2 X2 ⟨rfl, N2q, eh2⟩
  have N2 := Fr.app N0 N2q
  refine gbipush X2 hx (D 15 rfl) ?_
  by_cases c3 : (32 : Int32) < (c_ k)
  ·refine gY X2 hx (pc := 21) (pc' := 30) (D 16 rfl) (tlt c3).2.2.1 ?_ (by decide) (by decide)
   show Gt T2 m 30 _ []
   exact lpT2U Z a0 hw hx hby hlk hret hml hnm hown hZ aB kB n c_ k hh n0 Z0 Sd Sh Sl VB kont _ 0 rfl T2 _ X2 eh2 N2 hn4 hok (by omega) (by omega) hb (Or.inr c3) (by omega) (fun i q r => absurd q (by omega))
  ·refine gicmpNo X2 hx (D 16 rfl) (flt c3).2.2.1 ?_
   refine giinc X2 hx (D 17 rfl) rfl (l' := #[rv aB, iv (iN n), iv (iN n), iv ((iN k) + (1 : Int32))]) rfl ?_
   show Gt T2 m 27 _ []
   rw [show ((iN k) + (1 : Int32)) = (iN (k + 1)) from iN_add k 1]
   refine gG X2 hx (pc := 27) (pc' := 9) (D 18 rfl) ?_ (by decide) (by decide)
   show Gt T2 m 9 _ []
   exact ih (by omega) T2 _ X2 eh2 N2 hn4 hok (by omega) (fun i q => if e : i = k then e ▸ c3 else hb i (by omega))
 ·have c1N : ¬ k < n := fun q => c1 ((iN_lt (a := k) (b := n) (by omega) (by omega)).mpr q)
  refine gY X0 hx (pc := 11) (pc' := 30) (D 11 rfl) (flt c1).2.1 ?_ (by decide) (by decide)
  show Gt T0 m 30 _ []
  exact lpT2U Z a0 hw hx hby hlk hret hml hnm hown hZ aB kB n c_ k hh n0 Z0 Sd Sh Sl VB kont _ 0 rfl T0 _ X0 e0 N0 hn4 hok (by omega) (by omega) hb (Or.inl (by omega)) (by omega) (fun i q r => absurd q (by omega))
theorem lpT1U {p : Program} {l : Launch} {e : Env} {s : State} {m : MethodId} {args : Array Value} {below : List Frame} {meth : Method} {c : Code} {E : Outcome → State → Prop} (Z : State) (a0 : Array Value) (hw : HW a0 Z) (hx : p.tables.exec = Jvm.exec) (hby : c.code = jdk_52_method_61_code) (hlk : meth.locks = false) (hret : meth.sig.returnType = some (.object "java/lang/String")) (hml : c.maxLocals = 4) (hnm : meth.name = "trim") (hown : s.vm.findClass "java/lang/StringUTF16" = some m.cls) (hZ : Z.Warmed39 s.vm) (aB : Addr) (kB : ClassId) (n : Nat) (c_ : Nat → Int32) (hh : Heap) (n0 : Nat) (Z0 : n0 ≤ hh.size) (Sd : S_2 Z hh (.int 1)) (Sh : S_3 Z hh (.int 0)) (Sl : S_4 Z hh (.int 8)) (VB : Arv Z hh aB kB .byte (iN (2 * n)) (rg (2 * n) (ub c_)) (.int 0)) (kont : ∀ (s_ e_ : Nat), TB n c_ s_ e_ → ∀ (T1 : State) (L1 : List Loc), Stand p l e (rM 3 2 12 61) s m args below meth c T1 L1 0 0 → T1.heap = hh → Fr n0 L1 → Goes p e below E (T1.setTop (mkF m 53 #[rv aB, iv (iN n), iv (iN e_), iv (iN s_)] []))) : ∀ d_ k, n - k = d_ → IT1U p l e s m args below meth c E Z n0 hh aB kB n c_ k := by
 intro d_
 induction d_ with
 | zero =>
  intro k hd_ T0 locs0 X0 e0 N0 hn4 hok hk_ hb
  exact tnT1U Z a0 hw hx hby hlk hret hml hnm hown hZ aB kB n c_ k hh hh n0 T0 locs0 X0 e0 N0 Z0 Sd Sh Sl VB kont hn4 hok hk_ hb (fun q => absurd q (by omega))
 | succ d_ ih =>
  intro k hd_ T0 locs0 X0 e0 N0 hn4 hok hk_ hb
  exact tnT1U Z a0 hw hx hby hlk hret hml hnm hown hZ aB kB n c_ k hh hh n0 T0 locs0 X0 e0 N0 Z0 Sd Sh Sl VB kont hn4 hok hk_ hb (fun q => ih (k + 1) (by omega))
theorem rmTrU (hw : HW a0 Z) (aB : Addr) (kB : ClassId) (n : Nat) (c_ : Nat → Int32) (Z0 : n0 ≤ h0.size) (Sd : S_2 Z h0 (.int 1)) (Sh : S_3 Z h0 (.int 0)) (Sl : S_4 Z h0 (.int 8)) (VB : Arv Z h0 aB kB .byte (iN (2 * n)) (rg (2 * n) (ub c_)) (.int 0)) (hn4 : n ≤ 4) (hok : ∀ i, i < n → 0 ≤ (c_ i).toInt ∧ (c_ i).toInt < 65536) :
  QMg l Z mN35 jdk_52_method_61_code 4 (some (.object "java/lang/String")) ws (rM 3 2 12 61) #[(.ref aB)] h0 (QTrU Z aB kB n c_ h0 n0) := by
 refine bodyN (pfn pn2) (Ls := #[rv aB, .unset, .unset, .unset]) (fun _ => rfl) ?_
 intro p e s m below meth c s₁ hx hby hlk hret hml hown hnm hZ hh X0 e0
 have D := @db _ _ _ hby Dj52_61
 have K0 : Keep h0 h0 [] := Keep.refl _ _
 show Gt s₁ m 0 _ []
 refine aN X0 hx (D 0 rfl) ?_ rfl rfl
 refine qAL X0 hx hZ e0 VB (D 1 rfl) ?_
 refine giconst X0 hx (D 2 rfl) ?_
 show Gt s₁ m 3 _ [(.int 1), (.int (iN (2 * n)))]
 refine Goes.st (fun tg kg => XT.ishr X0.here hx rfl (D 3 rfl) rfl kg) ?_
 show Gt s₁ m 4 #[rv aB, .unset, .unset, .unset] [(.int ((iN (2 * n)) >>> ((1 : Int32) &&& 31)))]
 rw [show ((iN (2 * n)) >>> ((1 : Int32) &&& 31)) = (iN n) from iN_shr (a := n) (by omega)]
 refine gistoreN X0 hx (D 4 rfl) (l' := #[rv aB, iv (iN n), .unset, .unset]) rfl ?_
 refine jN X0 hx (D 5 rfl) ?_ rfl
 refine gistoreN X0 hx (D 6 rfl) (l' := #[rv aB, iv (iN n), iv (iN n), .unset]) rfl ?_
 refine giconst X0 hx (D 7 rfl) ?_
 refine gistoreN X0 hx (D 8 rfl) (l' := #[rv aB, iv (iN n), iv (iN n), iv 0]) rfl ?_
 show Gt s₁ m 9 _ []
 refine lpT1U Z a0 hw hx hby hlk hret hml hnm hown hZ aB kB n c_ h0 n0 Z0 Sd Sh Sl VB (fun s_ e_ hTB T2 L2 X2 e2 N2 => ?_) _ 0 rfl s₁ _ X0 e0 (Fr.nil n0) hn4 hok (by omega) (fun i q => absurd q (by omega))
 obtain ⟨hs1, hs2, hs3, hs4, hs5⟩ := id hTB
 show Gt T2 m 53 #[rv aB, iv (iN n), iv (iN e_), iv (iN s_)] []
 rcases Nat.lt_or_ge 0 s_ with cS | cS
 ·refine jN X2 hx (D 31 rfl) ?_ rfl
  refine gT X2 hx (pc := 54) (pc' := 62) (D 32 rfl) ((if0 _ _).trans (tlt (ylN 0 s_ (by omega) (by omega) (by omega))).2.2.1) ?_ (by decide) (by decide)
  obtain ⟨T3, h3, X3, e3, E3, A3, D3, -, st3⟩ := newO X2 hx hZ hown (hw 181 rfl) (hw 7 rfl) (hw 8 rfl) e2 (g := (mkF m 62 #[rv aB, iv (iN n), iv (iN e_), iv (iN s_)] [])) rfl (D 36 rfl) (by decide) (by decide)
  obtain ⟨b3, g3⟩ : ∃ z, z = h0.size := ⟨_, rfl⟩
  rw [← g3] at A3 D3 st3
  have lo_b3 := loB Z0 g3
  have sz_b3 := loB K0.1 g3
  refine Goes.st st3 ?_
  have KK4 := K0.ext E3
  have Z3 := lT Z0 E3.1
  have F3_value : F_0 Z h3 b3 .null := D3 (Or.inr (hw 21 rfl)) (ty := (.array .byte)) (by decide)
  have F3_coder : F_1 Z h3 b3 (.int 0) := D3 (Or.inr (hw 22 rfl)) (ty := .byte) (by decide)
  refine gdup X3 hx (D 37 rfl) rfl ?_
  refine aN X3 hx (D 38 rfl) ?_ rfl rfl
  refine jN X3 hx (D 39 rfl) ?_ rfl
  refine giconst X3 hx (D 40 rfl) ?_
  show Gt T3 m 69 #[rv aB, iv (iN n), iv (iN e_), iv (iN s_)] [(.int 1), (.int (iN s_)), (.ref aB), (.ref b3), (.ref b3)]
  refine Goes.st (fun tg kg => XT.ishl X3.here hx rfl (D 41 rfl) rfl kg) ?_
  show Gt T3 m 70 #[rv aB, iv (iN n), iv (iN e_), iv (iN s_)] [(.int ((iN s_) <<< ((1 : Int32) &&& 31))), (.ref aB), (.ref b3), (.ref b3)]
  rw [show ((iN s_) <<< ((1 : Int32) &&& 31)) = (iN (2 * s_)) from iN_shl (a := s_) (by omega)]
  refine jN X3 hx (D 42 rfl) ?_ rfl
  refine giconst X3 hx (D 43 rfl) ?_
  show Gt T3 m 72 _ [(.int 1), (.int (iN e_)), (.int (iN (2 * s_))), (.ref aB), (.ref b3), (.ref b3)]
  refine Goes.st (fun tg kg => XT.ishl X3.here hx rfl (D 44 rfl) rfl kg) ?_
  show Gt T3 m 73 #[rv aB, iv (iN n), iv (iN e_), iv (iN s_)] [(.int ((iN e_) <<< ((1 : Int32) &&& 31))), (.int (iN (2 * s_))), (.ref aB), (.ref b3), (.ref b3)]
  rw [show ((iN e_) <<< ((1 : Int32) &&& 31)) = (iN (2 * e_)) from iN_shl (a := e_) (by omega)]
  have f5 := (VB.ext E3)
  refine zS X3 hx hZ hown hw 182 183 185 184 (rmCr l hw aB kB (2 * n) (2 * s_) (2 * e_) (ub c_) Z3 f5 (by omega) (by omega) (by omega) (by omega)) e3 hml (D 45 rfl) pd15 (W := 2) (rest := [(.ref b3), (.ref b3)]) ?_ rfl rfl rfl rfl (by decide) (lq rfl) rfl rfl rfl
  rintro T6 L6 v6 X6 ⟨b6, kB6, rfl, N6q, K6, szq6, loq6, V6⟩
  have KK7 := KK4.trans K6 all0
  have sz_b6 := lT KK4.1 szq6
  have Z6 := lT Z3 K6.1
  have N6 := Fr.app N2 N6q
  refine giconst X6 hx (D 46 rfl) ?_
  have f8 := (A3.keep K6)
  have f9 := (F3_value.keep K6 nin0)
  have f10 := (F3_coder.keep K6 nin0)
  refine zC X6 hx hZ hown hw 200 201 202 8 (rmIb l hw b3 b6 kB6 true (e_ - s_) (fun i => c_ (s_ + i)) Z6 f8 lo_b3 f9 f10 (own_dbl2 V6) (by omega) (own_sub (by omega) hok)) rfl hml (D 47 rfl) pd16 (W := 1) (rest := [(.ref b3)]) ?_ rfl rfl rfl rfl (by decide) (lq rfl) rfl rfl rfl
  rintro T11 L11 v11 X11 ⟨rfl, N11q, K11, Sb11⟩
  have KK12 := KK7.trans K11 (allS (Or.inr sz_b3) all0)
  have Z11 := lT Z6 K11.1
  have N11 := Fr.app N6 N11q
  refine gG X11 hx (pc := 80) (pc' := 84) (D 48 rfl) ?_ (by decide) (by decide)
  refine rA X11 hx hret (D 50 rfl) hlk ?_ rfl rfl rfl (by decide) (by decide)
  exact ⟨_, s_, e_, rfl, N11, KK12, hTB, Or.inr ⟨b3, b6, kB6, true, rfl, Sb11⟩⟩
 ·rcases Nat.lt_or_ge e_ n with cE | cE
  ·refine jN X2 hx (D 31 rfl) ?_ rfl
   refine gifNo X2 hx (D 32 rfl) ((if0 _ _).trans (flt (nlN 0 s_ (by omega) (by omega) (by omega))).2.2.1) ?_
   refine jN X2 hx (D 33 rfl) ?_ rfl
   refine jN X2 hx (D 34 rfl) ?_ rfl
   refine gicmpNo X2 hx (D 35 rfl) (tlt (ylN e_ n (by omega) (by omega) (by omega))).2.1 ?_
   show Gt T2 m 62 _ []
   obtain ⟨T13, h13, X13, e13, E13, A13, D13, -, st13⟩ := newO X2 hx hZ hown (hw 181 rfl) (hw 7 rfl) (hw 8 rfl) e2 (g := (mkF m 62 #[rv aB, iv (iN n), iv (iN e_), iv (iN s_)] [])) rfl (D 36 rfl) (by decide) (by decide)
   obtain ⟨b13, g13⟩ : ∃ z, z = h0.size := ⟨_, rfl⟩
   rw [← g13] at A13 D13 st13
   have lo_b13 := loB Z0 g13
   have sz_b13 := loB K0.1 g13
   refine Goes.st st13 ?_
   have KK14 := K0.ext E13
   have Z13 := lT Z0 E13.1
   have F13_value : F_0 Z h13 b13 .null := D13 (Or.inr (hw 21 rfl)) (ty := (.array .byte)) (by decide)
   have F13_coder : F_1 Z h13 b13 (.int 0) := D13 (Or.inr (hw 22 rfl)) (ty := .byte) (by decide)
   refine gdup X13 hx (D 37 rfl) rfl ?_
   refine aN X13 hx (D 38 rfl) ?_ rfl rfl
   refine jN X13 hx (D 39 rfl) ?_ rfl
   refine giconst X13 hx (D 40 rfl) ?_
   show Gt T13 m 69 #[rv aB, iv (iN n), iv (iN e_), iv (iN s_)] [(.int 1), (.int (iN s_)), (.ref aB), (.ref b13), (.ref b13)]
   refine Goes.st (fun tg kg => XT.ishl X13.here hx rfl (D 41 rfl) rfl kg) ?_
   show Gt T13 m 70 #[rv aB, iv (iN n), iv (iN e_), iv (iN s_)] [(.int ((iN s_) <<< ((1 : Int32) &&& 31))), (.ref aB), (.ref b13), (.ref b13)]
   rw [show ((iN s_) <<< ((1 : Int32) &&& 31)) = (iN (2 * s_)) from iN_shl (a := s_) (by omega)]
   refine jN X13 hx (D 42 rfl) ?_ rfl
   refine giconst X13 hx (D 43 rfl) ?_
   show Gt T13 m 72 _ [(.int 1), (.int (iN e_)), (.int (iN (2 * s_))), (.ref aB), (.ref b13), (.ref b13)]
   refine Goes.st (fun tg kg => XT.ishl X13.here hx rfl (D 44 rfl) rfl kg) ?_
   show Gt T13 m 73 #[rv aB, iv (iN n), iv (iN e_), iv (iN s_)] [(.int ((iN e_) <<< ((1 : Int32) &&& 31))), (.int (iN (2 * s_))), (.ref aB), (.ref b13), (.ref b13)]
   rw [show ((iN e_) <<< ((1 : Int32) &&& 31)) = (iN (2 * e_)) from iN_shl (a := e_) (by omega)]
   have f15 := (VB.ext E13)
   refine zS X13 hx hZ hown hw 182 183 185 184 (rmCr l hw aB kB (2 * n) (2 * s_) (2 * e_) (ub c_) Z13 f15 (by omega) (by omega) (by omega) (by omega)) e13 hml (D 45 rfl) pd15 (W := 2) (rest := [(.ref b13), (.ref b13)]) ?_ rfl rfl rfl rfl (by decide) (lq rfl) rfl rfl rfl
   rintro T16 L16 v16 X16 ⟨b16, kB16, rfl, N16q, K16, szq16, loq16, V16⟩
   have KK17 := KK14.trans K16 all0
   have sz_b16 := lT KK14.1 szq16
   have Z16 := lT Z13 K16.1
   have N16 := Fr.app N2 N16q
   refine giconst X16 hx (D 46 rfl) ?_
   have f18 := (A13.keep K16)
   have f19 := (F13_value.keep K16 nin0)
   have f20 := (F13_coder.keep K16 nin0)
   refine zC X16 hx hZ hown hw 200 201 202 8 (rmIb l hw b13 b16 kB16 true (e_ - s_) (fun i => c_ (s_ + i)) Z16 f18 lo_b13 f19 f20 (own_dbl2 V16) (by omega) (own_sub (by omega) hok)) rfl hml (D 47 rfl) pd16 (W := 1) (rest := [(.ref b13)]) ?_ rfl rfl rfl rfl (by decide) (lq rfl) rfl rfl rfl
   rintro T21 L21 v21 X21 ⟨rfl, N21q, K21, Sb21⟩
   have KK22 := KK17.trans K21 (allS (Or.inr sz_b13) all0)
   have Z21 := lT Z16 K21.1
   have N21 := Fr.app N16 N21q
   refine gG X21 hx (pc := 80) (pc' := 84) (D 48 rfl) ?_ (by decide) (by decide)
   refine rA X21 hx hret (D 50 rfl) hlk ?_ rfl rfl rfl (by decide) (by decide)
   exact ⟨_, s_, e_, rfl, N21, KK22, hTB, Or.inr ⟨b13, b16, kB16, true, rfl, Sb21⟩⟩
  ·refine jN X2 hx (D 31 rfl) ?_ rfl
   refine gifNo X2 hx (D 32 rfl) ((if0 _ _).trans (flt (nlN 0 s_ (by omega) (by omega) (by omega))).2.2.1) ?_
   refine jN X2 hx (D 33 rfl) ?_ rfl
   refine jN X2 hx (D 34 rfl) ?_ rfl
   refine gY X2 hx (pc := 59) (pc' := 83) (D 35 rfl) (flt (nlN e_ n (by omega) (by omega) (by omega))).2.1 ?_ (by decide) (by decide)
   show Gt T2 m 83 _ []
   refine gaconstNull X2 hx (D 49 rfl) ?_
   refine rA X2 hx hret (D 50 rfl) hlk ?_ rfl rfl rfl (by decide) (by decide)
   rw [e2]
   exact ⟨_, s_, e_, rfl, N2, K0, hTB, Or.inl ⟨rfl, by omega, by omega⟩⟩
theorem Dj43_36 : ∀ q ∈ ([(0, .aload_n 0, 1), (1, .arraylength, 1), (2, .istore_n 1, 1), (3, .iconst 0, 1), (4, .istore_n 2, 1), (5, .iload_n 2, 1), (6, .iload_n 1, 1), (7, .if_icmp .ge 21, 3), (10, .aload_n 0, 1), (11, .iload_n 2, 1), (12, .baload, 1), (13, .sipush 255, 3), (16, .iand, 1), (17, .bipush 32, 2), (19, .if_icmp .gt 9, 3), (22, .iinc 2 1, 3), (25, .goto (-20), 3), (28, .iload_n 2, 1), (29, .iload_n 1, 1), (30, .if_icmp .ge 23, 3), (33, .aload_n 0, 1), (34, .iload_n 1, 1), (35, .iconst 1, 1), (36, .isub, 1), (37, .baload, 1), (38, .sipush 255, 3), (41, .iand, 1), (42, .bipush 32, 2), (44, .if_icmp .gt 9, 3), (47, .iinc 1 (-1), 3), (50, .goto (-22), 3), (53, .iload_n 2, 1), (54, .ifCond .gt 9, 3), (57, .iload_n 1, 1), (58, .aload_n 0, 1), (59, .arraylength, 1), (60, .if_icmp .ge 14, 3), (63, .aload_n 0, 1), (64, .iload_n 2, 1), (65, .iload_n 1, 1), (66, .iload_n 2, 1), (67, .isub, 1), (68, .invokestatic 210, 3), (71, .goto 4, 3), (74, .aconst_null, 1), (75, .areturn, 1)] : List (Nat × Instr × Nat)), decode jdk_43_method_36_code q.1 = .ok (q.2.1, q.2.2) := by decide +kernel
def QTrL (Z : State) (aB : Addr) (kB : ClassId) (n : Nat) (c_ : Nat → Int32) (h0 : Heap) (n0 : Nat) (v : Option Value) (h : Heap) (L : List Loc) : Prop := ∃ (x : Value) (s_ e_ : Nat), v = some x ∧ Fr n0 L ∧ Keep h0 h [] ∧ TB n c_ s_ e_ ∧ ((x = .null ∧ s_ = 0 ∧ e_ = n) ∨ ∃ (r bb : Addr) (kC : ClassId) (u : Bool), x = .ref r ∧ Sb Z h r bb kC u (e_ - s_) (fun i => c_ (s_ + i)))
def IT1L (p : Program) (l : Launch) (e : Env) (s : State) (m : MethodId) (args : Array Value) (below : List Frame) (meth : Method) (c : Code) (E : Outcome → State → Prop) (Z : State) (n0 : Nat) (hh : Heap) (aB : Addr) (kB : ClassId) (n : Nat) (c_ : Nat → Int32) (k : Nat) : Prop := ∀ (T0 : State) (locs0 : List Loc), Stand p l e (rM 4 2 12 75) s m args below meth c T0 locs0 0 0 → T0.heap = hh → Fr n0 locs0 → (n ≤ 4) → (∀ i, i < n → 0 ≤ (c_ i).toInt ∧ (c_ i).toInt < 256) → (k ≤ n) → (∀ i, i < k → ¬ (32 : Int32) < c_ i) → Goes p e below E (T0.setTop (mkF m 5 #[rv aB, iv (iN n), iv (iN k)] []))
def IT2L (p : Program) (l : Launch) (e : Env) (s : State) (m : MethodId) (args : Array Value) (below : List Frame) (meth : Method) (c : Code) (E : Outcome → State → Prop) (Z : State) (n0 : Nat) (hh : Heap) (aB : Addr) (kB : ClassId) (n : Nat) (c_ : Nat → Int32) (s_ : Nat) (j : Nat) : Prop := ∀ (T0 : State) (locs0 : List Loc), Stand p l e (rM 4 2 12 75) s m args below meth c T0 locs0 0 0 → T0.heap = hh → Fr n0 locs0 → (n ≤ 4) → (∀ i, i < n → 0 ≤ (c_ i).toInt ∧ (c_ i).toInt < 256) → (j ≤ n - s_) → (s_ ≤ n) → (∀ i, i < s_ → ¬ (32 : Int32) < c_ i) → (s_ = n ∨ (32 : Int32) < c_ s_) → (s_ < n → s_ < n - j) → (∀ i, n - j ≤ i → i < n → ¬ (32 : Int32) < c_ i) → Goes p e below E (T0.setTop (mkF m 28 #[rv aB, iv (iN (n - j)), iv (iN s_)] []))
theorem tnT2L {p : Program} {l : Launch} {e : Env} {s : State} {m : MethodId} {args : Array Value} {below : List Frame} {meth : Method} {c : Code} {E : Outcome → State → Prop} (Z : State) (a0 : Array Value) (hw : HW a0 Z) (hx : p.tables.exec = Jvm.exec) (hby : c.code = jdk_43_method_36_code) (hlk : meth.locks = false) (hret : meth.sig.returnType = some (.object "java/lang/String")) (hml : c.maxLocals = 3) (hnm : meth.name = "trim") (hown : s.vm.findClass "java/lang/StringLatin1" = some m.cls) (hZ : Z.Warmed39 s.vm) (aB : Addr) (kB : ClassId) (n : Nat) (c_ : Nat → Int32) (s_ : Nat) (j : Nat) (h0 hh : Heap) (n0 : Nat) (T0 : State) (locs0 : List Loc) (X0 : Stand p l e (rM 4 2 12 75) s m args below meth c T0 locs0 0 0) (e0 : T0.heap = hh) (N0 : Fr n0 locs0) (Z0 : n0 ≤ hh.size) (VB : Arv Z hh aB kB .byte (iN n) (rg n (fun i => .int (bch (c_ i)))) (.int 0)) (kont : ∀ (s_ e_ : Nat), TB n c_ s_ e_ → ∀ (T1 : State) (L1 : List Loc), Stand p l e (rM 4 2 12 75) s m args below meth c T1 L1 0 0 → T1.heap = hh → Fr n0 L1 → Goes p e below E (T1.setTop (mkF m 53 #[rv aB, iv (iN e_), iv (iN s_)] []))) (hn4 : n ≤ 4) (hok : ∀ i, i < n → 0 ≤ (c_ i).toInt ∧ (c_ i).toInt < 256) (hj : j ≤ n - s_) (hsn : s_ ≤ n) (hb : ∀ i, i < s_ → ¬ (32 : Int32) < c_ i) (hx_ : s_ = n ∨ (32 : Int32) < c_ s_) (hs1 : s_ < n → s_ < n - j) (ht : ∀ i, n - j ≤ i → i < n → ¬ (32 : Int32) < c_ i) (ih : j < (n - s_) → IT2L p l e s m args below meth c E Z n0 hh aB kB n c_ s_ (j + 1)) :
  Goes p e below E (T0.setTop (mkF m 28 #[rv aB, iv (iN (n - j)), iv (iN s_)] [])) := by
 have D := @db _ _ _ hby Dj43_36
 show Gt T0 m 28 _ []
 refine jN X0 hx (D 17 rfl) ?_ rfl
 refine jN X0 hx (D 18 rfl) ?_ rfl
 by_cases c1 : (iN s_) < (iN (n - j))
 ·have c1N := (iN_lt (a := s_) (b := n - j) (by omega) (by omega)).mp c1
  refine gicmpNo X0 hx (D 19 rfl) (tlt c1).2.1 ?_
  refine aN X0 hx (D 20 rfl) ?_ rfl rfl
  refine jN X0 hx (D 21 rfl) ?_ rfl
  refine giconst X0 hx (D 22 rfl) ?_
  refine gisub X0 hx (D 23 rfl) ?_
  show Gt T0 m 37 _ [(.int ((iN (n - j)) - (1 : Int32))), (.ref aB)]
  rw [show ((iN (n - j)) - (1 : Int32)) = (iN (n - j - 1)) from ((iN_sub (a := n - j) (b := 1) (by omega)).trans (congrArg iN (by omega)))]
  refine qBa X0 hx hZ e0 VB ⟨nnN (n - j - 1) (by omega), ylN (n - j - 1) n (by omega) (by omega) (by omega)⟩ (v := (.int (bch (c_ (n - j - 1))))) (by rw [iN_nat (a := n - j - 1) (by omega)]; exact rg_get _ _ (by omega)) (D 24 rfl) ?_
  refine gsipush X0 hx (D 25 rfl) ?_
  refine giand X0 hx (D 26 rfl) ?_
  show Gt T0 m 42 _ [(.int ((bch (c_ (n - j - 1))) &&& (255 : Int32)))]
  rw [show ((bch (c_ (n - j - 1))) &&& (255 : Int32)) = (c_ (n - j - 1)) from (own_lat (hok _ (by omega))).2]
  refine gbipush X0 hx (D 27 rfl) ?_
  by_cases c3 : (32 : Int32) < (c_ (n - j - 1))
  ·refine gY X0 hx (pc := 44) (pc' := 53) (D 28 rfl) (tlt c3).2.2.1 ?_ (by decide) (by decide)
   show Gt T0 m 53 _ []
   exact kont s_ (n - j) ⟨by omega, by omega, hb, ht, Or.inr ⟨by omega, hx_.elim (fun q => absurd q (by omega)) id, c3⟩⟩ T0 _ X0 e0 N0
  ·refine gicmpNo X0 hx (D 28 rfl) (flt c3).2.2.1 ?_
   refine giinc X0 hx (D 29 rfl) rfl (l' := #[rv aB, iv ((iN (n - j)) + (-1 : Int32)), iv (iN s_)]) rfl ?_
   show Gt T0 m 50 _ []
   rw [show ((iN (n - j)) + (-1 : Int32)) = (iN (n - j - 1)) from iN_dec (a := n - j) (by omega)]
   refine gG X0 hx (pc := 50) (pc' := 28) (D 30 rfl) ?_ (by decide) (by decide)
   show Gt T0 m 28 _ []
   exact ih (by omega) T0 _ X0 e0 N0 hn4 hok (by omega) (by omega) hb hx_ (fun q => hx_.elim (fun r => by omega) (fun r => by have := own_sg r c3; omega)) (fun i q r => if e : i = n - j - 1 then e ▸ c3 else ht i (by omega) r)
 ·have c1N : ¬ s_ < (n - j) := fun q => c1 ((iN_lt (a := s_) (b := n - j) (by omega) (by omega)).mpr q)
  refine gY X0 hx (pc := 30) (pc' := 53) (D 19 rfl) (flt c1).2.1 ?_ (by decide) (by decide)
  show Gt T0 m 53 _ []
  exact kont s_ (n - j) ⟨by omega, by omega, hb, ht, Or.inl (by omega)⟩ T0 _ X0 e0 N0
theorem lpT2L {p : Program} {l : Launch} {e : Env} {s : State} {m : MethodId} {args : Array Value} {below : List Frame} {meth : Method} {c : Code} {E : Outcome → State → Prop} (Z : State) (a0 : Array Value) (hw : HW a0 Z) (hx : p.tables.exec = Jvm.exec) (hby : c.code = jdk_43_method_36_code) (hlk : meth.locks = false) (hret : meth.sig.returnType = some (.object "java/lang/String")) (hml : c.maxLocals = 3) (hnm : meth.name = "trim") (hown : s.vm.findClass "java/lang/StringLatin1" = some m.cls) (hZ : Z.Warmed39 s.vm) (aB : Addr) (kB : ClassId) (n : Nat) (c_ : Nat → Int32) (s_ : Nat) (hh : Heap) (n0 : Nat) (Z0 : n0 ≤ hh.size) (VB : Arv Z hh aB kB .byte (iN n) (rg n (fun i => .int (bch (c_ i)))) (.int 0)) (kont : ∀ (s_ e_ : Nat), TB n c_ s_ e_ → ∀ (T1 : State) (L1 : List Loc), Stand p l e (rM 4 2 12 75) s m args below meth c T1 L1 0 0 → T1.heap = hh → Fr n0 L1 → Goes p e below E (T1.setTop (mkF m 53 #[rv aB, iv (iN e_), iv (iN s_)] []))) : ∀ d_ j, (n - s_) - j = d_ → IT2L p l e s m args below meth c E Z n0 hh aB kB n c_ s_ j := by
 intro d_
 induction d_ with
 | zero =>
  intro j hd_ T0 locs0 X0 e0 N0 hn4 hok hj hsn hb hx_ hs1 ht
  exact tnT2L Z a0 hw hx hby hlk hret hml hnm hown hZ aB kB n c_ s_ j hh hh n0 T0 locs0 X0 e0 N0 Z0 VB kont hn4 hok hj hsn hb hx_ hs1 ht (fun q => absurd q (by omega))
 | succ d_ ih =>
  intro j hd_ T0 locs0 X0 e0 N0 hn4 hok hj hsn hb hx_ hs1 ht
  exact tnT2L Z a0 hw hx hby hlk hret hml hnm hown hZ aB kB n c_ s_ j hh hh n0 T0 locs0 X0 e0 N0 Z0 VB kont hn4 hok hj hsn hb hx_ hs1 ht (fun q => ih (j + 1) (by omega))
theorem tnT1L {p : Program} {l : Launch} {e : Env} {s : State} {m : MethodId} {args : Array Value} {below : List Frame} {meth : Method} {c : Code} {E : Outcome → State → Prop} (Z : State) (a0 : Array Value) (hw : HW a0 Z) (hx : p.tables.exec = Jvm.exec) (hby : c.code = jdk_43_method_36_code) (hlk : meth.locks = false) (hret : meth.sig.returnType = some (.object "java/lang/String")) (hml : c.maxLocals = 3) (hnm : meth.name = "trim") (hown : s.vm.findClass "java/lang/StringLatin1" = some m.cls) (hZ : Z.Warmed39 s.vm) (aB : Addr) (kB : ClassId) (n : Nat) (c_ : Nat → Int32) (k : Nat) (h0 hh : Heap) (n0 : Nat) (T0 : State) (locs0 : List Loc) (X0 : Stand p l e (rM 4 2 12 75) s m args below meth c T0 locs0 0 0) (e0 : T0.heap = hh) (N0 : Fr n0 locs0) (Z0 : n0 ≤ hh.size) (VB : Arv Z hh aB kB .byte (iN n) (rg n (fun i => .int (bch (c_ i)))) (.int 0)) (kont : ∀ (s_ e_ : Nat), TB n c_ s_ e_ → ∀ (T1 : State) (L1 : List Loc), Stand p l e (rM 4 2 12 75) s m args below meth c T1 L1 0 0 → T1.heap = hh → Fr n0 L1 → Goes p e below E (T1.setTop (mkF m 53 #[rv aB, iv (iN e_), iv (iN s_)] []))) (hn4 : n ≤ 4) (hok : ∀ i, i < n → 0 ≤ (c_ i).toInt ∧ (c_ i).toInt < 256) (hk_ : k ≤ n) (hb : ∀ i, i < k → ¬ (32 : Int32) < c_ i) (ih : k < n → IT1L p l e s m args below meth c E Z n0 hh aB kB n c_ (k + 1)) :
  Goes p e below E (T0.setTop (mkF m 5 #[rv aB, iv (iN n), iv (iN k)] [])) := by
 have D := @db _ _ _ hby Dj43_36
 show Gt T0 m 5 _ []
 refine jN X0 hx (D 5 rfl) ?_ rfl
 refine jN X0 hx (D 6 rfl) ?_ rfl
 by_cases c1 : (iN k) < (iN n)
 ·have c1N := (iN_lt (a := k) (b := n) (by omega) (by omega)).mp c1
  refine gicmpNo X0 hx (D 7 rfl) (tlt c1).2.1 ?_
  refine aN X0 hx (D 8 rfl) ?_ rfl rfl
  refine jN X0 hx (D 9 rfl) ?_ rfl
  refine qBa X0 hx hZ e0 VB ⟨nnN k (by omega), ylN k n (by omega) (by omega) (by omega)⟩ (v := (.int (bch (c_ k)))) (by rw [iN_nat (a := k) (by omega)]; exact rg_get _ _ (by omega)) (D 10 rfl) ?_
  refine gsipush X0 hx (D 11 rfl) ?_
  refine giand X0 hx (D 12 rfl) ?_
  show Gt T0 m 17 _ [(.int ((bch (c_ k)) &&& (255 : Int32)))]
  rw [show ((bch (c_ k)) &&& (255 : Int32)) = (c_ k) from (own_lat (hok _ (by omega))).2]
  refine gbipush X0 hx (D 13 rfl) ?_
  by_cases c3 : (32 : Int32) < (c_ k)
  ·refine gY X0 hx (pc := 19) (pc' := 28) (D 14 rfl) (tlt c3).2.2.1 ?_ (by decide) (by decide)
   show Gt T0 m 28 _ []
   exact lpT2L Z a0 hw hx hby hlk hret hml hnm hown hZ aB kB n c_ k hh n0 Z0 VB kont _ 0 rfl T0 _ X0 e0 N0 hn4 hok (by omega) (by omega) hb (Or.inr c3) (by omega) (fun i q r => absurd q (by omega))
  ·refine gicmpNo X0 hx (D 14 rfl) (flt c3).2.2.1 ?_
   refine giinc X0 hx (D 15 rfl) rfl (l' := #[rv aB, iv (iN n), iv ((iN k) + (1 : Int32))]) rfl ?_
   show Gt T0 m 25 _ []
   rw [show ((iN k) + (1 : Int32)) = (iN (k + 1)) from iN_add k 1]
   refine gG X0 hx (pc := 25) (pc' := 5) (D 16 rfl) ?_ (by decide) (by decide)
   show Gt T0 m 5 _ []
   exact ih (by omega) T0 _ X0 e0 N0 hn4 hok (by omega) (fun i q => if e : i = k then e ▸ c3 else hb i (by omega))
 ·have c1N : ¬ k < n := fun q => c1 ((iN_lt (a := k) (b := n) (by omega) (by omega)).mpr q)
  refine gY X0 hx (pc := 7) (pc' := 28) (D 7 rfl) (flt c1).2.1 ?_ (by decide) (by decide)
  show Gt T0 m 28 _ []
  exact lpT2L Z a0 hw hx hby hlk hret hml hnm hown hZ aB kB n c_ k hh n0 Z0 VB kont _ 0 rfl T0 _ X0 e0 N0 hn4 hok (by omega) (by omega) hb (Or.inl (by omega)) (by omega) (fun i q r => absurd q (by omega))
theorem lpT1L {p : Program} {l : Launch} {e : Env} {s : State} {m : MethodId} {args : Array Value} {below : List Frame} {meth : Method} {c : Code} {E : Outcome → State → Prop} (Z : State) (a0 : Array Value) (hw : HW a0 Z) (hx : p.tables.exec = Jvm.exec) (hby : c.code = jdk_43_method_36_code) (hlk : meth.locks = false) (hret : meth.sig.returnType = some (.object "java/lang/String")) (hml : c.maxLocals = 3) (hnm : meth.name = "trim") (hown : s.vm.findClass "java/lang/StringLatin1" = some m.cls) (hZ : Z.Warmed39 s.vm) (aB : Addr) (kB : ClassId) (n : Nat) (c_ : Nat → Int32) (hh : Heap) (n0 : Nat) (Z0 : n0 ≤ hh.size) (VB : Arv Z hh aB kB .byte (iN n) (rg n (fun i => .int (bch (c_ i)))) (.int 0)) (kont : ∀ (s_ e_ : Nat), TB n c_ s_ e_ → ∀ (T1 : State) (L1 : List Loc), Stand p l e (rM 4 2 12 75) s m args below meth c T1 L1 0 0 → T1.heap = hh → Fr n0 L1 → Goes p e below E (T1.setTop (mkF m 53 #[rv aB, iv (iN e_), iv (iN s_)] []))) : ∀ d_ k, n - k = d_ → IT1L p l e s m args below meth c E Z n0 hh aB kB n c_ k := by
 intro d_
 induction d_ with
 | zero =>
  intro k hd_ T0 locs0 X0 e0 N0 hn4 hok hk_ hb
  exact tnT1L Z a0 hw hx hby hlk hret hml hnm hown hZ aB kB n c_ k hh hh n0 T0 locs0 X0 e0 N0 Z0 VB kont hn4 hok hk_ hb (fun q => absurd q (by omega))
 | succ d_ ih =>
  intro k hd_ T0 locs0 X0 e0 N0 hn4 hok hk_ hb
  exact tnT1L Z a0 hw hx hby hlk hret hml hnm hown hZ aB kB n c_ k hh hh n0 T0 locs0 X0 e0 N0 Z0 VB kont hn4 hok hk_ hb (fun q => ih (k + 1) (by omega))
theorem rmTrL (hw : HW a0 Z) (aB : Addr) (kB : ClassId) (n : Nat) (c_ : Nat → Int32) (Z0 : n0 ≤ h0.size) (VB : Arv Z h0 aB kB .byte (iN n) (rg n (fun i => .int (bch (c_ i)))) (.int 0)) (hn4 : n ≤ 4) (hok : ∀ i, i < n → 0 ≤ (c_ i).toInt ∧ (c_ i).toInt < 256) :
  QMh l Z ELs mN36 jdk_43_method_36_code 3 (some (.object "java/lang/String")) ws (rM 4 2 12 75) #[(.ref aB)] h0 (QTrL Z aB kB n c_ h0 n0) := by
 refine bodyH (pfn pn3) (Ls := #[rv aB, .unset, .unset]) (fun _ => rfl) ?_
 intro p e s m below meth c s₁ hx hby hlk hret hml hown hnm hZ hh hR X0 e0 hS
 have hk : 0 ≤ h0.size := Nat.zero_le _
 have D := @db _ _ _ hby Dj43_36
 have K0 : Keep h0 h0 [] := Keep.refl _ _
 show Gt s₁ m 0 _ []
 refine aN X0 hx (D 0 rfl) ?_ rfl rfl
 refine qAL X0 hx hZ e0 VB (D 1 rfl) ?_
 refine gistoreN X0 hx (D 2 rfl) (l' := #[rv aB, iv (iN n), .unset]) rfl ?_
 refine giconst X0 hx (D 3 rfl) ?_
 refine gistoreN X0 hx (D 4 rfl) (l' := #[rv aB, iv (iN n), iv 0]) rfl ?_
 show Gt s₁ m 5 _ []
 refine lpT1L Z a0 hw hx hby hlk hret hml hnm hown hZ aB kB n c_ h0 n0 Z0 VB (fun s_ e_ hTB T2 L2 X2 e2 N2 => ?_) _ 0 rfl s₁ _ X0 e0 (Fr.nil n0) hn4 hok (by omega) (fun i q => absurd q (by omega))
 obtain ⟨hs1, hs2, hs3, hs4, hs5⟩ := id hTB
 show Gt T2 m 53 #[rv aB, iv (iN e_), iv (iN s_)] []
 rcases Nat.lt_or_ge 0 s_ with cS | cS
 ·refine jN X2 hx (D 31 rfl) ?_ rfl
  refine gT X2 hx (pc := 54) (pc' := 63) (D 32 rfl) ((if0 _ _).trans (tlt (ylN 0 s_ (by omega) (by omega) (by omega))).2.2.1) ?_ (by decide) (by decide)
  refine aN X2 hx (D 37 rfl) ?_ rfl rfl
  refine jN X2 hx (D 38 rfl) ?_ rfl
  refine jN X2 hx (D 39 rfl) ?_ rfl
  refine jN X2 hx (D 40 rfl) ?_ rfl
  refine gisub X2 hx (D 41 rfl) ?_
  show Gt T2 m 68 _ [(.int ((iN e_) - (iN s_))), (.int (iN s_)), (.ref aB)]
  rw [show ((iN e_) - (iN s_)) = (iN (e_ - s_)) from iN_sub (a := e_) (b := s_) (by omega)]
  rcases Nat.decEq e_ s_ with cDN | cDE
  ·refine zS X2 hx hZ hown hw 372 341 342 337 (rmNsL l hw aB kB n c_ s_ (e_ - s_) Z0 VB (by omega) hok (by omega) (by omega) (by omega)) e2 hml (D 42 rfl) pd22 (W := 0) (rest := []) ?_ rfl rfl rfl rfl (by decide) (lq rfl) rfl rfl rfl
   rintro T3 L3 v3 X3 ⟨r3, bb3, kB3, u3, rfl, N3q, K3, Sb3⟩
   have hk := lT hk K3.1
   have hR := hR.trans (CHr.keep K3 sf0 hR.1)
   have KK4 := K0.trans K3 all0
   have Z3 := lT Z0 K3.1
   have N3 := Fr.app N2 N3q
   refine gG X3 hx (pc := 71) (pc' := 75) (D 43 rfl) ?_ (by decide) (by decide)
   refine Goes.retA X3 hx hret rfl rfl rfl (D 45 rfl) (lvH X3 hlk hS hk hZ (hELs hw) rfl (by rw [hh]; exact hR) (vsome hret) ?_ (by decide) (by decide))
   exact ⟨_, s_, e_, rfl, N3, KK4, hTB, Or.inr ⟨r3, bb3, kB3, u3, rfl, Sb3⟩⟩
  ·rw [show (iN (e_ - s_)) = (0 : Int32) from by rw [show e_ - s_ = 0 by omega]; rfl]
   show Gt T2 m 68 _ [(.int 0), (.int (iN s_)), (.ref aB)]
   obtain ⟨_, _, ⟨T5, L5, k5, n5⟩, -, X5, hS5, hg5, ⟨Lc5, hQ5, l5, y5, z5, hCr5⟩, st5⟩ := callSS X2 hx (y := mN27) hown (mvT hZ (hw 372 rfl)) (mvT hZ (hw 341 rfl)) (mvT hZ (hw 337 rfl)) (mvT hZ (hw 342 rfl)) (by decide) (backOfSH (W := 0) (rmNsL0 l hw aB s_ Z0 ) hZ (hw 342 rfl) (hw 337 rfl) (by decide) (by decide) (hELs hw) hR.1) (g := (mkF m 68 #[rv aB, iv (iN e_), iv (iN s_)] [(.int 0), (.int (iN s_)), (.ref aB)])) rfl hml.symm (argsL := [(.ref aB), (.int (iN s_)), (.int 0)]) (rest := []) (lenOf pd22 rfl) rfl (by show 2 * 0 + _ ≤ _; exact Nat.le_of_eq rfl) (D 42 rfl) (fun _ _ => ⟨rfl, e2, (by decide : 0 + 2 ≤ 2), (by decide : 0 + 4 ≤ 12)⟩)
   dsimp only [Pt.U, Pt.locs, Pt.cells, Pt.slots] at X5 l5 y5 z5 st5 hQ5 hS5 hg5 hCr5
   subst l5 y5 z5
   obtain ⟨X5, hS, hZ, hown⟩ := rebS hS (by rw [e2]; exact hk) X5 hS5 hg5 hZ hown
   have hk := Nat.le_refl T5.heap.size
   have hR := hR.trans hCr5
   obtain ⟨r5, bb5, kB5, u5, rfl, N5q, K5, Sb5⟩ := hQ5
   have KK6 := K0.trans K5 all0
   have Z5 := lT Z0 K5.1
   have Sb5 := Sb5.cast (n' := (e_ - s_)) (c' := (fun i => c_ (s_ + i))) (by omega) (fun i hi => absurd hi (by omega))
   have N5 := Fr.app N2 N5q
   refine Goes.sts st5 ?_
   refine gG X5 hx (pc := 71) (pc' := 75) (D 43 rfl) ?_ (by decide) (by decide)
   refine Goes.retA X5 hx hret rfl rfl rfl (D 45 rfl) (lvH X5 hlk hS hk hZ (hELs hw) rfl (by rw [hh]; exact hR) (vsome hret) ?_ (by decide) (by decide))
   exact ⟨_, s_, e_, rfl, N5, KK6, hTB, Or.inr ⟨r5, bb5, kB5, u5, rfl, Sb5⟩⟩
 ·rcases Nat.lt_or_ge e_ n with cE | cE
  ·refine jN X2 hx (D 31 rfl) ?_ rfl
   refine gifNo X2 hx (D 32 rfl) ((if0 _ _).trans (flt (nlN 0 s_ (by omega) (by omega) (by omega))).2.2.1) ?_
   refine jN X2 hx (D 33 rfl) ?_ rfl
   refine aN X2 hx (D 34 rfl) ?_ rfl rfl
   refine qAL X2 hx hZ e2 VB (D 35 rfl) ?_
   refine gicmpNo X2 hx (D 36 rfl) (tlt (ylN e_ n (by omega) (by omega) (by omega))).2.1 ?_
   refine aN X2 hx (D 37 rfl) ?_ rfl rfl
   show Gt T2 m 64 _ [(.ref aB)]
   refine jN X2 hx (D 38 rfl) ?_ rfl
   refine jN X2 hx (D 39 rfl) ?_ rfl
   refine jN X2 hx (D 40 rfl) ?_ rfl
   refine gisub X2 hx (D 41 rfl) ?_
   show Gt T2 m 68 _ [(.int ((iN e_) - (iN s_))), (.int (iN s_)), (.ref aB)]
   rw [show ((iN e_) - (iN s_)) = (iN (e_ - s_)) from iN_sub (a := e_) (b := s_) (by omega)]
   rcases Nat.decEq e_ s_ with cDN | cDE
   ·refine zS X2 hx hZ hown hw 372 341 342 337 (rmNsL l hw aB kB n c_ s_ (e_ - s_) Z0 VB (by omega) hok (by omega) (by omega) (by omega)) e2 hml (D 42 rfl) pd22 (W := 0) (rest := []) ?_ rfl rfl rfl rfl (by decide) (lq rfl) rfl rfl rfl
    rintro T8 L8 v8 X8 ⟨r8, bb8, kB8, u8, rfl, N8q, K8, Sb8⟩
    have hk := lT hk K8.1
    have hR := hR.trans (CHr.keep K8 sf0 hR.1)
    have KK9 := K0.trans K8 all0
    have Z8 := lT Z0 K8.1
    have N8 := Fr.app N2 N8q
    refine gG X8 hx (pc := 71) (pc' := 75) (D 43 rfl) ?_ (by decide) (by decide)
    refine Goes.retA X8 hx hret rfl rfl rfl (D 45 rfl) (lvH X8 hlk hS hk hZ (hELs hw) rfl (by rw [hh]; exact hR) (vsome hret) ?_ (by decide) (by decide))
    exact ⟨_, s_, e_, rfl, N8, KK9, hTB, Or.inr ⟨r8, bb8, kB8, u8, rfl, Sb8⟩⟩
   ·rw [show (iN (e_ - s_)) = (0 : Int32) from by rw [show e_ - s_ = 0 by omega]; rfl]
    show Gt T2 m 68 _ [(.int 0), (.int (iN s_)), (.ref aB)]
    obtain ⟨_, _, ⟨T10, L10, k10, n10⟩, -, X10, hS10, hg10, ⟨Lc10, hQ10, l10, y10, z10, hCr10⟩, st10⟩ := callSS X2 hx (y := mN27) hown (mvT hZ (hw 372 rfl)) (mvT hZ (hw 341 rfl)) (mvT hZ (hw 337 rfl)) (mvT hZ (hw 342 rfl)) (by decide) (backOfSH (W := 0) (rmNsL0 l hw aB s_ Z0 ) hZ (hw 342 rfl) (hw 337 rfl) (by decide) (by decide) (hELs hw) hR.1) (g := (mkF m 68 #[rv aB, iv (iN e_), iv (iN s_)] [(.int 0), (.int (iN s_)), (.ref aB)])) rfl hml.symm (argsL := [(.ref aB), (.int (iN s_)), (.int 0)]) (rest := []) (lenOf pd22 rfl) rfl (by show 2 * 0 + _ ≤ _; exact Nat.le_of_eq rfl) (D 42 rfl) (fun _ _ => ⟨rfl, e2, (by decide : 0 + 2 ≤ 2), (by decide : 0 + 4 ≤ 12)⟩)
    dsimp only [Pt.U, Pt.locs, Pt.cells, Pt.slots] at X10 l10 y10 z10 st10 hQ10 hS10 hg10 hCr10
    subst l10 y10 z10
    obtain ⟨X10, hS, hZ, hown⟩ := rebS hS (by rw [e2]; exact hk) X10 hS10 hg10 hZ hown
    have hk := Nat.le_refl T10.heap.size
    have hR := hR.trans hCr10
    obtain ⟨r10, bb10, kB10, u10, rfl, N10q, K10, Sb10⟩ := hQ10
    have KK11 := K0.trans K10 all0
    have Z10 := lT Z0 K10.1
    have Sb10 := Sb10.cast (n' := (e_ - s_)) (c' := (fun i => c_ (s_ + i))) (by omega) (fun i hi => absurd hi (by omega))
    have N10 := Fr.app N2 N10q
    refine Goes.sts st10 ?_
    refine gG X10 hx (pc := 71) (pc' := 75) (D 43 rfl) ?_ (by decide) (by decide)
    refine Goes.retA X10 hx hret rfl rfl rfl (D 45 rfl) (lvH X10 hlk hS hk hZ (hELs hw) rfl (by rw [hh]; exact hR) (vsome hret) ?_ (by decide) (by decide))
    exact ⟨_, s_, e_, rfl, N10, KK11, hTB, Or.inr ⟨r10, bb10, kB10, u10, rfl, Sb10⟩⟩
  ·refine jN X2 hx (D 31 rfl) ?_ rfl
   refine gifNo X2 hx (D 32 rfl) ((if0 _ _).trans (flt (nlN 0 s_ (by omega) (by omega) (by omega))).2.2.1) ?_
   refine jN X2 hx (D 33 rfl) ?_ rfl
   refine aN X2 hx (D 34 rfl) ?_ rfl rfl
   refine qAL X2 hx hZ e2 VB (D 35 rfl) ?_
   refine gY X2 hx (pc := 60) (pc' := 74) (D 36 rfl) (flt (nlN e_ n (by omega) (by omega) (by omega))).2.1 ?_ (by decide) (by decide)
   refine gaconstNull X2 hx (D 44 rfl) ?_
   show Gt T2 m 75 _ [.null]
   refine Goes.retA X2 hx hret rfl rfl rfl (D 45 rfl) (lvH X2 hlk hS (by rw [e2]; exact hk) hZ (hELs hw) e2 (by rw [hh]; exact hR) (vsome hret) ?_ (by decide) (by decide))
   rw [e2]
   exact ⟨_, s_, e_, rfl, N2, K0, hTB, Or.inl ⟨rfl, by omega, by omega⟩⟩
def QTm (Z : State) (rb bb : Addr) (kb : ClassId) (u : Bool) (n : Nat) (c_ : Nat → Int32) (cs : Int32) (h0 : Heap) (n0 : Nat) (v : Option Value) (h : Heap) (L : List Loc) : Prop := ∃ (s_ e_ : Nat) (r bb_ : Addr) (kC : ClassId) (u_ : Bool), v = some (.ref r) ∧ Fr n0 L ∧ Keep h0 h [] ∧ TB n c_ s_ e_ ∧ Sb Z h r bb_ kC u_ (e_ - s_) (fun i => c_ (s_ + i))
theorem Dj42_113 : ∀ q ∈ ([(0, .aload_n 0, 1), (1, .invokevirtual 492, 3), (4, .ifCond .eq 13, 3), (7, .aload_n 0, 1), (8, .getfield 9, 3), (11, .invokestatic 859, 3), (14, .goto 10, 3), (17, .aload_n 0, 1), (18, .getfield 9, 3), (21, .invokestatic 863, 3), (24, .astore_n 1, 1), (25, .aload_n 1, 1), (26, .ifnonnull 7, 3), (29, .aload_n 0, 1), (30, .goto 4, 3), (33, .aload_n 1, 1), (34, .areturn, 1)] : List (Nat × Instr × Nat)), decode jdk_42_method_113_code q.1 = .ok (q.2.1, q.2.2) := by decide +kernel
theorem pd23 : parseMethodDescriptor "([B)Ljava/lang/String;" = some ⟨[(.array .byte)], some (.object "java/lang/String")⟩ := by decide +kernel
theorem rmTmL (hw : HW a0 Z) (rb bb : Addr) (kb : ClassId) (n : Nat) (c_ : Nat → Int32) (cs : Int32) (Z0 : n0 ≤ h0.size) (Scs : S_0 Z h0 (.int cs)) (hcs : ¬ cs = (0 : Int32)) (Sd : S_2 Z h0 (.int 1)) (Sh : S_3 Z h0 (.int 0)) (Sl : S_4 Z h0 (.int 8)) (Bs : Sb Z h0 rb bb kb false n c_) :
  QMh l Z ELs mN37 jdk_42_method_113_code 2 (some (.object "java/lang/String")) ws (rM 5 2 12 89) #[(.ref rb)] h0 (QTm Z rb bb kb u n c_ cs h0 n0) := by
 refine bodyH (pfn pn0) (Ls := #[rv rb, .unset]) (fun _ => rfl) ?_
 intro p e s m below meth c s₁ hx hby hlk hret hml hown hnm hZ hh hR X0 e0 hS
 have hk : 0 ≤ h0.size := Nat.zero_le _
 have D := @db _ _ _ hby Dj42_113
 obtain ⟨Eb, Vb, Cb, Ab, hn4, hok⟩ := id Bs
 have Cb : F_1 Z h0 rb (.int 0) := Cb
 have Ab : Arv Z h0 bb kb .byte (iN n) (rg n (fun i => .int (bch (c_ i)))) (.int 0) := Ab
 have hok : ∀ i, i < n → 0 ≤ (c_ i).toInt ∧ (c_ i).toInt < 256 := hok
 have K0 : Keep h0 h0 [] := Keep.refl _ _
 show Gt s₁ m 0 _ []
 refine aN X0 hx (D 0 rfl) ?_ rfl rfl
 refine zV X0 hx hZ hown hw 136 rfl 137 139 138 140 8 (rmIl0 l hw rb cs Z0 Scs hcs Cb) e0 Eb hml (D 1 rfl) pd7 (W := 0) (rest := []) ?_ rfl rfl rfl rfl rfl (by decide) (lq rfl) rfl rfl rfl
 rintro T1 L1 v1 X1 ⟨rfl, N1q, eh1⟩
 have N1 := Fr.app (Fr.nil n0) N1q
 refine gifNo X1 hx (D 2 rfl) (by decide) ?_
 refine aN X1 hx (D 3 rfl) ?_ rfl rfl
 refine qGF X1 hx hZ hown (hw 25 rfl) Via.refl eh1 Vb (D 4 rfl) ?_
 intro T2 X2 e2
 obtain ⟨_, _, ⟨T3, L3, k3, n3⟩, -, X3, hS3, hg3, ⟨Lc3, hQ3, l3, y3, z3, hCr3⟩, st3⟩ := callSS X2 hx (y := mN36) hown (mvT hZ (hw 344 rfl)) (mvT hZ (hw 345 rfl)) (mvT hZ (hw 337 rfl)) (mvT hZ (hw 346 rfl)) (by decide) (backOfSH (W := 0) (rmTrL l hw bb kb n c_ Z0 Ab hn4 hok) hZ (hw 346 rfl) (hw 337 rfl) (by decide) (by decide) (hELs hw) hR.1) (g := (mkF m 11 #[rv rb, .unset] [(.ref bb)])) rfl hml.symm (argsL := [(.ref bb)]) (rest := []) (lenOf pd23 rfl) rfl (by show 2 * 0 + _ ≤ _; exact Nat.le_of_eq rfl) (D 5 rfl) (fun _ _ => ⟨rfl, e2, (by decide : 0 + 2 ≤ 2), (by decide : 0 + 12 ≤ 12)⟩)
 dsimp only [Pt.U, Pt.locs, Pt.cells, Pt.slots] at X3 l3 y3 z3 st3 hQ3 hS3 hg3 hCr3
 subst l3 y3 z3
 obtain ⟨X3, hS, hZ, hown⟩ := rebS hS (by rw [e2]; exact hk) X3 hS3 hg3 hZ hown
 have hk := Nat.le_refl T3.heap.size
 have hR := hR.trans hCr3
 obtain ⟨x3, s3, e3, rfl, N3q, K3, tb3, D3⟩ := hQ3
 have KK4 := K0.trans K3 all0
 have Z3 := lT Z0 K3.1
 have N3 := Fr.app N1 N3q
 refine Goes.sts st3 ?_
 refine gG X3 hx (pc := 14) (pc' := 24) (D 6 rfl) ?_ (by decide) (by decide)
 show Gt T3 m 24 #[rv rb, .unset] [x3]
 rcases D3 with ⟨rfl, hs0, he0⟩ | ⟨r3, bb3, kC3, u3, rfl, Sb3⟩
 ·show Gt T3 m 24 _ [.null]
  refine gastoreN X3 hx (D 10 rfl) rfl (l' := #[rv rb, .val .null]) rfl ?_
  refine aN X3 hx (D 11 rfl) ?_ rfl rfl
  refine Goes.st (fun tg kg => XT.ifnonnullNo X3.here hx rfl (D 12 rfl) rfl kg) ?_
  show Gt T3 m 29 #[rv rb, .val .null] []
  refine aN X3 hx (D 13 rfl) ?_ rfl rfl
  refine gG X3 hx (pc := 30) (pc' := 34) (D 14 rfl) ?_ (by decide) (by decide)
  have f5 := (Bs.keep K3 nb0)
  refine Goes.retA X3 hx hret rfl rfl rfl (D 16 rfl) (lvH X3 hlk hS hk hZ (hELs hw) rfl (by rw [hh]; exact hR) (vsome hret) ?_ (by decide) (by decide))
  exact ⟨s3, e3, rb, bb, kb, false, rfl, N3, KK4, tb3, Sb.cast f5 (by omega) (fun i hi => by rw [show s3 + i = i by omega])⟩
 ·show Gt T3 m 24 _ [(.ref r3)]
  refine gastoreN X3 hx (D 10 rfl) rfl (l' := #[rv rb, rv r3]) rfl ?_
  refine aN X3 hx (D 11 rfl) ?_ rfl rfl
  refine Goes.st (fun tg kg => XT.ifnonnullYes X3.here hx rfl (pc0 := 26) (pc' := 33) rfl (D 12 rfl) rfl (by decide) (by decide) kg) ?_
  show Gt T3 m 33 #[rv rb, rv r3] []
  refine aN X3 hx (D 15 rfl) ?_ rfl rfl
  refine Goes.retA X3 hx hret rfl rfl rfl (D 16 rfl) (lvH X3 hlk hS hk hZ (hELs hw) rfl (by rw [hh]; exact hR) (vsome hret) ?_ (by decide) (by decide))
  exact ⟨s3, e3, r3, bb3, kC3, u3, rfl, N3, KK4, tb3, Sb3⟩
theorem rmTmU (hw : HW a0 Z) (rb bb : Addr) (kb : ClassId) (n : Nat) (c_ : Nat → Int32) (cs : Int32) (Z0 : n0 ≤ h0.size) (Scs : S_0 Z h0 (.int cs)) (hcs : ¬ cs = (0 : Int32)) (Sd : S_2 Z h0 (.int 1)) (Sh : S_3 Z h0 (.int 0)) (Sl : S_4 Z h0 (.int 8)) (Bs : Sb Z h0 rb bb kb true n c_) :
  QMh l Z ELs mN37 jdk_42_method_113_code 2 (some (.object "java/lang/String")) ws (rM 5 2 12 89) #[(.ref rb)] h0 (QTm Z rb bb kb u n c_ cs h0 n0) := by
 refine bodyH (pfn pn0) (Ls := #[rv rb, .unset]) (fun _ => rfl) ?_
 intro p e s m below meth c s₁ hx hby hlk hret hml hown hnm hZ hh hR X0 e0 hS
 have hk : 0 ≤ h0.size := Nat.zero_le _
 have D := @db _ _ _ hby Dj42_113
 obtain ⟨Eb, Vb, Cb, Ab, hn4, hok⟩ := id Bs
 have Cb : F_1 Z h0 rb (.int 1) := Cb
 have Ab : Arv Z h0 bb kb .byte (iN (2 * n)) (rg (2 * n) (ub c_)) (.int 0) := Ab
 have hok : ∀ i, i < n → 0 ≤ (c_ i).toInt ∧ (c_ i).toInt < 65536 := hok
 have K0 : Keep h0 h0 [] := Keep.refl _ _
 show Gt s₁ m 0 _ []
 refine aN X0 hx (D 0 rfl) ?_ rfl rfl
 refine zV X0 hx hZ hown hw 136 rfl 137 139 138 140 8 (rmIl1 l hw rb cs Z0 Scs hcs Cb) e0 Eb hml (D 1 rfl) pd7 (W := 0) (rest := []) ?_ rfl rfl rfl rfl rfl (by decide) (lq rfl) rfl rfl rfl
 rintro T1 L1 v1 X1 ⟨rfl, N1q, eh1⟩
 have N1 := Fr.app (Fr.nil n0) N1q
 refine gT X1 hx (pc := 4) (pc' := 17) (D 2 rfl) (by decide) ?_ (by decide) (by decide)
 refine aN X1 hx (D 7 rfl) ?_ rfl rfl
 refine qGF X1 hx hZ hown (hw 25 rfl) Via.refl eh1 Vb (D 8 rfl) ?_
 intro T2 X2 e2
 refine zS X2 hx hZ hown hw 178 179 180 67 (rmTrU l hw bb kb n c_ Z0 Sd Sh Sl Ab hn4 hok) e2 hml (D 9 rfl) pd23 (W := 0) (rest := []) ?_ rfl rfl rfl rfl (by decide) (lq rfl) rfl rfl rfl
 rintro T3 L3 v3 X3 ⟨x3, s3, e3, rfl, N3q, K3, tb3, D3⟩
 have hk := lT hk K3.1
 have hR := hR.trans (CHr.keep K3 sf0 hR.1)
 have KK4 := K0.trans K3 all0
 have Z3 := lT Z0 K3.1
 have N3 := Fr.app N1 N3q
 show Gt T3 m 24 _ [x3]
 rcases D3 with ⟨rfl, hs0, he0⟩ | ⟨r3, bb3, kC3, u3, rfl, Sb3⟩
 ·show Gt T3 m 24 _ [.null]
  refine gastoreN X3 hx (D 10 rfl) rfl (l' := #[rv rb, .val .null]) rfl ?_
  refine aN X3 hx (D 11 rfl) ?_ rfl rfl
  refine Goes.st (fun tg kg => XT.ifnonnullNo X3.here hx rfl (D 12 rfl) rfl kg) ?_
  show Gt T3 m 29 #[rv rb, .val .null] []
  refine aN X3 hx (D 13 rfl) ?_ rfl rfl
  refine gG X3 hx (pc := 30) (pc' := 34) (D 14 rfl) ?_ (by decide) (by decide)
  have f5 := (Bs.keep K3 nb0)
  refine Goes.retA X3 hx hret rfl rfl rfl (D 16 rfl) (lvH X3 hlk hS hk hZ (hELs hw) rfl (by rw [hh]; exact hR) (vsome hret) ?_ (by decide) (by decide))
  exact ⟨s3, e3, rb, bb, kb, true, rfl, N3, KK4, tb3, Sb.cast f5 (by omega) (fun i hi => by rw [show s3 + i = i by omega])⟩
 ·show Gt T3 m 24 _ [(.ref r3)]
  refine gastoreN X3 hx (D 10 rfl) rfl (l' := #[rv rb, rv r3]) rfl ?_
  refine aN X3 hx (D 11 rfl) ?_ rfl rfl
  refine Goes.st (fun tg kg => XT.ifnonnullYes X3.here hx rfl (pc0 := 26) (pc' := 33) rfl (D 12 rfl) rfl (by decide) (by decide) kg) ?_
  show Gt T3 m 33 #[rv rb, rv r3] []
  refine aN X3 hx (D 15 rfl) ?_ rfl rfl
  refine Goes.retA X3 hx hret rfl rfl rfl (D 16 rfl) (lvH X3 hlk hS hk hZ (hELs hw) rfl (by rw [hh]; exact hR) (vsome hret) ?_ (by decide) (by decide))
  exact ⟨s3, e3, r3, bb3, kC3, u3, rfl, N3, KK4, tb3, Sb3⟩
theorem rmTm (hw : HW a0 Z) (rb bb : Addr) (kb : ClassId) (u : Bool) (n : Nat) (c_ : Nat → Int32) (cs : Int32) (Z0 : n0 ≤ h0.size) (Scs : S_0 Z h0 (.int cs)) (hcs : ¬ cs = (0 : Int32)) (Sd : S_2 Z h0 (.int 1)) (Sh : S_3 Z h0 (.int 0)) (Sl : S_4 Z h0 (.int 8)) (Bs : Sb Z h0 rb bb kb u n c_) :
  QMh l Z ELs mN37 jdk_42_method_113_code 2 (some (.object "java/lang/String")) ws (rM 5 2 12 89) #[(.ref rb)] h0 (QTm Z rb bb kb u n c_ cs h0 n0) := by
 cases u
 ·exact rmTmL l hw rb bb kb n c_ cs Z0 Scs hcs Sd Sh Sl Bs
 ·exact rmTmU l hw rb bb kb n c_ cs Z0 Scs hcs Sd Sh Sl Bs
def QIv0 (Z : State) (a aC : Addr) (h0 : Heap) (n0 : Nat) (v : Option Value) (h : Heap) (L : List Loc) : Prop := ∃ (bb : Addr) (kB : ClassId) (u : Bool), v = none ∧ Fr n0 L ∧ Keep h0 h [a] ∧ Sb Z h a bb kB u 0 (fun _ => 0)
theorem rmIv0 (hw : HW a0 Z) (a aC : Addr) (Z0 : n0 ≤ h0.size) (Ea : X_0 Z h0 a) (ga : n0 ≤ a) (Fv : F_0 Z h0 a .null) (Fc : F_1 Z h0 a (.int 0)) :
  QMh l Z ELs mN21 jdk_42_method_149_code 6 none ws (rM 1 2 4 12) #[(.ref a), (.ref aC), (.int 0), (.int 0), .null] h0 (QIv0 Z a aC h0 n0) := by
 refine bodyH (pfn pn0) (Ls := #[rv a, rv aC, iv 0, iv 0, .val .null, .unset]) (fun _ => rfl) ?_
 intro p e s m below meth c s₁ hx hby hlk hret hml hown hnm hZ hh hR X0 e0 hS
 have hk : 0 ≤ h0.size := Nat.zero_le _
 have D := @db _ _ _ hby Dj42_149
 have hSf0 : Safe Z ELs s.vm h0 a := Safe.nul hZ.alike Ea Fv
 have K0 : Keep h0 h0 [a] := Keep.refl _ _
 show Gt s₁ m 0 _ []
 refine aN X0 hx (D 0 rfl) ?_ rfl rfl
 obtain ⟨T1, X1, e1, st1⟩ := initO X0 hx hZ hown (hw 16 rfl) (hw 17 rfl) (hw 18 rfl) e0 (g := (mkF m 1 #[rv a, rv aC, iv 0, iv 0, .val .null, .unset] [(.ref a)])) rfl hml.symm rfl (D 1 rfl) (by decide) (W := 0) (by show 2 * 0 + _ ≤ _; exact Nat.le_of_eq rfl) (by decide)
 refine Goes.st st1 ?_
 refine jN X1 hx (D 2 rfl) ?_ rfl
 refine gifNo X1 hx (D 3 rfl) (by decide) ?_
 refine aN X1 hx (D 4 rfl) ?_ rfl rfl
 show Gt T1 m 9 #[rv a, rv aC, iv 0, iv 0, .val .null, .unset] [(.ref a)]
 obtain ⟨b2, T2, h2, kk2, bb2, kb2, X2, e2, E2, hS, hk, hZ, hown, LE2, LC2, LV2, LA2, la2, lb2, hCr2, Li2, hSf2, st2⟩ := ldcCH X1 hx hZ hown (hw 19 rfl) (strW (hw 8 rfl) (hw 7 rfl) (hw 20 rfl) (hw 21 rfl) (hw 22 rfl) (hw 23 rfl) (hw 24 rfl)) e1 hS hk (hELs hw) (by decide) hR.1 (vs := []) (z := (0 : Int32)) (by decide) (by decide) (by decide) (g := (mkF m 9 #[rv a, rv aC, iv 0, iv 0, .val .null, .unset] [(.ref a)])) rfl (D 5 rfl) (n := 0) (by decide) (by decide) (by decide) (by decide)
 have hR := hR.trans hCr2
 refine Goes.st st2 ?_
 have KK3 := K0.ext E2
 have Z2 := lT Z0 E2.1
 have na2 := hSf2 a (hR.safe Ea.lt hSf0)
 refine qGF X2 hx hZ hown (hw 25 rfl) Via.refl e2 LV2 (D 6 rfl) ?_
 intro T4 X4 e4
 have f6 := (Fv.ext E2)
 have f7 := (Ea.ext E2)
 refine qPF X4 hx hZ hown (hw 25 rfl) Via.refl e4 f6 f7 (Or.inr ⟨(hw 21 rfl), rfl, hnm⟩) (hw 7 rfl) (ty := (.array .byte)) (by decide) rfl rfl (D 7 rfl) (Fr.nil n0) ga Z2 ?_
 intro T5 h5 L5 X5 e5 W5 N5 G5 Z5
 have hk := lT hk (Nat.le_of_eq W5.size.symm)
 have hR := hR.trans (CHr.wr W5 (hR.safe Ea.lt hSf0) hR.1)
 have KK8 := KK3.wr W5 (Or.inl (mI 0 rfl))
 refine aN X5 hx (D 8 rfl) ?_ rfl rfl
 show Gt T5 m 18 #[rv a, rv aC, iv 0, iv 0, .val .null, .unset] [(.ref a)]
 refine Goes.st (ldcAgain X5 hx hZ hown (hw 19 rfl) Li2 (g := (mkF m 18 #[rv a, rv aC, iv 0, iv 0, .val .null, .unset] [(.ref a)])) rfl (D 9 rfl)) ?_
 have f11 := (LC2.other W5 (Or.inl (Ne.symm na2.1)))
 refine qGF X5 hx hZ hown (hw 26 rfl) Via.refl e5 f11 (D 10 rfl) ?_
 intro T10 X10 e10
 have f13 := ((Fc.ext E2).other W5 (Or.inr (slot_ne (Or.inr (hw 22 rfl)) (Or.inr (hw 21 rfl)) (by decide) (t := .byte) (t' := (.array .byte)) (by decide) (by decide))))
 have f14 := (f7.wr W5)
 obtain ⟨T12, h12, X12, e12, W12, st12⟩ := putFN X10 hx hZ hown (hw 26 rfl) Via.refl e10 f13 f14 (Or.inr ⟨(hw 22 rfl), rfl, hnm⟩) (hw 7 rfl) (ty := .byte) (v' := (.int 0)) (by decide) rfl (by decide) (g := (mkF m 23 #[rv a, rv aC, iv 0, iv 0, .val .null, .unset] [(.int 0), (.ref a)])) rfl rfl (D 11 rfl)
 have N12 := Fr.snoc X12 N5 ga
 have G12 := f13.same W12
 refine Goes.st st12 ?_
 have hk := lT hk (Nat.le_of_eq W12.size.symm)
 have hR := hR.trans (CHr.wr W12 (hR.safe Ea.lt hSf0) hR.1)
 have KK15 := KK8.wr W12 (Or.inl (mI 0 rfl))
 have Z12 : n0 ≤ h12.size := by have := W12.size; have := Z5; omega
 have f16 := (f14.wr W12)
 have f17 := (G5.other W12 (Or.inr (slot_ne (Or.inr (hw 21 rfl)) (Or.inr (hw 22 rfl)) (by decide) (t := (.array .byte)) (t' := .byte) (by decide) (by decide))))
 have f18 := ((LA2.other W5 (Ne.symm na2.2)).other W12 (Ne.symm na2.2))
 refine Goes.retV X12 hx hret (D 12 rfl) (lvH X12 hlk hS (by rw [e12]; exact hk) hZ (hELs hw) e12 (by rw [hh]; exact hR) (fun _ => rfl) ?_ (by decide) (by decide))
 rw [e12]
 exact ⟨bb2, kb2, false, rfl, N12, KK15, f16, f17, G12, f18, by omega, fun i hi => absurd hi (by omega)⟩
theorem Dj42_3 : ∀ q ∈ ([(0, .aload_n 0, 1), (1, .aload_n 1, 1), (2, .iconst 0, 1), (3, .aload_n 1, 1), (4, .arraylength, 1), (5, .aconst_null, 1), (6, .invokespecial 27, 3), (9, .return_, 1)] : List (Nat × Instr × Nat)), decode jdk_42_method_3_code q.1 = .ok (q.2.1, q.2.2) := by decide +kernel
theorem pd24 : parseMethodDescriptor "([CIILjava/lang/Void;)V" = some ⟨[(.array .char), .int, .int, (.object "java/lang/Void")], none⟩ := by decide +kernel
def QIc (Z : State) (a : Addr) (aC : Addr) (kC : ClassId) (n : Nat) (c_ : Nat → Int32) (cs : Int32) (h0 : Heap) (n0 : Nat) (v : Option Value) (h : Heap) (L : List Loc) : Prop := ∃ (bb : Addr) (kB : ClassId) (u : Bool), v = none ∧ Fr n0 L ∧ Keep h0 h [a] ∧ Sb Z h a bb kB u n c_
theorem rmIc (hw : HW a0 Z) (a : Addr) (aC : Addr) (kC : ClassId) (n : Nat) (c_ : Nat → Int32) (cs : Int32) (Z0 : n0 ≤ h0.size) (Scs : S_0 Z h0 (.int cs)) (hcs : ¬ cs = (0 : Int32)) (Sd : S_2 Z h0 (.int 1)) (Sh : S_3 Z h0 (.int 0)) (Sl : S_4 Z h0 (.int 8)) (Ea : X_0 Z h0 a) (ga : n0 ≤ a) (Fv : F_0 Z h0 a .null) (Fc : F_1 Z h0 a (.int 0)) (VC : Arv Z h0 aC kC .char (iN n) (rg n (fun i => .int (c_ i))) (.int 0)) (hn4 : n ≤ 4) (h1 : 1 ≤ n) (hok : ∀ i, i < n → 0 ≤ (c_ i).toInt ∧ (c_ i).toInt < 65536) :
  QMg l Z mN38 jdk_42_method_3_code 2 none ws (rM 5 2 16 74) #[(.ref a), (.ref aC)] h0 (QIc Z a aC kC n c_ cs h0 n0) := by
 refine bodyN (pfn pn0) (Ls := #[rv a, rv aC]) (fun _ => rfl) ?_
 intro p e s m below meth c s₁ hx hby hlk hret hml hown hnm hZ hh X0 e0
 have D := @db _ _ _ hby Dj42_3
 have K0 : Keep h0 h0 [a] := Keep.refl _ _
 show Gt s₁ m 0 _ []
 refine aN X0 hx (D 0 rfl) ?_ rfl rfl
 refine aN X0 hx (D 1 rfl) ?_ rfl rfl
 refine giconst X0 hx (D 2 rfl) ?_
 refine aN X0 hx (D 3 rfl) ?_ rfl rfl
 refine qAL X0 hx hZ e0 VC (D 4 rfl) ?_
 refine gaconstNull X0 hx (D 5 rfl) ?_
 refine zC X0 hx hZ hown hw 12 13 15 8 (rmIv l hw a aC kC n c_ cs Z0 Scs hcs Sd Sh Sl Ea ga Fv Fc VC (by omega) (by omega) hok) e0 hml (D 6 rfl) pd24 (W := 0) (rest := []) ?_ rfl rfl rfl rfl (by decide) (lq rfl) rfl rfl rfl
 rintro T2 L2 v2 X2 ⟨bb2, kB2, u2, rfl, N2q, K2, Sb2⟩
 have KK3 := K0.trans K2 (allS (Or.inl (mI 0 rfl)) all0)
 have Z2 := lT Z0 K2.1
 have N2 := Fr.app (Fr.nil n0) N2q
 refine rV X2 hx hret (D 7 rfl) hlk ?_ (by decide) (by decide)
 exact ⟨bb2, kB2, u2, rfl, N2, KK3, Sb2⟩
def QIc0 (Z : State) (a aC : Addr) (kC : ClassId) (h0 : Heap) (n0 : Nat) (v : Option Value) (h : Heap) (L : List Loc) : Prop := ∃ (bb : Addr) (kB : ClassId) (u : Bool), v = none ∧ Fr n0 L ∧ Keep h0 h [a] ∧ Sb Z h a bb kB u 0 (fun _ => 0)
theorem rmIc0 (hw : HW a0 Z) (a aC : Addr) (kC : ClassId) (Z0 : n0 ≤ h0.size) (Ea : X_0 Z h0 a) (ga : n0 ≤ a) (Fv : F_0 Z h0 a .null) (Fc : F_1 Z h0 a (.int 0)) (VC : Arv Z h0 aC kC .char 0 [] (.int 0)) :
  QMh l Z ELs mN38 jdk_42_method_3_code 2 none ws (rM 2 2 4 29) #[(.ref a), (.ref aC)] h0 (QIc0 Z a aC kC h0 n0) := by
 refine bodyH (pfn pn0) (Ls := #[rv a, rv aC]) (fun _ => rfl) ?_
 intro p e s m below meth c s₁ hx hby hlk hret hml hown hnm hZ hh hR X0 e0 hS
 have hk : 0 ≤ h0.size := Nat.zero_le _
 have D := @db _ _ _ hby Dj42_3
 have K0 : Keep h0 h0 [a] := Keep.refl _ _
 show Gt s₁ m 0 _ []
 refine aN X0 hx (D 0 rfl) ?_ rfl rfl
 refine aN X0 hx (D 1 rfl) ?_ rfl rfl
 refine giconst X0 hx (D 2 rfl) ?_
 refine aN X0 hx (D 3 rfl) ?_ rfl rfl
 refine qAL X0 hx hZ e0 VC (D 4 rfl) ?_
 refine gaconstNull X0 hx (D 5 rfl) ?_
 obtain ⟨_, _, ⟨T2, L2, k2, n2⟩, -, X2, hS2, hg2, ⟨Lc2, hQ2, l2, y2, z2, hCr2⟩, st2⟩ := X0.specialBackS hx (y := mN21) rfl hown (mvT hZ (hw 12 rfl)) (mvT hZ (hw 13 rfl)) (mvT hZ (hw 15 rfl)) (by decide) (backOfSH (W := 0) (rmIv0 l hw a aC Z0 Ea ga Fv Fc) hZ (hw 15 rfl) (hw 8 rfl) (by decide) (by decide) (hELs hw) hR.1) (g := (mkF m 6 #[rv a, rv aC] [.null, (.int 0), (.int 0), (.ref aC), (.ref a)])) rfl hml.symm (Steps.refl _) (a := a) (argsL := [(.ref aC), (.int 0), (.int 0), .null]) (rest := []) (lenOf pd24 rfl) rfl (by show 2 * 0 + _ ≤ _; exact Nat.le_of_eq rfl) (D 6 rfl) (fun _ _ => ⟨rfl, e0, (by decide : 0 + 2 ≤ 2), (by decide : 0 + 4 ≤ 4)⟩)
 dsimp only [Pt.U, Pt.locs, Pt.cells, Pt.slots] at X2 l2 y2 z2 st2 hQ2 hS2 hg2 hCr2
 subst l2 y2 z2
 obtain ⟨X2, hS, hZ, hown⟩ := rebS hS (by rw [e0]; exact hk) X2 hS2 hg2 hZ hown
 have hk := Nat.le_refl T2.heap.size
 have hR := hR.trans hCr2
 obtain ⟨bb2, kB2, u2, rfl, N2q, K2, Sb2⟩ := hQ2
 have KK3 := K0.trans K2 (allS (Or.inl (mI 0 rfl)) all0)
 have Z2 := lT Z0 K2.1
 have N2 := Fr.app (Fr.nil n0) N2q
 refine Goes.sts st2 ?_
 refine Goes.retV X2 hx hret (D 7 rfl) (lvH X2 hlk hS hk hZ (hELs hw) rfl (by rw [hh]; exact hR) (fun _ => rfl) ?_ (by decide) (by decide))
 exact ⟨bb2, kB2, u2, rfl, N2, KK3, Sb2⟩
theorem Dj22_1 : ∀ q ∈ ([(0, .aload_n 0, 1), (1, .invokespecial 1, 3), (4, .return_, 1)] : List (Nat × Instr × Nat)), decode jdk_22_method_1_code q.1 = .ok (q.2.1, q.2.2) := by decide +kernel
theorem pn5 : plainName "java/util/AbstractCollection" = true := by first | (simp [plainName, overriddenIn]; done) | decide +kernel
def QAc (Z : State) (a : Addr) (h0 : Heap) (n0 : Nat) (v : Option Value) (h : Heap) (L : List Loc) : Prop := v = none ∧ Fr n0 L ∧ h = h0
theorem rmAc (hw : HW a0 Z) (a : Addr) (Z0 : n0 ≤ h0.size)  :
  QMg l Z mN39 jdk_22_method_1_code 1 none ws (rM 1 0 0 12) #[(.ref a)] h0 (QAc Z a h0 n0) := by
 refine bodyN (pfn pn5) (Ls := #[rv a]) (fun _ => rfl) ?_
 intro p e s m below meth c s₁ hx hby hlk hret hml hown hnm hZ hh X0 e0
 have D := @db _ _ _ hby Dj22_1
 show Gt s₁ m 0 _ []
 refine aN X0 hx (D 0 rfl) ?_ rfl rfl
 obtain ⟨T1, X1, e1, st1⟩ := initO X0 hx hZ hown (hw 115 rfl) (hw 17 rfl) (hw 18 rfl) e0 (g := (mkF m 1 #[rv a] [(.ref a)])) rfl hml.symm rfl (D 1 rfl) (by decide) (W := 0) (by show 2 * 0 + _ ≤ _; exact Nat.le_of_eq rfl) (by decide)
 refine Goes.st st1 ?_
 refine rV X1 hx hret (D 2 rfl) hlk ?_ (by decide) (by decide)
 rw [e1]
 exact ⟨rfl, (Fr.nil n0), rfl⟩
theorem Dj39_1 : ∀ q ∈ ([(0, .aload_n 0, 1), (1, .invokespecial 1, 3), (4, .aload_n 0, 1), (5, .iconst 0, 1), (6, .putfield 7, 3), (9, .return_, 1)] : List (Nat × Instr × Nat)), decode jdk_39_method_1_code q.1 = .ok (q.2.1, q.2.2) := by decide +kernel
theorem pn6 : plainName "java/util/AbstractList" = true := by first | (simp [plainName, overriddenIn]; done) | decide +kernel
theorem pd25 : parseMethodDescriptor "()V" = some ⟨[], none⟩ := by decide +kernel
def QAb (Z : State) (a : Addr) (u0 u1 u2 : Value) (h0 : Heap) (n0 : Nat) (v : Option Value) (h : Heap) (L : List Loc) : Prop := v = none ∧ Fr n0 L ∧ Keep h0 h [a] ∧ F_2 Z h a (.int 0) ∧ F_3 Z h a u1 ∧ F_4 Z h a u2
theorem rmAb (hw : HW a0 Z) (a : Addr) (u0 u1 u2 : Value) (Z0 : n0 ≤ h0.size) (Ea : X_1 Z h0 a) (ga : n0 ≤ a) (Fm : F_2 Z h0 a u0) (Fe : F_3 Z h0 a u1) (Fs : F_4 Z h0 a u2) :
  QMg l Z mN40 jdk_39_method_1_code 1 none ws (rM 2 0 0 24) #[(.ref a)] h0 (QAb Z a u0 u1 u2 h0 n0) := by
 refine bodyN (pfn pn6) (Ls := #[rv a]) (fun _ => rfl) ?_
 intro p e s m below meth c s₁ hx hby hlk hret hml hown hnm hZ hh X0 e0
 have D := @db _ _ _ hby Dj39_1
 have K0 : Keep h0 h0 [a] := Keep.refl _ _
 show Gt s₁ m 0 _ []
 refine aN X0 hx (D 0 rfl) ?_ rfl rfl
 refine zC X0 hx hZ hown hw 109 110 114 113 (rmAc l hw a Z0 ) e0 hml (D 1 rfl) pd25 (W := 0) (rest := []) ?_ rfl rfl rfl rfl (by decide) (lq rfl) rfl rfl rfl
 rintro T1 L1 v1 X1 ⟨rfl, N1q, eh1⟩
 have N1 := Fr.app (Fr.nil n0) N1q
 refine aN X1 hx (D 2 rfl) ?_ rfl rfl
 refine giconst X1 hx (D 3 rfl) ?_
 refine qPF X1 hx hZ hown (hw 116 rfl) Via.refl eh1 Fm Ea (Or.inl (hw 117 rfl)) (hw 98 rfl) (ty := .int) (by decide) rfl rfl (D 4 rfl) N1 ga Z0 ?_
 intro T2 h2 L2 X2 e2 W2 N2 G2 Z2
 have KK3 := K0.wr W2 (Or.inl (mI 0 rfl))
 have f4 := (Fe.other W2 (Or.inr (slot_ne (Or.inl (hw 120 rfl)) (Or.inl (hw 117 rfl)) (by decide) (t := (.array (.object "java/lang/Object"))) (t' := .int) (by decide) (by decide))))
 have f5 := (Fs.other W2 (Or.inr (slot_ne (Or.inl (hw 215 rfl)) (Or.inl (hw 117 rfl)) (by decide) (t := .int) (t' := .int) (by decide) (by decide))))
 refine rV X2 hx hret (D 5 rfl) hlk ?_ (by decide) (by decide)
 rw [e2]
 exact ⟨rfl, N2, KK3, G2, f4, f5⟩
theorem Dj38_2 : ∀ q ∈ ([(0, .aload_n 0, 1), (1, .invokespecial 1, 3), (4, .aload_n 0, 1), (5, .getstatic 39, 3), (8, .putfield 9, 3), (11, .return_, 1)] : List (Nat × Instr × Nat)), decode jdk_38_method_2_code q.1 = .ok (q.2.1, q.2.2) := by decide +kernel
theorem pn7 : plainName "java/util/ArrayList" = true := by first | (simp [plainName, overriddenIn]; done) | decide +kernel
def QAi (Z : State) (a dE : Addr) (h0 : Heap) (n0 : Nat) (v : Option Value) (h : Heap) (L : List Loc) : Prop := v = none ∧ Fr n0 L ∧ Keep h0 h [a] ∧ F_2 Z h a (.int 0) ∧ F_3 Z h a (.ref dE) ∧ F_4 Z h a (.int 0)
theorem rmAi (hw : HW a0 Z) (a dE : Addr) (Z0 : n0 ≤ h0.size) (Ea : X_1 Z h0 a) (ga : n0 ≤ a) (Fm : F_2 Z h0 a (.int 0)) (Fe : F_3 Z h0 a .null) (Fs : F_4 Z h0 a (.int 0)) (Sde : S_5 Z h0 (.ref dE)) :
  QMg l Z mN41 jdk_38_method_2_code 1 none ws (rM 3 0 0 36) #[(.ref a)] h0 (QAi Z a dE h0 n0) := by
 refine bodyN (pfn pn7) (Ls := #[rv a]) (fun _ => rfl) ?_
 intro p e s m below meth c s₁ hx hby hlk hret hml hown hnm hZ hh X0 e0
 have D := @db _ _ _ hby Dj38_2
 have K0 : Keep h0 h0 [a] := Keep.refl _ _
 show Gt s₁ m 0 _ []
 refine aN X0 hx (D 0 rfl) ?_ rfl rfl
 refine zC X0 hx hZ hown hw 103 104 108 107 (rmAb l hw a (.int 0) .null (.int 0) Z0 Ea ga Fm Fe Fs) e0 hml (D 1 rfl) pd25 (W := 0) (rest := []) ?_ rfl rfl rfl rfl (by decide) (lq rfl) rfl rfl rfl
 rintro T1 L1 v1 X1 ⟨rfl, N1q, K1, R1_0, R1_1, R1_2⟩
 have KK2 := K0.trans K1 (allS (Or.inl (mI 0 rfl)) all0)
 have Z1 := lT Z0 K1.1
 have N1 := Fr.app (Fr.nil n0) N1q
 refine aN X1 hx (D 2 rfl) ?_ rfl rfl
 have f4 := (Sde.kept K1 (nsS (Exa.nostat Ea) ns0))
 obtain ⟨T3, X3, e3, st3⟩ := getS X1 hx hZ hown (host := "") (hw 118 rfl) Via.refl rfl f4 (g := (mkF m 5 #[rv a] [(.ref a)])) rfl (D 3 rfl)
 refine Goes.st st3 ?_
 have f6 := (Ea.keep K1)
 refine qPF X3 hx hZ hown (hw 119 rfl) Via.refl e3 R1_1 f6 (Or.inl (hw 120 rfl)) (hw 98 rfl) (ty := (.array (.object "java/lang/Object"))) (by decide) rfl rfl (D 4 rfl) N1 ga Z1 ?_
 intro T5 h5 L5 X5 e5 W5 N5 G5 Z5
 have KK7 := KK2.wr W5 (Or.inl (mI 0 rfl))
 have f8 := (R1_0.other W5 (Or.inr (slot_ne (Or.inl (hw 117 rfl)) (Or.inl (hw 120 rfl)) (by decide) (t := .int) (t' := (.array (.object "java/lang/Object"))) (by decide) (by decide))))
 have f9 := (R1_2.other W5 (Or.inr (slot_ne (Or.inl (hw 215 rfl)) (Or.inl (hw 120 rfl)) (by decide) (t := .int) (t' := (.array (.object "java/lang/Object"))) (by decide) (by decide))))
 refine rV X5 hx hret (D 5 rfl) hlk ?_ (by decide) (by decide)
 rw [e5]
 exact ⟨rfl, N5, KK7, f8, G5, f9⟩
theorem Dj38_6 : ∀ q ∈ ([(0, .aload_n 0, 1), (1, .getfield 9, 3), (4, .arraylength, 1), (5, .istore_n 2, 1), (6, .iload_n 2, 1), (7, .ifCond .gt 13, 3), (10, .aload_n 0, 1), (11, .getfield 9, 3), (14, .getstatic 39, 3), (17, .if_acmp .eq 28, 3), (45, .aload_n 0, 1), (46, .bipush 10, 2), (48, .iload_n 1, 1), (49, .invokestatic 79, 3), (52, .anewarray 7, 3), (55, .dup_x1, 1), (56, .putfield 9, 3), (59, .areturn, 1)] : List (Nat × Instr × Nat)), decode jdk_38_method_6_code q.1 = .ok (q.2.1, q.2.2) := by decide +kernel
theorem Dj29_65 : ∀ q ∈ ([(0, .iload_n 0, 1), (1, .iload_n 1, 1), (2, .if_icmp .lt 7, 3), (5, .iload_n 0, 1), (6, .goto 4, 3), (10, .ireturn, 1)] : List (Nat × Instr × Nat)), decode jdk_29_method_65_code q.1 = .ok (q.2.1, q.2.2) := by decide +kernel
theorem pf_java_lang_Math_max__II_I : plainFor (⟨"java/lang/Math", "max", "(II)I"⟩ : MethodName) = true := by unfold plainFor; decide +kernel
def QMx10_1 (Z : State) (u_ : Unit) (h0 : Heap) (n0 : Nat) (v : Option Value) (h : Heap) (L : List Loc) : Prop := v = some (.int 10) ∧ Fr n0 L ∧ h = h0
theorem rmMx10_1 (hw : HW a0 Z) (u_ : Unit) (Z0 : n0 ≤ h0.size)  :
  QMg l Z mN42 jdk_29_method_65_code 2 (some .int) ws (rM 0 0 0 0) #[(.int 10), (.int 1)] h0 (QMx10_1 Z u_ h0 n0) := by
 refine bodyN pf_java_lang_Math_max__II_I (Ls := #[iv 10, iv 1]) (fun _ => rfl) ?_
 intro p e s m below meth c s₁ hx hby hlk hret hml hown hnm hZ hh X0 e0
 have D := @db _ _ _ hby Dj29_65
 show Gt s₁ m 0 _ []
 refine jN X0 hx (D 0 rfl) ?_ rfl
 refine jN X0 hx (D 1 rfl) ?_ rfl
 refine gicmpNo X0 hx (D 2 rfl) (by decide) ?_
 refine jN X0 hx (D 3 rfl) ?_ rfl
 refine gG X0 hx (pc := 6) (pc' := 10) (D 4 rfl) ?_ (by decide) (by decide)
 refine rI X0 hx hret (D 5 rfl) hlk ?_ (by decide) (by decide)
 rw [e0]
 exact ⟨rfl, (Fr.nil n0), rfl⟩
def QG1 (Z : State) (a dE : Addr) (kD : ClassId) (mc : Int32) (h0 : Heap) (n0 : Nat) (v : Option Value) (h : Heap) (L : List Loc) : Prop := ∃ (b : Addr) (kE : ClassId), v = some (.ref b) ∧ Fr n0 L ∧ Keep h0 h [a] ∧ h0.size ≤ b ∧ n0 ≤ b ∧ F_2 Z h a (.int mc) ∧ F_3 Z h a (.ref b) ∧ F_4 Z h a (.int 0) ∧ Arv Z h b kE (.object "java/lang/Object") 10 [.null, .null, .null, .null, .null, .null, .null, .null, .null, .null] .null ∧ Ovr Z kE "java/lang/Object" ∧ X_2 Z h b
theorem rmG1 (hw : HW a0 Z) (a dE : Addr) (kD : ClassId) (mc : Int32) (Z0 : n0 ≤ h0.size) (Ea : X_1 Z h0 a) (ga : n0 ≤ a) (Fm : F_2 Z h0 a (.int mc)) (Fe : F_3 Z h0 a (.ref dE)) (Fs : F_4 Z h0 a (.int 0)) (Sde : S_5 Z h0 (.ref dE)) (Ade : Arv Z h0 dE kD (.object "java/lang/Object") 0 [] .null) (nad : a ≠ dE) :
  QMg l Z mN43 jdk_38_method_6_code 4 (some (.array (.object "java/lang/Object"))) ws (rM 1 1 10 14) #[(.ref a), (.int 1)] h0 (QG1 Z a dE kD mc h0 n0) := by
 refine bodyN (pfn pn7) (Ls := #[rv a, iv 1, .unset, .unset]) (fun _ => rfl) ?_
 intro p e s m below meth c s₁ hx hby hlk hret hml hown hnm hZ hh X0 e0
 have D := @db _ _ _ hby Dj38_6
 have K0 : Keep h0 h0 [a] := Keep.refl _ _
 show Gt s₁ m 0 _ []
 refine aN X0 hx (D 0 rfl) ?_ rfl rfl
 refine qGF X0 hx hZ hown (hw 119 rfl) Via.refl e0 Fe (D 1 rfl) ?_
 intro T1 X1 e1
 refine qAL X1 hx hZ e1 Ade (D 2 rfl) ?_
 refine gistoreN X1 hx (D 3 rfl) (l' := #[rv a, iv 1, iv 0, .unset]) rfl ?_
 refine jN X1 hx (D 4 rfl) ?_ rfl
 refine gifNo X1 hx (D 5 rfl) (by decide) ?_
 refine aN X1 hx (D 6 rfl) ?_ rfl rfl
 refine qGF X1 hx hZ hown (hw 119 rfl) Via.refl e1 Fe (D 7 rfl) ?_
 intro T3 X3 e3
 obtain ⟨T4, X4, e4, st4⟩ := getS X3 hx hZ hown (host := "") (hw 118 rfl) Via.refl e3 Sde (g := (mkF m 14 #[rv a, iv 1, iv 0, .unset] [(.ref dE)])) rfl (D 8 rfl)
 refine Goes.st st4 ?_
 show Gt T4 m 17 #[rv a, iv 1, iv 0, .unset] [(.ref dE), (.ref dE)]
 refine Goes.st (fun tg kg => XT.acmpYes X4.here hx rfl (pc0 := 17) (pc' := 45) rfl (D 9 rfl) rfl rfl rfl (XT.aa_eq_t (rfl : ((.ref dE) : Value) = (.ref dE))) (by decide) (by decide) kg) ?_
 refine aN X4 hx (D 10 rfl) ?_ rfl rfl
 refine gbipush X4 hx (D 11 rfl) ?_
 refine jN X4 hx (D 12 rfl) ?_ rfl
 refine zS X4 hx hZ hown hw 231 232 233 194 (rmMx10_1 l hw () Z0 ) e4 hml (D 13 rfl) pd14 (W := 1) (rest := [(.ref a)]) ?_ rfl rfl rfl rfl (by decide) (lq rfl) rfl rfl rfl
 rintro T5 L5 v5 X5 ⟨rfl, N5q, eh5⟩
 have N5 := Fr.app (Fr.nil n0) N5q
 show Gt T5 m 52 #[rv a, iv 1, iv 0, .unset] [(.int 10), (.ref a)]
 obtain ⟨T6, h6, cA6, X6, e6, E6, A6, EA6, OV6, st6⟩ := newRE X5 hx hZ hown (C := "java/lang/Object") (hw 234 rfl) (hw 235 rfl) eh5 (g := (mkF m 52 #[rv a, iv 1, iv 0, .unset] [(.int 10), (.ref a)])) rfl (D 14 rfl) rfl (by decide) (cap := 10) (by decide) (by decide) (by decide) (by decide) (ad := "[Ljava/lang/Object;") (by decide)
 obtain ⟨b6, g6⟩ : ∃ z, z = h0.size := ⟨_, rfl⟩
 rw [← g6] at A6 EA6 st6
 have lo_b6 := loB Z0 g6
 have sz_b6 := loB K0.1 g6
 have KK7 := K0.ext E6
 have V6 : Arv Z h6 b6 cA6 (.object "java/lang/Object") 10 [.null, .null, .null, .null, .null, .null, .null, .null, .null, .null] .null := (Arv.new A6 (by decide)).pad (pad_rep [] _ 10)
 refine Goes.st st6 ?_
 have Z6 := lT Z0 E6.1
 show Gt T6 m 55 #[rv a, iv 1, iv 0, .unset] [(.ref b6), (.ref a)]
 refine Goes.st (fun tg kg => XT.dupX1 X6.here hx rfl (D 15 rfl) rfl rfl rfl kg) ?_
 have f9 := (Fe.ext E6)
 have f10 := (Ea.ext E6)
 refine qPF X6 hx hZ hown (hw 119 rfl) Via.refl e6 f9 f10 (Or.inl (hw 120 rfl)) (hw 98 rfl) (ty := (.array (.object "java/lang/Object"))) (by decide) rfl rfl (D 16 rfl) N5 ga Z6 ?_
 intro T8 h8 L8 X8 e8 W8 N8 G8 Z8
 have KK11 := KK7.wr W8 (Or.inl (mI 0 rfl))
 have ne12 := neB Ea.lt g6
 have f13 := (V6.other W8 ne12.symm)
 have f14 := ((Fm.ext E6).other W8 (Or.inr (slot_ne (Or.inl (hw 117 rfl)) (Or.inl (hw 120 rfl)) (by decide) (t := .int) (t' := (.array (.object "java/lang/Object"))) (by decide) (by decide))))
 have f15 := ((Fs.ext E6).other W8 (Or.inr (slot_ne (Or.inl (hw 215 rfl)) (Or.inl (hw 120 rfl)) (by decide) (t := .int) (t' := (.array (.object "java/lang/Object"))) (by decide) (by decide))))
 have f16 := (EA6.wr W8)
 refine rA X8 hx hret (D 17 rfl) hlk ?_ rfl rfl rfl (by decide) (by decide)
 rw [e8]
 exact ⟨b6, cA6, rfl, N8, KK11, sz_b6, lo_b6, f14, G8, f15, f13, OV6, f16⟩
theorem Dj38_7 : ∀ q ∈ ([(0, .aload_n 0, 1), (1, .aload_n 0, 1), (2, .getfield 48, 3), (5, .iconst 1, 1), (6, .iadd, 1), (7, .invokevirtual 69, 3), (10, .areturn, 1)] : List (Nat × Instr × Nat)), decode jdk_38_method_7_code q.1 = .ok (q.2.1, q.2.2) := by decide +kernel
theorem pd26 : parseMethodDescriptor "(I)[Ljava/lang/Object;" = some ⟨[.int], some (.array (.object "java/lang/Object"))⟩ := by decide +kernel
def QG0 (Z : State) (a dE : Addr) (kD : ClassId) (mc : Int32) (h0 : Heap) (n0 : Nat) (v : Option Value) (h : Heap) (L : List Loc) : Prop := ∃ (b : Addr) (kE : ClassId), v = some (.ref b) ∧ Fr n0 L ∧ Keep h0 h [a] ∧ h0.size ≤ b ∧ n0 ≤ b ∧ F_2 Z h a (.int mc) ∧ F_3 Z h a (.ref b) ∧ F_4 Z h a (.int 0) ∧ Arv Z h b kE (.object "java/lang/Object") 10 [.null, .null, .null, .null, .null, .null, .null, .null, .null, .null] .null ∧ Ovr Z kE "java/lang/Object" ∧ X_2 Z h b
theorem rmG0 (hw : HW a0 Z) (a dE : Addr) (kD : ClassId) (mc : Int32) (Z0 : n0 ≤ h0.size) (Ea : X_1 Z h0 a) (ga : n0 ≤ a) (Fm : F_2 Z h0 a (.int mc)) (Fe : F_3 Z h0 a (.ref dE)) (Fs : F_4 Z h0 a (.int 0)) (Sde : S_5 Z h0 (.ref dE)) (Ade : Arv Z h0 dE kD (.object "java/lang/Object") 0 [] .null) (nad : a ≠ dE) :
  QMg l Z mN44 jdk_38_method_7_code 1 (some (.array (.object "java/lang/Object"))) ws (rM 2 1 10 29) #[(.ref a)] h0 (QG0 Z a dE kD mc h0 n0) := by
 refine bodyN (pfn pn7) (Ls := #[rv a]) (fun _ => rfl) ?_
 intro p e s m below meth c s₁ hx hby hlk hret hml hown hnm hZ hh X0 e0
 have D := @db _ _ _ hby Dj38_7
 have K0 : Keep h0 h0 [a] := Keep.refl _ _
 show Gt s₁ m 0 _ []
 refine aN X0 hx (D 0 rfl) ?_ rfl rfl
 refine aN X0 hx (D 1 rfl) ?_ rfl rfl
 refine qGF X0 hx hZ hown (hw 214 rfl) Via.refl e0 Fs (D 2 rfl) ?_
 intro T1 X1 e1
 refine giconst X1 hx (D 3 rfl) ?_
 refine giadd X1 hx (D 4 rfl) ?_
 show Gt T1 m 7 _ [(.int ((0 : Int32) + (1 : Int32))), (.ref a)]
 rw [show ((0 : Int32) + (1 : Int32)) = (1 : Int32) from by decide]
 refine qP X1 hx hZ hown (hw 226 rfl) (hw 227 rfl) (hw 98 rfl) (hw 228 rfl) (hw 230 rfl) (hw 99 rfl) (rmG1 l hw a dE kD mc Z0 Ea ga Fm Fe Fs Sde Ade nad) e1 Ea (by decide) (W := 0) (Nat.le_of_eq rfl) hml.symm (D 5 rfl) pd26 rfl (argsL := [(.int 1)]) (rest := []) rfl rfl ?_
 rintro T2 L2 v2 X2 ⟨bE2, kE2, rfl, N2q, K2, szq2, loq2, R2_0, R2_1, R2_2, VE2, OE2, XE2⟩
 have KK3 := K0.trans K2 (allS (Or.inl (mI 0 rfl)) all0)
 have sz_bE2 := lT K0.1 szq2
 have Z2 := lT Z0 K2.1
 have N2 := Fr.app (Fr.nil n0) N2q
 refine rA X2 hx hret (D 6 rfl) hlk ?_ rfl rfl rfl (by decide) (by decide)
 exact ⟨bE2, kE2, rfl, N2, KK3, sz_bE2, loq2, R2_0, R2_1, R2_2, VE2, OE2, XE2⟩
theorem Dj38_24 : ∀ q ∈ ([(0, .iload_n 3, 1), (1, .aload_n 2, 1), (2, .arraylength, 1), (3, .if_icmp .ne 8, 3), (6, .aload_n 0, 1), (7, .invokevirtual 129, 3), (10, .astore_n 2, 1), (11, .aload_n 2, 1), (12, .iload_n 3, 1), (13, .aload_n 1, 1), (14, .aastore, 1), (15, .aload_n 0, 1), (16, .iload_n 3, 1), (17, .iconst 1, 1), (18, .iadd, 1), (19, .putfield 48, 3), (22, .return_, 1)] : List (Nat × Instr × Nat)), decode jdk_38_method_24_code q.1 = .ok (q.2.1, q.2.2) := by decide +kernel
theorem pd27 : parseMethodDescriptor "()[Ljava/lang/Object;" = some ⟨[], some (.array (.object "java/lang/Object"))⟩ := by decide +kernel
def QA30 (Z : State) (a dE : Addr) (kD : ClassId) (mc : Int32) (ra : Addr) (h0 : Heap) (n0 : Nat) (v : Option Value) (h : Heap) (L : List Loc) : Prop := ∃ (b : Addr) (kE : ClassId), v = none ∧ Fr n0 L ∧ Keep h0 h [a] ∧ h0.size ≤ b ∧ n0 ≤ b ∧ F_2 Z h a (.int mc) ∧ F_3 Z h a (.ref b) ∧ F_4 Z h a (.int 1) ∧ Arv Z h b kE (.object "java/lang/Object") 10 [(.ref ra), .null, .null, .null, .null, .null, .null, .null, .null, .null] .null ∧ Ovr Z kE "java/lang/Object" ∧ X_2 Z h b
theorem rmA30 (hw : HW a0 Z) (a dE : Addr) (kD : ClassId) (mc : Int32) (ra : Addr) (Z0 : n0 ≤ h0.size) (Ea : X_1 Z h0 a) (ga : n0 ≤ a) (Fm : F_2 Z h0 a (.int mc)) (Fe : F_3 Z h0 a (.ref dE)) (Fs : F_4 Z h0 a (.int 0)) (Sde : S_5 Z h0 (.ref dE)) (Ade : Arv Z h0 dE kD (.object "java/lang/Object") 0 [] .null) (nad : a ≠ dE) (Ej : X_0 Z h0 ra) :
  QMg l Z mN45 jdk_38_method_24_code 4 none ws (rM 3 1 10 41) #[(.ref a), (.ref ra), (.ref dE), (.int 0)] h0 (QA30 Z a dE kD mc ra h0 n0) := by
 refine bodyN (pfn pn7) (Ls := #[rv a, rv ra, rv dE, iv 0]) (fun _ => rfl) ?_
 intro p e s m below meth c s₁ hx hby hlk hret hml hown hnm hZ hh X0 e0
 have D := @db _ _ _ hby Dj38_24
 have K0 : Keep h0 h0 [a] := Keep.refl _ _
 show Gt s₁ m 0 _ []
 refine jN X0 hx (D 0 rfl) ?_ rfl
 refine aN X0 hx (D 1 rfl) ?_ rfl rfl
 refine qAL X0 hx hZ e0 Ade (D 2 rfl) ?_
 refine gicmpNo X0 hx (D 3 rfl) (by decide) ?_
 refine aN X0 hx (D 4 rfl) ?_ rfl rfl
 refine qP X0 hx hZ hown (hw 221 rfl) (hw 222 rfl) (hw 98 rfl) (hw 223 rfl) (hw 225 rfl) (hw 99 rfl) (rmG0 l hw a dE kD mc Z0 Ea ga Fm Fe Fs Sde Ade nad) e0 Ea (by decide) (W := 0) (Nat.le_of_eq rfl) hml.symm (D 5 rfl) pd27 rfl (argsL := []) (rest := []) rfl rfl ?_
 rintro T2 L2 v2 X2 ⟨bE2, kE2, rfl, N2q, K2, szq2, loq2, R2_0, R2_1, R2_2, VE2, OE2, XE2⟩
 have KK3 := K0.trans K2 (allS (Or.inl (mI 0 rfl)) all0)
 have sz_bE2 := lT K0.1 szq2
 have Z2 := lT Z0 K2.1
 have N2 := Fr.app (Fr.nil n0) N2q
 refine gastoreN X2 hx (D 6 rfl) rfl (l' := #[rv a, rv ra, rv bE2, iv 0]) rfl ?_
 refine aN X2 hx (D 7 rfl) ?_ rfl rfl
 refine jN X2 hx (D 8 rfl) ?_ rfl
 show Gt T2 m 13 _ [(.int 0), (.ref bE2)]
 refine aN X2 hx (D 9 rfl) ?_ rfl rfl
 show Gt T2 m 14 _ [(.ref ra), (.int 0), (.ref bE2)]
 have f4 := (Ej.keep K2)
 obtain ⟨cl5, Ar5, qk5, Sz5, qz5, Ha5, Gf5⟩ := id VE2
 obtain ⟨T5, h5, X5, e5, W5, st5⟩ := stR X2 hx hZ rfl Ar5 (inb_of Sz5 ⟨by decide, by decide⟩) rfl (Sto.ofV Ar5 qk5 OE2 (Ins.of_exa f4 (hw 236 rfl))) (g := (mkF m 14 #[rv a, rv ra, rv bE2, iv 0] [(.ref ra), (.int 0), (.ref bE2)])) rfl rfl (D 10 rfl)
 have N5 := Fr.snoc X5 N2 loq2
 have V5 : Arv Z h5 bE2 kE2 (.object "java/lang/Object") 10 [(.ref ra), .null, .null, .null, .null, .null, .null, .null, .null, .null] .null := Arv.set Ar5 qk5 Sz5 qz5 Ha5 Gf5 rfl W5 0 (by decide) (by simp)
 refine Goes.st st5 ?_
 have KK6 := KK3.wr W5 (Or.inr sz_bE2)
 have Z5 : n0 ≤ h5.size := by have := W5.size; have := Z2; omega
 refine aN X5 hx (D 11 rfl) ?_ rfl rfl
 refine jN X5 hx (D 12 rfl) ?_ rfl
 refine giconst X5 hx (D 13 rfl) ?_
 refine giadd X5 hx (D 14 rfl) ?_
 show Gt T5 m 19 #[rv a, rv ra, rv bE2, iv 0] [(.int ((0 : Int32) + (1 : Int32))), (.ref a)]
 rw [show ((0 : Int32) + (1 : Int32)) = (1 : Int32) from by decide]
 have ne8 := neL Ea.lt szq2
 have f9 := (R2_2.other W5 (Or.inl ne8))
 have f10 := (Ea.keep KK6)
 refine qPF X5 hx hZ hown (hw 214 rfl) Via.refl e5 f9 f10 (Or.inl (hw 215 rfl)) (hw 98 rfl) (ty := .int) (by decide) rfl rfl (D 15 rfl) N5 ga Z5 ?_
 intro T7 h7 L7 X7 e7 W7 N7 G7 Z7
 have KK11 := KK6.wr W7 (Or.inl (mI 0 rfl))
 have f12 := (V5.other W7 ne8.symm)
 have f13 := ((R2_0.other W5 (Or.inl ne8)).other W7 (Or.inr (slot_ne (Or.inl (hw 117 rfl)) (Or.inl (hw 215 rfl)) (by decide) (t := .int) (t' := .int) (by decide) (by decide))))
 have f14 := ((R2_1.other W5 (Or.inl ne8)).other W7 (Or.inr (slot_ne (Or.inl (hw 120 rfl)) (Or.inl (hw 215 rfl)) (by decide) (t := (.array (.object "java/lang/Object"))) (t' := .int) (by decide) (by decide))))
 have f15 := ((XE2.wr W5).wr W7)
 refine rV X7 hx hret (D 16 rfl) hlk ?_ (by decide) (by decide)
 rw [e7]
 exact ⟨bE2, kE2, rfl, N7, KK11, sz_bE2, loq2, f13, f14, G7, f12, OE2, f15⟩
theorem Dj38_25 : ∀ q ∈ ([(0, .aload_n 0, 1), (1, .dup, 1), (2, .getfield 63, 3), (5, .iconst 1, 1), (6, .iadd, 1), (7, .putfield 63, 3), (10, .aload_n 0, 1), (11, .aload_n 1, 1), (12, .aload_n 0, 1), (13, .getfield 9, 3), (16, .aload_n 0, 1), (17, .getfield 48, 3), (20, .invokevirtual 131, 3), (23, .iconst 1, 1), (24, .ireturn, 1)] : List (Nat × Instr × Nat)), decode jdk_38_method_25_code q.1 = .ok (q.2.1, q.2.2) := by decide +kernel
theorem pd28 : parseMethodDescriptor "(Ljava/lang/Object;[Ljava/lang/Object;I)V" = some ⟨[(.object "java/lang/Object"), (.array (.object "java/lang/Object")), .int], none⟩ := by decide +kernel
def QA10 (Z : State) (a dE : Addr) (kD : ClassId) (mc : Int32) (ra : Addr) (h0 : Heap) (n0 : Nat) (v : Option Value) (h : Heap) (L : List Loc) : Prop := ∃ (b : Addr) (kE : ClassId), v = some (.int 1) ∧ Fr n0 L ∧ Keep h0 h [a] ∧ h0.size ≤ b ∧ n0 ≤ b ∧ F_2 Z h a (.int (mc + (1 : Int32))) ∧ F_3 Z h a (.ref b) ∧ F_4 Z h a (.int 1) ∧ Arv Z h b kE (.object "java/lang/Object") 10 [(.ref ra), .null, .null, .null, .null, .null, .null, .null, .null, .null] .null ∧ Ovr Z kE "java/lang/Object" ∧ X_2 Z h b
theorem rmA10 (hw : HW a0 Z) (a dE : Addr) (kD : ClassId) (mc : Int32) (ra : Addr) (Z0 : n0 ≤ h0.size) (Ea : X_1 Z h0 a) (ga : n0 ≤ a) (Fm : F_2 Z h0 a (.int mc)) (Fe : F_3 Z h0 a (.ref dE)) (Fs : F_4 Z h0 a (.int 0)) (Sde : S_5 Z h0 (.ref dE)) (Ade : Arv Z h0 dE kD (.object "java/lang/Object") 0 [] .null) (nad : a ≠ dE) (Ej : X_0 Z h0 ra) :
  QMg l Z mN46 jdk_38_method_25_code 2 (some .boolean) ws (rM 4 1 10 56) #[(.ref a), (.ref ra)] h0 (QA10 Z a dE kD mc ra h0 n0) := by
 refine bodyN (pfn pn7) (Ls := #[rv a, rv ra]) (fun _ => rfl) ?_
 intro p e s m below meth c s₁ hx hby hlk hret hml hown hnm hZ hh X0 e0
 have D := @db _ _ _ hby Dj38_25
 have K0 : Keep h0 h0 [a] := Keep.refl _ _
 show Gt s₁ m 0 _ []
 refine aN X0 hx (D 0 rfl) ?_ rfl rfl
 refine gdup X0 hx (D 1 rfl) rfl ?_
 refine qGF X0 hx hZ hown (hw 212 rfl) (Via.of (hw 213 rfl)) e0 Fm (D 2 rfl) ?_
 intro T1 X1 e1
 refine giconst X1 hx (D 3 rfl) ?_
 refine giadd X1 hx (D 4 rfl) ?_
 refine qPF X1 hx hZ hown (hw 212 rfl) (Via.of (hw 213 rfl)) e1 Fm Ea (Or.inl (hw 117 rfl)) (hw 98 rfl) (ty := .int) (by decide) rfl rfl (D 5 rfl) (Fr.nil n0) ga Z0 ?_
 intro T2 h2 L2 X2 e2 W2 N2 G2 Z2
 have KK3 := K0.wr W2 (Or.inl (mI 0 rfl))
 refine aN X2 hx (D 6 rfl) ?_ rfl rfl
 refine aN X2 hx (D 7 rfl) ?_ rfl rfl
 refine aN X2 hx (D 8 rfl) ?_ rfl rfl
 show Gt T2 m 13 _ [(.ref a), (.ref ra), (.ref a)]
 have f5 := (Fe.other W2 (Or.inr (slot_ne (Or.inl (hw 120 rfl)) (Or.inl (hw 117 rfl)) (by decide) (t := (.array (.object "java/lang/Object"))) (t' := .int) (by decide) (by decide))))
 refine qGF X2 hx hZ hown (hw 119 rfl) Via.refl e2 f5 (D 9 rfl) ?_
 intro T4 X4 e4
 refine aN X4 hx (D 10 rfl) ?_ rfl rfl
 have f7 := (Fs.other W2 (Or.inr (slot_ne (Or.inl (hw 215 rfl)) (Or.inl (hw 117 rfl)) (by decide) (t := .int) (t' := .int) (by decide) (by decide))))
 refine qGF X4 hx hZ hown (hw 214 rfl) Via.refl e4 f7 (D 11 rfl) ?_
 intro T6 X6 e6
 have f8 := (Ea.wr W2)
 have f9 := (Sde.wr W2)
 have f10 := (Ade.other W2 nad.symm)
 have f11 := (Ej.wr W2)
 refine qP X6 hx hZ hown (hw 216 rfl) (hw 217 rfl) (hw 98 rfl) (hw 218 rfl) (hw 220 rfl) (hw 99 rfl) (rmA30 l hw a dE kD (mc + (1 : Int32)) ra Z2 f8 ga G2 f5 f7 f9 f10 nad f11) e6 f8 (by decide) (W := 0) (Nat.le_of_eq rfl) hml.symm (D 12 rfl) pd28 rfl (argsL := [(.ref ra), (.ref dE), (.int 0)]) (rest := []) rfl rfl ?_
 rintro T12 L12 v12 X12 ⟨bE12, kE12, rfl, N12q, K12, szq12, loq12, R12_0, R12_1, R12_2, VE12, OE12, XE12⟩
 have KK13 := KK3.trans K12 (allS (Or.inl (mI 0 rfl)) all0)
 have sz_bE12 := lT KK3.1 szq12
 have Z12 := lT Z2 K12.1
 have N12 := Fr.app N2 N12q
 refine giconst X12 hx (D 13 rfl) ?_
 refine rN X12 hx hret (D 14 rfl) (by decide) hlk ?_ (by simp) (by decide) (by decide)
 exact ⟨bE12, kE12, rfl, N12, KK13, sz_bE12, loq12, R12_0, R12_1, R12_2, VE12, OE12, XE12⟩
def QA31 (Z : State) (a eD : Addr) (kE : ClassId) (mc : Int32) (j0 : Addr) (ra : Addr) (h0 : Heap) (n0 : Nat) (v : Option Value) (h : Heap) (L : List Loc) : Prop := v = none ∧ Fr n0 L ∧ Keep h0 h [a, eD] ∧ F_2 Z h a (.int mc) ∧ F_3 Z h a (.ref eD) ∧ F_4 Z h a (.int 2) ∧ Arv Z h eD kE (.object "java/lang/Object") 10 [(.ref j0), (.ref ra), .null, .null, .null, .null, .null, .null, .null, .null] .null
theorem rmA31 (hw : HW a0 Z) (a eD : Addr) (kE : ClassId) (mc : Int32) (j0 : Addr) (ra : Addr) (Z0 : n0 ≤ h0.size) (Ea : X_1 Z h0 a) (ga : n0 ≤ a) (Fm : F_2 Z h0 a (.int mc)) (Fe : F_3 Z h0 a (.ref eD)) (Fs : F_4 Z h0 a (.int 1)) (Aed : Arv Z h0 eD kE (.object "java/lang/Object") 10 [(.ref j0), .null, .null, .null, .null, .null, .null, .null, .null, .null] .null) (Oed : Ovr Z kE "java/lang/Object") (ged : n0 ≤ eD) (nad : a ≠ eD) (Ej : X_0 Z h0 ra) :
  QMg l Z mN45 jdk_38_method_24_code 4 none ws (rM 0 0 0 0) #[(.ref a), (.ref ra), (.ref eD), (.int 1)] h0 (QA31 Z a eD kE mc j0 ra h0 n0) := by
 refine bodyN (pfn pn7) (Ls := #[rv a, rv ra, rv eD, iv 1]) (fun _ => rfl) ?_
 intro p e s m below meth c s₁ hx hby hlk hret hml hown hnm hZ hh X0 e0
 have D := @db _ _ _ hby Dj38_24
 have K0 : Keep h0 h0 [a, eD] := Keep.refl _ _
 show Gt s₁ m 0 _ []
 refine jN X0 hx (D 0 rfl) ?_ rfl
 refine aN X0 hx (D 1 rfl) ?_ rfl rfl
 refine qAL X0 hx hZ e0 Aed (D 2 rfl) ?_
 refine gY X0 hx (pc := 3) (pc' := 11) (D 3 rfl) (by decide) ?_ (by decide) (by decide)
 refine aN X0 hx (D 7 rfl) ?_ rfl rfl
 refine jN X0 hx (D 8 rfl) ?_ rfl
 refine aN X0 hx (D 9 rfl) ?_ rfl rfl
 show Gt s₁ m 14 _ [(.ref ra), (.int 1), (.ref eD)]
 obtain ⟨cl2, Ar2, qk2, Sz2, qz2, Ha2, Gf2⟩ := id Aed
 obtain ⟨T2, h2, X2, e2, W2, st2⟩ := stR X0 hx hZ e0 Ar2 (inb_of Sz2 ⟨by decide, by decide⟩) rfl (Sto.ofV Ar2 qk2 Oed (Ins.of_exa Ej (hw 236 rfl))) (g := (mkF m 14 #[rv a, rv ra, rv eD, iv 1] [(.ref ra), (.int 1), (.ref eD)])) rfl rfl (D 10 rfl)
 have N2 := Fr.snoc X2 (Fr.nil n0) ged
 have V2 : Arv Z h2 eD kE (.object "java/lang/Object") 10 [(.ref j0), (.ref ra), .null, .null, .null, .null, .null, .null, .null, .null] .null := Arv.set Ar2 qk2 Sz2 qz2 Ha2 Gf2 rfl W2 1 (by decide) (by simp)
 refine Goes.st st2 ?_
 have KK3 := K0.wr W2 (Or.inl (mI 1 rfl))
 have Z2 : n0 ≤ h2.size := by have := W2.size; have := Z0; omega
 refine aN X2 hx (D 11 rfl) ?_ rfl rfl
 refine jN X2 hx (D 12 rfl) ?_ rfl
 refine giconst X2 hx (D 13 rfl) ?_
 refine giadd X2 hx (D 14 rfl) ?_
 show Gt T2 m 19 #[rv a, rv ra, rv eD, iv 1] [(.int ((1 : Int32) + (1 : Int32))), (.ref a)]
 rw [show ((1 : Int32) + (1 : Int32)) = (2 : Int32) from by decide]
 have f5 := (Fs.other W2 (Or.inl nad))
 have f6 := (Ea.wr W2)
 refine qPF X2 hx hZ hown (hw 214 rfl) Via.refl e2 f5 f6 (Or.inl (hw 215 rfl)) (hw 98 rfl) (ty := .int) (by decide) rfl rfl (D 15 rfl) N2 ga Z2 ?_
 intro T4 h4 L4 X4 e4 W4 N4 G4 Z4
 have KK7 := KK3.wr W4 (Or.inl (mI 0 rfl))
 have f8 := ((Fm.other W2 (Or.inl nad)).other W4 (Or.inr (slot_ne (Or.inl (hw 117 rfl)) (Or.inl (hw 215 rfl)) (by decide) (t := .int) (t' := .int) (by decide) (by decide))))
 have f9 := ((Fe.other W2 (Or.inl nad)).other W4 (Or.inr (slot_ne (Or.inl (hw 120 rfl)) (Or.inl (hw 215 rfl)) (by decide) (t := (.array (.object "java/lang/Object"))) (t' := .int) (by decide) (by decide))))
 have f10 := (V2.other W4 nad.symm)
 refine rV X4 hx hret (D 16 rfl) hlk ?_ (by decide) (by decide)
 rw [e4]
 exact ⟨rfl, N4, KK7, f8, f9, G4, f10⟩
def QA11 (Z : State) (a eD : Addr) (kE : ClassId) (mc : Int32) (j0 : Addr) (ra : Addr) (h0 : Heap) (n0 : Nat) (v : Option Value) (h : Heap) (L : List Loc) : Prop := v = some (.int 1) ∧ Fr n0 L ∧ Keep h0 h [a, eD] ∧ F_2 Z h a (.int (mc + (1 : Int32))) ∧ F_3 Z h a (.ref eD) ∧ F_4 Z h a (.int 2) ∧ Arv Z h eD kE (.object "java/lang/Object") 10 [(.ref j0), (.ref ra), .null, .null, .null, .null, .null, .null, .null, .null] .null
theorem rmA11 (hw : HW a0 Z) (a eD : Addr) (kE : ClassId) (mc : Int32) (j0 : Addr) (ra : Addr) (Z0 : n0 ≤ h0.size) (Ea : X_1 Z h0 a) (ga : n0 ≤ a) (Fm : F_2 Z h0 a (.int mc)) (Fe : F_3 Z h0 a (.ref eD)) (Fs : F_4 Z h0 a (.int 1)) (Aed : Arv Z h0 eD kE (.object "java/lang/Object") 10 [(.ref j0), .null, .null, .null, .null, .null, .null, .null, .null, .null] .null) (Oed : Ovr Z kE "java/lang/Object") (ged : n0 ≤ eD) (nad : a ≠ eD) (Ej : X_0 Z h0 ra) :
  QMg l Z mN46 jdk_38_method_25_code 2 (some .boolean) ws (rM 1 0 0 15) #[(.ref a), (.ref ra)] h0 (QA11 Z a eD kE mc j0 ra h0 n0) := by
 refine bodyN (pfn pn7) (Ls := #[rv a, rv ra]) (fun _ => rfl) ?_
 intro p e s m below meth c s₁ hx hby hlk hret hml hown hnm hZ hh X0 e0
 have D := @db _ _ _ hby Dj38_25
 have K0 : Keep h0 h0 [a, eD] := Keep.refl _ _
 show Gt s₁ m 0 _ []
 refine aN X0 hx (D 0 rfl) ?_ rfl rfl
 refine gdup X0 hx (D 1 rfl) rfl ?_
 refine qGF X0 hx hZ hown (hw 212 rfl) (Via.of (hw 213 rfl)) e0 Fm (D 2 rfl) ?_
 intro T1 X1 e1
 refine giconst X1 hx (D 3 rfl) ?_
 refine giadd X1 hx (D 4 rfl) ?_
 refine qPF X1 hx hZ hown (hw 212 rfl) (Via.of (hw 213 rfl)) e1 Fm Ea (Or.inl (hw 117 rfl)) (hw 98 rfl) (ty := .int) (by decide) rfl rfl (D 5 rfl) (Fr.nil n0) ga Z0 ?_
 intro T2 h2 L2 X2 e2 W2 N2 G2 Z2
 have KK3 := K0.wr W2 (Or.inl (mI 0 rfl))
 refine aN X2 hx (D 6 rfl) ?_ rfl rfl
 refine aN X2 hx (D 7 rfl) ?_ rfl rfl
 refine aN X2 hx (D 8 rfl) ?_ rfl rfl
 show Gt T2 m 13 _ [(.ref a), (.ref ra), (.ref a)]
 have f5 := (Fe.other W2 (Or.inr (slot_ne (Or.inl (hw 120 rfl)) (Or.inl (hw 117 rfl)) (by decide) (t := (.array (.object "java/lang/Object"))) (t' := .int) (by decide) (by decide))))
 refine qGF X2 hx hZ hown (hw 119 rfl) Via.refl e2 f5 (D 9 rfl) ?_
 intro T4 X4 e4
 refine aN X4 hx (D 10 rfl) ?_ rfl rfl
 have f7 := (Fs.other W2 (Or.inr (slot_ne (Or.inl (hw 215 rfl)) (Or.inl (hw 117 rfl)) (by decide) (t := .int) (t' := .int) (by decide) (by decide))))
 refine qGF X4 hx hZ hown (hw 214 rfl) Via.refl e4 f7 (D 11 rfl) ?_
 intro T6 X6 e6
 have f8 := (Ea.wr W2)
 have f9 := (Aed.other W2 nad.symm)
 have f10 := (Ej.wr W2)
 refine qP X6 hx hZ hown (hw 216 rfl) (hw 217 rfl) (hw 98 rfl) (hw 218 rfl) (hw 220 rfl) (hw 99 rfl) (rmA31 l hw a eD kE (mc + (1 : Int32)) j0 ra Z2 f8 ga G2 f5 f7 f9 Oed ged nad f10) e6 f8 (by decide) (W := 0) (Nat.le_of_eq rfl) hml.symm (D 12 rfl) pd28 rfl (argsL := [(.ref ra), (.ref eD), (.int 1)]) (rest := []) rfl rfl ?_
 rintro T11 L11 v11 X11 ⟨rfl, N11q, K11, R11_0, R11_1, R11_2, VE11⟩
 have KK12 := KK3.trans K11 (allS (Or.inl (mI 0 rfl)) (allS (Or.inl (mI 1 rfl)) all0))
 have Z11 := lT Z2 K11.1
 have N11 := Fr.app N2 N11q
 refine giconst X11 hx (D 13 rfl) ?_
 refine rN X11 hx hret (D 14 rfl) (by decide) hlk ?_ (by simp) (by decide) (by decide)
 exact ⟨rfl, N11, KK12, R11_0, R11_1, R11_2, VE11⟩
theorem Dj38_9 : ∀ q ∈ ([(0, .aload_n 0, 1), (1, .getfield 48, 3), (4, .ifCond .ne 7, 3), (7, .iconst 1, 1), (8, .goto 4, 3), (11, .iconst 0, 1), (12, .ireturn, 1)] : List (Nat × Instr × Nat)), decode jdk_38_method_9_code q.1 = .ok (q.2.1, q.2.2) := by decide +kernel
def QIe (Z : State) (a : Addr) (zs : Int32) (h0 : Heap) (n0 : Nat) (v : Option Value) (h : Heap) (L : List Loc) : Prop := v = some (.int 0) ∧ Fr n0 L ∧ h = h0
theorem rmIe (hw : HW a0 Z) (a : Addr) (zs : Int32) (Z0 : n0 ≤ h0.size) (Fs : F_4 Z h0 a (.int zs)) (hzs : ¬ zs = (0 : Int32)) :
  QMg l Z mN47 jdk_38_method_9_code 1 (some .boolean) ws (rM 0 0 0 0) #[(.ref a)] h0 (QIe Z a zs h0 n0) := by
 refine bodyN (pfn pn7) (Ls := #[rv a]) (fun _ => rfl) ?_
 intro p e s m below meth c s₁ hx hby hlk hret hml hown hnm hZ hh X0 e0
 have D := @db _ _ _ hby Dj38_9
 show Gt s₁ m 0 _ []
 refine aN X0 hx (D 0 rfl) ?_ rfl rfl
 refine qGF X0 hx hZ hown (hw 214 rfl) Via.refl e0 Fs (D 1 rfl) ?_
 intro T1 X1 e1
 refine gT X1 hx (pc := 4) (pc' := 11) (D 2 rfl) ((if0 _ _).trans (feq hzs).2) ?_ (by decide) (by decide)
 refine giconst X1 hx (D 5 rfl) ?_
 refine rN X1 hx hret (D 6 rfl) (by decide) hlk ?_ (by simp) (by decide) (by decide)
 rw [e1]
 exact ⟨rfl, (Fr.nil n0), rfl⟩
theorem Dj65_120 : ∀ q ∈ ([(0, .aload_n 2, 1), (1, .ldc 110, 2), (3, .if_acmp .ne 10, 3), (6, .iload_n 1, 1), (7, .anewarray 2, 3), (10, .goto 14, 3), (24, .astore_n 3, 1), (25, .aload_n 0, 1), (26, .iconst 0, 1), (27, .aload_n 3, 1), (28, .iconst 0, 1), (29, .aload_n 0, 1), (30, .arraylength, 1), (31, .iload_n 1, 1), (32, .invokestatic 304, 3), (35, .invokestatic 150, 3), (38, .aload_n 3, 1), (39, .areturn, 1)] : List (Nat × Instr × Nat)), decode jdk_65_method_120_code q.1 = .ok (q.2.1, q.2.2) := by decide +kernel
def QCp1 (Z : State) (eD : Addr) (kE : ClassId) (j0 mO : Addr) (h0 : Heap) (n0 : Nat) (v : Option Value) (h : Heap) (L : List Loc) : Prop := ∃ (b : Addr) (kF : ClassId), v = some (.ref b) ∧ Fr n0 L ∧ Keep h0 h [] ∧ h0.size ≤ b ∧ n0 ≤ b ∧ Arv Z h b kF (.object "java/lang/Object") 1 [(.ref j0)] .null
theorem rmCp1 (hw : HW a0 Z) (eD : Addr) (kE : ClassId) (j0 mO : Addr) (Z0 : n0 ≤ h0.size) (Aed : Arv Z h0 eD kE (.object "java/lang/Object") 10 [(.ref j0), .null, .null, .null, .null, .null, .null, .null, .null, .null] .null) (Xed : X_2 Z h0 eD) (Ej0 : X_0 Z h0 j0) (Mo : Mir Z "[Ljava/lang/Object;" mO) :
  QMg l Z mN48 jdk_65_method_120_code 4 (some (.array (.object "java/lang/Object"))) ws (rM 1 1 1 29) #[(.ref eD), (.int 1), (.ref mO)] h0 (QCp1 Z eD kE j0 mO h0 n0) := by
 refine bodyN (pfn pn4) (Ls := #[rv eD, iv 1, rv mO, .unset]) (fun _ => rfl) ?_
 intro p e s m below meth c s₁ hx hby hlk hret hml hown hnm hZ hh X0 e0
 have D := @db _ _ _ hby Dj65_120
 have K0 : Keep h0 h0 [] := Keep.refl _ _
 show Gt s₁ m 0 _ []
 refine aN X0 hx (D 0 rfl) ?_ rfl rfl
 show Gt s₁ m 1 _ [(.ref mO)]
 refine qLM X0 hx hZ hown (hw 278 rfl) Mo e0 (D 1 rfl) ?_
 intro T1 X1 e1
 show Gt T1 m 3 _ [(.ref mO), (.ref mO)]
 refine Goes.st (fun tg kg => XT.acmpNo X1.here hx rfl (D 2 rfl) rfl rfl rfl (XT.aa_ne_f (rfl : ((.ref mO) : Value) = (.ref mO))) kg) ?_
 refine jN X1 hx (D 3 rfl) ?_ rfl
 show Gt T1 m 7 #[rv eD, iv 1, rv mO, .unset] [(.int 1)]
 obtain ⟨T2, h2, cA2, X2, e2, E2, A2, EA2, OV2, st2⟩ := newRE X1 hx hZ hown (C := "java/lang/Object") (hw 279 rfl) (hw 235 rfl) e1 (g := (mkF m 7 #[rv eD, iv 1, rv mO, .unset] [(.int 1)])) rfl (D 4 rfl) rfl (by decide) (cap := 1) (by decide) (by decide) (by decide) (by decide) (ad := "[Ljava/lang/Object;") (by decide)
 obtain ⟨b2, g2⟩ : ∃ z, z = h0.size := ⟨_, rfl⟩
 rw [← g2] at A2 EA2 st2
 have lo_b2 := loB Z0 g2
 have sz_b2 := loB K0.1 g2
 have KK3 := K0.ext E2
 have V2 : Arv Z h2 b2 cA2 (.object "java/lang/Object") 1 [.null] .null := (Arv.new A2 (by decide)).pad (pad_rep [] _ 1)
 refine Goes.st st2 ?_
 have Z2 := lT Z0 E2.1
 refine gG X2 hx (pc := 10) (pc' := 24) (D 5 rfl) ?_ (by decide) (by decide)
 refine gastoreN X2 hx (D 6 rfl) rfl (l' := #[rv eD, iv 1, rv mO, rv b2]) rfl ?_
 refine aN X2 hx (D 7 rfl) ?_ rfl rfl
 refine giconst X2 hx (D 8 rfl) ?_
 refine aN X2 hx (D 9 rfl) ?_ rfl rfl
 refine giconst X2 hx (D 10 rfl) ?_
 refine aN X2 hx (D 11 rfl) ?_ rfl rfl
 have f4 := (Aed.ext E2)
 refine qAL X2 hx hZ e2 f4 (D 12 rfl) ?_
 show Gt T2 m 31 _ [(.int 10), (.int 0), (.ref b2), (.int 0), (.ref eD)]
 refine jN X2 hx (D 13 rfl) ?_ rfl
 refine zS X2 hx hZ hown hw 192 193 195 194 (rmMn l hw (10 : Int32) (1 : Int32) Z2 (by decide)) e2 hml (D 14 rfl) pd14 (W := 4) (rest := [(.int 0), (.ref b2), (.int 0), (.ref eD)]) ?_ rfl rfl rfl rfl (by decide) (lq rfl) rfl rfl rfl
 rintro T6 L6 v6 X6 ⟨rfl, N6q, eh6⟩
 have N6 := Fr.app (Fr.nil n0) N6q
 obtain ⟨cl7, Ar7, qk7, -⟩ := id V2
 have f8 := (Ej0.ext E2)
 obtain ⟨T7, h7, L7, X7, e7, N7, K7, V7_, st7⟩ := cpA X6 hx hZ hown (hw 196 rfl) (hw 199 rfl) (hw 197 rfl) (hw 198 rfl) eh6 f4 V2 (sp := (0 : Int32)) (dp := (0 : Int32)) (nn := (1 : Int32)) (Or.inr ⟨rfl, rfl, ⟨Sto.ofV Ar7 qk7 OV2 (Ins.of_exa f8 (hw 236 rfl)), trivial⟩⟩) (us := [(.ref j0)]) (by decide) (by decide) (by decide) (by decide) (by decide) rfl (by decide) N6 lo_b2 (g := (mkF m 35 #[rv eD, iv 1, rv mO, rv b2] [(.int 1), (.int 0), (.ref b2), (.int 0), (.ref eD)])) rfl hml.symm rfl (D 15 rfl) (by decide) (W := 0) (by show 2 * 0 + _ ≤ _; exact Nat.le_of_eq rfl) (by decide)
 have V7 : Arv Z h7 b2 cA2 (.object "java/lang/Object") 1 [(.ref j0)] .null := V7_
 refine Goes.st st7 ?_
 have KK9 := KK3.trans K7 (allS (Or.inr sz_b2) all0)
 have Z7 := lT Z2 K7.1
 refine aN X7 hx (D 16 rfl) ?_ rfl rfl
 refine rA X7 hx hret (D 17 rfl) hlk ?_ rfl rfl rfl (by decide) (by decide)
 rw [e7]
 exact ⟨b2, cA2, rfl, N7, KK9, sz_b2, lo_b2, V7⟩
theorem Dj65_119 : ∀ q ∈ ([(0, .aload_n 0, 1), (1, .iload_n 1, 1), (2, .aload_n 0, 1), (3, .invokevirtual 86, 3), (6, .invokestatic 300, 3), (9, .areturn, 1)] : List (Nat × Instr × Nat)), decode jdk_65_method_119_code q.1 = .ok (q.2.1, q.2.2) := by decide +kernel
theorem pd29 : parseMethodDescriptor "([Ljava/lang/Object;ILjava/lang/Class;)[Ljava/lang/Object;" = some ⟨[(.array (.object "java/lang/Object")), .int, (.object "java/lang/Class")], some (.array (.object "java/lang/Object"))⟩ := by decide +kernel
def QCq1 (Z : State) (eD : Addr) (kE : ClassId) (j0 mO : Addr) (h0 : Heap) (n0 : Nat) (v : Option Value) (h : Heap) (L : List Loc) : Prop := ∃ (b : Addr) (kF : ClassId), v = some (.ref b) ∧ Fr n0 L ∧ Keep h0 h [] ∧ h0.size ≤ b ∧ n0 ≤ b ∧ Arv Z h b kF (.object "java/lang/Object") 1 [(.ref j0)] .null
theorem rmCq1 (hw : HW a0 Z) (eD : Addr) (kE : ClassId) (j0 mO : Addr) (Z0 : n0 ≤ h0.size) (Aed : Arv Z h0 eD kE (.object "java/lang/Object") 10 [(.ref j0), .null, .null, .null, .null, .null, .null, .null, .null, .null] .null) (Xed : X_2 Z h0 eD) (Ej0 : X_0 Z h0 j0) (Mo : Mir Z "[Ljava/lang/Object;" mO) :
  QMg l Z mN49 jdk_65_method_119_code 2 (some (.array (.object "java/lang/Object"))) ws (rM 2 1 1 44) #[(.ref eD), (.int 1)] h0 (QCq1 Z eD kE j0 mO h0 n0) := by
 refine bodyN (pfn pn4) (Ls := #[rv eD, iv 1]) (fun _ => rfl) ?_
 intro p e s m below meth c s₁ hx hby hlk hret hml hown hnm hZ hh X0 e0
 have D := @db _ _ _ hby Dj65_119
 have K0 : Keep h0 h0 [] := Keep.refl _ _
 show Gt s₁ m 0 _ []
 refine aN X0 hx (D 0 rfl) ?_ rfl rfl
 refine jN X0 hx (D 1 rfl) ?_ rfl
 refine aN X0 hx (D 2 rfl) ?_ rfl rfl
 refine qGV X0 hx hZ hown (hw 269 rfl) (hw 270 rfl) (hw 272 rfl) (hw 271 rfl) (hw 273 rfl) e0 Xed Mo (by decide) (W := 2) (Nat.le_of_eq rfl) (by decide) hml.symm (D 3 rfl) ?_
 intro T1 X1 e1
 refine zS X1 hx hZ hown hw 275 276 277 184 (rmCp1 l hw eD kE j0 mO Z0 Aed Xed Ej0 Mo) e1 hml (D 4 rfl) pd29 (W := 0) (rest := []) ?_ rfl rfl rfl rfl (by decide) (lq rfl) rfl rfl rfl
 rintro T2 L2 v2 X2 ⟨b2, kF2, rfl, N2q, K2, szq2, loq2, VF2⟩
 have KK3 := K0.trans K2 all0
 have sz_b2 := lT K0.1 szq2
 have Z2 := lT Z0 K2.1
 have N2 := Fr.app (Fr.nil n0) N2q
 refine rA X2 hx hret (D 5 rfl) hlk ?_ rfl rfl rfl (by decide) (by decide)
 exact ⟨b2, kF2, rfl, N2, KK3, sz_b2, loq2, VF2⟩
theorem Dj38_16 : ∀ q ∈ ([(0, .aload_n 0, 1), (1, .getfield 9, 3), (4, .aload_n 0, 1), (5, .getfield 48, 3), (8, .invokestatic 66, 3), (11, .areturn, 1)] : List (Nat × Instr × Nat)), decode jdk_38_method_16_code q.1 = .ok (q.2.1, q.2.2) := by decide +kernel
theorem pd30 : parseMethodDescriptor "([Ljava/lang/Object;I)[Ljava/lang/Object;" = some ⟨[(.array (.object "java/lang/Object")), .int], some (.array (.object "java/lang/Object"))⟩ := by decide +kernel
def QTa1 (Z : State) (a : Addr) (eD : Addr) (kE : ClassId) (j0 mO : Addr) (h0 : Heap) (n0 : Nat) (v : Option Value) (h : Heap) (L : List Loc) : Prop := ∃ (b : Addr) (kF : ClassId), v = some (.ref b) ∧ Fr n0 L ∧ Keep h0 h [] ∧ h0.size ≤ b ∧ n0 ≤ b ∧ Arv Z h b kF (.object "java/lang/Object") 1 [(.ref j0)] .null
theorem rmTa1 (hw : HW a0 Z) (a : Addr) (eD : Addr) (kE : ClassId) (j0 mO : Addr) (Z0 : n0 ≤ h0.size) (Fe : F_3 Z h0 a (.ref eD)) (Fs : F_4 Z h0 a (.int 1)) (Aed : Arv Z h0 eD kE (.object "java/lang/Object") 10 [(.ref j0), .null, .null, .null, .null, .null, .null, .null, .null, .null] .null) (Xed : X_2 Z h0 eD) (Ej0 : X_0 Z h0 j0) (Mo : Mir Z "[Ljava/lang/Object;" mO) :
  QMg l Z mN50 jdk_38_method_16_code 1 (some (.array (.object "java/lang/Object"))) ws (rM 3 1 1 57) #[(.ref a)] h0 (QTa1 Z a eD kE j0 mO h0 n0) := by
 refine bodyN (pfn pn7) (Ls := #[rv a]) (fun _ => rfl) ?_
 intro p e s m below meth c s₁ hx hby hlk hret hml hown hnm hZ hh X0 e0
 have D := @db _ _ _ hby Dj38_16
 have K0 : Keep h0 h0 [] := Keep.refl _ _
 show Gt s₁ m 0 _ []
 refine aN X0 hx (D 0 rfl) ?_ rfl rfl
 refine qGF X0 hx hZ hown (hw 119 rfl) Via.refl e0 Fe (D 1 rfl) ?_
 intro T1 X1 e1
 refine aN X1 hx (D 2 rfl) ?_ rfl rfl
 refine qGF X1 hx hZ hown (hw 214 rfl) Via.refl e1 Fs (D 3 rfl) ?_
 intro T2 X2 e2
 refine zS X2 hx hZ hown hw 266 267 268 184 (rmCq1 l hw eD kE j0 mO Z0 Aed Xed Ej0 Mo) e2 hml (D 4 rfl) pd30 (W := 0) (rest := []) ?_ rfl rfl rfl rfl (by decide) (lq rfl) rfl rfl rfl
 rintro T3 L3 v3 X3 ⟨b3, kF3, rfl, N3q, K3, szq3, loq3, VF3⟩
 have KK4 := K0.trans K3 all0
 have sz_b3 := lT K0.1 szq3
 have Z3 := lT Z0 K3.1
 have N3 := Fr.app (Fr.nil n0) N3q
 refine rA X3 hx hret (D 5 rfl) hlk ?_ rfl rfl rfl (by decide) (by decide)
 exact ⟨b3, kF3, rfl, N3, KK4, sz_b3, loq3, VF3⟩
def QCp2 (Z : State) (eD : Addr) (kE : ClassId) (j0 j1 mO : Addr) (h0 : Heap) (n0 : Nat) (v : Option Value) (h : Heap) (L : List Loc) : Prop := ∃ (b : Addr) (kF : ClassId), v = some (.ref b) ∧ Fr n0 L ∧ Keep h0 h [] ∧ h0.size ≤ b ∧ n0 ≤ b ∧ Arv Z h b kF (.object "java/lang/Object") 2 [(.ref j0), (.ref j1)] .null
theorem rmCp2 (hw : HW a0 Z) (eD : Addr) (kE : ClassId) (j0 j1 mO : Addr) (Z0 : n0 ≤ h0.size) (Aed : Arv Z h0 eD kE (.object "java/lang/Object") 10 [(.ref j0), (.ref j1), .null, .null, .null, .null, .null, .null, .null, .null] .null) (Xed : X_2 Z h0 eD) (Ej0 : X_0 Z h0 j0) (Ej1 : X_0 Z h0 j1) (Mo : Mir Z "[Ljava/lang/Object;" mO) :
  QMg l Z mN48 jdk_65_method_120_code 4 (some (.array (.object "java/lang/Object"))) ws (rM 1 1 2 29) #[(.ref eD), (.int 2), (.ref mO)] h0 (QCp2 Z eD kE j0 j1 mO h0 n0) := by
 refine bodyN (pfn pn4) (Ls := #[rv eD, iv 2, rv mO, .unset]) (fun _ => rfl) ?_
 intro p e s m below meth c s₁ hx hby hlk hret hml hown hnm hZ hh X0 e0
 have D := @db _ _ _ hby Dj65_120
 have K0 : Keep h0 h0 [] := Keep.refl _ _
 show Gt s₁ m 0 _ []
 refine aN X0 hx (D 0 rfl) ?_ rfl rfl
 show Gt s₁ m 1 _ [(.ref mO)]
 refine qLM X0 hx hZ hown (hw 278 rfl) Mo e0 (D 1 rfl) ?_
 intro T1 X1 e1
 show Gt T1 m 3 _ [(.ref mO), (.ref mO)]
 refine Goes.st (fun tg kg => XT.acmpNo X1.here hx rfl (D 2 rfl) rfl rfl rfl (XT.aa_ne_f (rfl : ((.ref mO) : Value) = (.ref mO))) kg) ?_
 refine jN X1 hx (D 3 rfl) ?_ rfl
 show Gt T1 m 7 #[rv eD, iv 2, rv mO, .unset] [(.int 2)]
 obtain ⟨T2, h2, cA2, X2, e2, E2, A2, EA2, OV2, st2⟩ := newRE X1 hx hZ hown (C := "java/lang/Object") (hw 279 rfl) (hw 235 rfl) e1 (g := (mkF m 7 #[rv eD, iv 2, rv mO, .unset] [(.int 2)])) rfl (D 4 rfl) rfl (by decide) (cap := 2) (by decide) (by decide) (by decide) (by decide) (ad := "[Ljava/lang/Object;") (by decide)
 obtain ⟨b2, g2⟩ : ∃ z, z = h0.size := ⟨_, rfl⟩
 rw [← g2] at A2 EA2 st2
 have lo_b2 := loB Z0 g2
 have sz_b2 := loB K0.1 g2
 have KK3 := K0.ext E2
 have V2 : Arv Z h2 b2 cA2 (.object "java/lang/Object") 2 [.null, .null] .null := (Arv.new A2 (by decide)).pad (pad_rep [] _ 2)
 refine Goes.st st2 ?_
 have Z2 := lT Z0 E2.1
 refine gG X2 hx (pc := 10) (pc' := 24) (D 5 rfl) ?_ (by decide) (by decide)
 refine gastoreN X2 hx (D 6 rfl) rfl (l' := #[rv eD, iv 2, rv mO, rv b2]) rfl ?_
 refine aN X2 hx (D 7 rfl) ?_ rfl rfl
 refine giconst X2 hx (D 8 rfl) ?_
 refine aN X2 hx (D 9 rfl) ?_ rfl rfl
 refine giconst X2 hx (D 10 rfl) ?_
 refine aN X2 hx (D 11 rfl) ?_ rfl rfl
 have f4 := (Aed.ext E2)
 refine qAL X2 hx hZ e2 f4 (D 12 rfl) ?_
 show Gt T2 m 31 _ [(.int 10), (.int 0), (.ref b2), (.int 0), (.ref eD)]
 refine jN X2 hx (D 13 rfl) ?_ rfl
 refine zS X2 hx hZ hown hw 192 193 195 194 (rmMn l hw (10 : Int32) (2 : Int32) Z2 (by decide)) e2 hml (D 14 rfl) pd14 (W := 4) (rest := [(.int 0), (.ref b2), (.int 0), (.ref eD)]) ?_ rfl rfl rfl rfl (by decide) (lq rfl) rfl rfl rfl
 rintro T6 L6 v6 X6 ⟨rfl, N6q, eh6⟩
 have N6 := Fr.app (Fr.nil n0) N6q
 obtain ⟨cl7, Ar7, qk7, -⟩ := id V2
 have f8 := (Ej0.ext E2)
 have f9 := (Ej1.ext E2)
 obtain ⟨T7, h7, L7, X7, e7, N7, K7, V7_, st7⟩ := cpA X6 hx hZ hown (hw 196 rfl) (hw 199 rfl) (hw 197 rfl) (hw 198 rfl) eh6 f4 V2 (sp := (0 : Int32)) (dp := (0 : Int32)) (nn := (2 : Int32)) (Or.inr ⟨rfl, rfl, ⟨Sto.ofV Ar7 qk7 OV2 (Ins.of_exa f8 (hw 236 rfl)), Sto.ofV Ar7 qk7 OV2 (Ins.of_exa f9 (hw 236 rfl)), trivial⟩⟩) (us := [(.ref j0), (.ref j1)]) (by decide) (by decide) (by decide) (by decide) (by decide) rfl (by decide) N6 lo_b2 (g := (mkF m 35 #[rv eD, iv 2, rv mO, rv b2] [(.int 2), (.int 0), (.ref b2), (.int 0), (.ref eD)])) rfl hml.symm rfl (D 15 rfl) (by decide) (W := 0) (by show 2 * 0 + _ ≤ _; exact Nat.le_of_eq rfl) (by decide)
 have V7 : Arv Z h7 b2 cA2 (.object "java/lang/Object") 2 [(.ref j0), (.ref j1)] .null := V7_
 refine Goes.st st7 ?_
 have KK10 := KK3.trans K7 (allS (Or.inr sz_b2) all0)
 have Z7 := lT Z2 K7.1
 refine aN X7 hx (D 16 rfl) ?_ rfl rfl
 refine rA X7 hx hret (D 17 rfl) hlk ?_ rfl rfl rfl (by decide) (by decide)
 rw [e7]
 exact ⟨b2, cA2, rfl, N7, KK10, sz_b2, lo_b2, V7⟩
def QCq2 (Z : State) (eD : Addr) (kE : ClassId) (j0 j1 mO : Addr) (h0 : Heap) (n0 : Nat) (v : Option Value) (h : Heap) (L : List Loc) : Prop := ∃ (b : Addr) (kF : ClassId), v = some (.ref b) ∧ Fr n0 L ∧ Keep h0 h [] ∧ h0.size ≤ b ∧ n0 ≤ b ∧ Arv Z h b kF (.object "java/lang/Object") 2 [(.ref j0), (.ref j1)] .null
theorem rmCq2 (hw : HW a0 Z) (eD : Addr) (kE : ClassId) (j0 j1 mO : Addr) (Z0 : n0 ≤ h0.size) (Aed : Arv Z h0 eD kE (.object "java/lang/Object") 10 [(.ref j0), (.ref j1), .null, .null, .null, .null, .null, .null, .null, .null] .null) (Xed : X_2 Z h0 eD) (Ej0 : X_0 Z h0 j0) (Ej1 : X_0 Z h0 j1) (Mo : Mir Z "[Ljava/lang/Object;" mO) :
  QMg l Z mN49 jdk_65_method_119_code 2 (some (.array (.object "java/lang/Object"))) ws (rM 2 1 2 44) #[(.ref eD), (.int 2)] h0 (QCq2 Z eD kE j0 j1 mO h0 n0) := by
 refine bodyN (pfn pn4) (Ls := #[rv eD, iv 2]) (fun _ => rfl) ?_
 intro p e s m below meth c s₁ hx hby hlk hret hml hown hnm hZ hh X0 e0
 have D := @db _ _ _ hby Dj65_119
 have K0 : Keep h0 h0 [] := Keep.refl _ _
 show Gt s₁ m 0 _ []
 refine aN X0 hx (D 0 rfl) ?_ rfl rfl
 refine jN X0 hx (D 1 rfl) ?_ rfl
 refine aN X0 hx (D 2 rfl) ?_ rfl rfl
 refine qGV X0 hx hZ hown (hw 269 rfl) (hw 270 rfl) (hw 272 rfl) (hw 271 rfl) (hw 273 rfl) e0 Xed Mo (by decide) (W := 2) (Nat.le_of_eq rfl) (by decide) hml.symm (D 3 rfl) ?_
 intro T1 X1 e1
 refine zS X1 hx hZ hown hw 275 276 277 184 (rmCp2 l hw eD kE j0 j1 mO Z0 Aed Xed Ej0 Ej1 Mo) e1 hml (D 4 rfl) pd29 (W := 0) (rest := []) ?_ rfl rfl rfl rfl (by decide) (lq rfl) rfl rfl rfl
 rintro T2 L2 v2 X2 ⟨b2, kF2, rfl, N2q, K2, szq2, loq2, VF2⟩
 have KK3 := K0.trans K2 all0
 have sz_b2 := lT K0.1 szq2
 have Z2 := lT Z0 K2.1
 have N2 := Fr.app (Fr.nil n0) N2q
 refine rA X2 hx hret (D 5 rfl) hlk ?_ rfl rfl rfl (by decide) (by decide)
 exact ⟨b2, kF2, rfl, N2, KK3, sz_b2, loq2, VF2⟩
def QTa2 (Z : State) (a : Addr) (eD : Addr) (kE : ClassId) (j0 j1 mO : Addr) (h0 : Heap) (n0 : Nat) (v : Option Value) (h : Heap) (L : List Loc) : Prop := ∃ (b : Addr) (kF : ClassId), v = some (.ref b) ∧ Fr n0 L ∧ Keep h0 h [] ∧ h0.size ≤ b ∧ n0 ≤ b ∧ Arv Z h b kF (.object "java/lang/Object") 2 [(.ref j0), (.ref j1)] .null
theorem rmTa2 (hw : HW a0 Z) (a : Addr) (eD : Addr) (kE : ClassId) (j0 j1 mO : Addr) (Z0 : n0 ≤ h0.size) (Fe : F_3 Z h0 a (.ref eD)) (Fs : F_4 Z h0 a (.int 2)) (Aed : Arv Z h0 eD kE (.object "java/lang/Object") 10 [(.ref j0), (.ref j1), .null, .null, .null, .null, .null, .null, .null, .null] .null) (Xed : X_2 Z h0 eD) (Ej0 : X_0 Z h0 j0) (Ej1 : X_0 Z h0 j1) (Mo : Mir Z "[Ljava/lang/Object;" mO) :
  QMg l Z mN50 jdk_38_method_16_code 1 (some (.array (.object "java/lang/Object"))) ws (rM 3 1 2 57) #[(.ref a)] h0 (QTa2 Z a eD kE j0 j1 mO h0 n0) := by
 refine bodyN (pfn pn7) (Ls := #[rv a]) (fun _ => rfl) ?_
 intro p e s m below meth c s₁ hx hby hlk hret hml hown hnm hZ hh X0 e0
 have D := @db _ _ _ hby Dj38_16
 have K0 : Keep h0 h0 [] := Keep.refl _ _
 show Gt s₁ m 0 _ []
 refine aN X0 hx (D 0 rfl) ?_ rfl rfl
 refine qGF X0 hx hZ hown (hw 119 rfl) Via.refl e0 Fe (D 1 rfl) ?_
 intro T1 X1 e1
 refine aN X1 hx (D 2 rfl) ?_ rfl rfl
 refine qGF X1 hx hZ hown (hw 214 rfl) Via.refl e1 Fs (D 3 rfl) ?_
 intro T2 X2 e2
 refine zS X2 hx hZ hown hw 266 267 268 184 (rmCq2 l hw eD kE j0 j1 mO Z0 Aed Xed Ej0 Ej1 Mo) e2 hml (D 4 rfl) pd30 (W := 0) (rest := []) ?_ rfl rfl rfl rfl (by decide) (lq rfl) rfl rfl rfl
 rintro T3 L3 v3 X3 ⟨b3, kF3, rfl, N3q, K3, szq3, loq3, VF3⟩
 have KK4 := K0.trans K3 all0
 have sz_b3 := lT K0.1 szq3
 have Z3 := lT Z0 K3.1
 have N3 := Fr.app (Fr.nil n0) N3q
 refine rA X3 hx hret (D 5 rfl) hlk ?_ rfl rfl rfl (by decide) (by decide)
 exact ⟨b3, kF3, rfl, N3, KK4, sz_b3, loq3, VF3⟩
def QIe1 (Z : State) (a : Addr) (h0 : Heap) (n0 : Nat) (v : Option Value) (h : Heap) (L : List Loc) : Prop := v = some (.int 1) ∧ Fr n0 L ∧ h = h0
theorem rmIe1 (hw : HW a0 Z) (a : Addr) (Z0 : n0 ≤ h0.size) (Fs : F_4 Z h0 a (.int 0)) :
  QMg l Z mN47 jdk_38_method_9_code 1 (some .boolean) ws (rM 0 0 0 0) #[(.ref a)] h0 (QIe1 Z a h0 n0) := by
 refine bodyN (pfn pn7) (Ls := #[rv a]) (fun _ => rfl) ?_
 intro p e s m below meth c s₁ hx hby hlk hret hml hown hnm hZ hh X0 e0
 have D := @db _ _ _ hby Dj38_9
 show Gt s₁ m 0 _ []
 refine aN X0 hx (D 0 rfl) ?_ rfl rfl
 refine qGF X0 hx hZ hown (hw 214 rfl) Via.refl e0 Fs (D 1 rfl) ?_
 intro T1 X1 e1
 refine gifNo X1 hx (D 2 rfl) (by decide) ?_
 refine giconst X1 hx (D 3 rfl) ?_
 refine gG X1 hx (pc := 8) (pc' := 12) (D 4 rfl) ?_ (by decide) (by decide)
 refine rN X1 hx hret (D 6 rfl) (by decide) hlk ?_ (by simp) (by decide) (by decide)
 rw [e1]
 exact ⟨rfl, (Fr.nil n0), rfl⟩
theorem Dj40_36 : ∀ q ∈ ([(0, .getstatic 90, 3), (3, .areturn, 1)] : List (Nat × Instr × Nat)), decode jdk_40_method_36_code q.1 = .ok (q.2.1, q.2.2) := by decide +kernel
theorem pn8 : plainName "java/util/List" = true := by first | (simp [plainName, overriddenIn]; done) | decide +kernel
def QLo (Z : State) (eL : Addr) (h0 : Heap) (n0 : Nat) (v : Option Value) (h : Heap) (L : List Loc) : Prop := v = some (.ref eL) ∧ Fr n0 L ∧ h = h0
theorem rmLo (hw : HW a0 Z) (eL : Addr) (Z0 : n0 ≤ h0.size) (Sel : S_6 Z h0 (.ref eL)) :
  QMg l Z mN51 jdk_40_method_36_code 0 (some (.object "java/util/List")) ws (rM 0 0 0 0) #[] h0 (QLo Z eL h0 n0) := by
 refine bodyN (pfn pn8) (Ls := #[]) (fun _ => rfl) ?_
 intro p e s m below meth c s₁ hx hby hlk hret hml hown hnm hZ hh X0 e0
 have D := @db _ _ _ hby Dj40_36
 show Gt s₁ m 0 _ []
 obtain ⟨T1, X1, e1, st1⟩ := getS X0 hx hZ hown (host := "") (hw 40 rfl) Via.refl e0 Sel (g := (mkF m 0 #[] [])) rfl (D 0 rfl)
 refine Goes.st st1 ?_
 refine rA X1 hx hret (D 1 rfl) hlk ?_ rfl rfl rfl (by decide) (by decide)
 rw [e1]
 exact ⟨rfl, (Fr.nil n0), rfl⟩
theorem Dj47_1 : ∀ q ∈ ([(0, .aload_n 0, 1), (1, .invokespecial 1, 3), (4, .return_, 1)] : List (Nat × Instr × Nat)), decode jdk_47_method_1_code q.1 = .ok (q.2.1, q.2.2) := by decide +kernel
theorem pn9 : plainName "java/util/ImmutableCollections$AbstractImmutableCollection" = true := by first | (simp [plainName, overriddenIn]; done) | decide +kernel
def QQ1 (Z : State) (a : Addr) (h0 : Heap) (n0 : Nat) (v : Option Value) (h : Heap) (L : List Loc) : Prop := v = none ∧ Fr n0 L ∧ h = h0
theorem rmQ1 (hw : HW a0 Z) (a : Addr) (Z0 : n0 ≤ h0.size) (Ea : X_3 Z h0 a) :
  QMg l Z mN52 jdk_47_method_1_code 1 none ws (rM 2 0 0 24) #[(.ref a)] h0 (QQ1 Z a h0 n0) := by
 refine bodyN (pfn pn9) (Ls := #[rv a]) (fun _ => rfl) ?_
 intro p e s m below meth c s₁ hx hby hlk hret hml hown hnm hZ hh X0 e0
 have D := @db _ _ _ hby Dj47_1
 show Gt s₁ m 0 _ []
 refine aN X0 hx (D 0 rfl) ?_ rfl rfl
 refine zC X0 hx hZ hown hw 302 110 114 113 (rmAc l hw a Z0 ) e0 hml (D 1 rfl) pd25 (W := 0) (rest := []) ?_ rfl rfl rfl rfl (by decide) (lq rfl) rfl rfl rfl
 rintro T1 L1 v1 X1 ⟨rfl, N1q, eh1⟩
 have N1 := Fr.app (Fr.nil n0) N1q
 refine rV X1 hx hret (D 2 rfl) hlk ?_ (by decide) (by decide)
 rw [eh1]
 exact ⟨rfl, N1, rfl⟩
theorem Dj46_1 : ∀ q ∈ ([(0, .aload_n 0, 1), (1, .invokespecial 1, 3), (4, .return_, 1)] : List (Nat × Instr × Nat)), decode jdk_46_method_1_code q.1 = .ok (q.2.1, q.2.2) := by decide +kernel
theorem pn10 : plainName "java/util/ImmutableCollections$AbstractImmutableList" = true := by first | (simp [plainName, overriddenIn]; done) | decide +kernel
def QQ2 (Z : State) (a : Addr) (h0 : Heap) (n0 : Nat) (v : Option Value) (h : Heap) (L : List Loc) : Prop := v = none ∧ Fr n0 L ∧ h = h0
theorem rmQ2 (hw : HW a0 Z) (a : Addr) (Z0 : n0 ≤ h0.size) (Ea : X_3 Z h0 a) :
  QMg l Z mN53 jdk_46_method_1_code 1 none ws (rM 3 0 0 36) #[(.ref a)] h0 (QQ2 Z a h0 n0) := by
 refine bodyN (pfn pn10) (Ls := #[rv a]) (fun _ => rfl) ?_
 intro p e s m below meth c s₁ hx hby hlk hret hml hown hnm hZ hh X0 e0
 have D := @db _ _ _ hby Dj46_1
 show Gt s₁ m 0 _ []
 refine aN X0 hx (D 0 rfl) ?_ rfl rfl
 refine zC X0 hx hZ hown hw 296 297 301 300 (rmQ1 l hw a Z0 Ea) e0 hml (D 1 rfl) pd25 (W := 0) (rest := []) ?_ rfl rfl rfl rfl (by decide) (lq rfl) rfl rfl rfl
 rintro T1 L1 v1 X1 ⟨rfl, N1q, eh1⟩
 have N1 := Fr.app (Fr.nil n0) N1q
 refine rV X1 hx hret (D 2 rfl) hlk ?_ (by decide) (by decide)
 rw [eh1]
 exact ⟨rfl, N1, rfl⟩
theorem Dj31_10 : ∀ q ∈ ([(0, .aload_n 0, 1), (1, .ifnonnull 11, 3), (12, .aload_n 0, 1), (13, .areturn, 1)] : List (Nat × Instr × Nat)), decode jdk_31_method_10_code q.1 = .ok (q.2.1, q.2.2) := by decide +kernel
theorem pn11 : plainName "java/util/Objects" = true := by first | (simp [plainName, overriddenIn]; done) | decide +kernel
def QRn (Z : State) (ra : Addr) (h0 : Heap) (n0 : Nat) (v : Option Value) (h : Heap) (L : List Loc) : Prop := v = some (.ref ra) ∧ Fr n0 L ∧ h = h0
theorem rmRn (hw : HW a0 Z) (ra : Addr) (Z0 : n0 ≤ h0.size)  :
  QMg l Z mN54 jdk_31_method_10_code 1 (some (.object "java/lang/Object")) ws (rM 0 0 0 0) #[(.ref ra)] h0 (QRn Z ra h0 n0) := by
 refine bodyN (pfn pn11) (Ls := #[rv ra]) (fun _ => rfl) ?_
 intro p e s m below meth c s₁ hx hby hlk hret hml hown hnm hZ hh X0 e0
 have D := @db _ _ _ hby Dj31_10
 show Gt s₁ m 0 _ []
 refine aN X0 hx (D 0 rfl) ?_ rfl rfl
 refine Goes.st (fun tg kg => XT.ifnonnullYes X0.here hx rfl (pc0 := 1) (pc' := 12) rfl (D 1 rfl) rfl (by decide) (by decide) kg) ?_
 show Gt s₁ m 12 #[rv ra] []
 refine aN X0 hx (D 2 rfl) ?_ rfl rfl
 refine rA X0 hx hret (D 3 rfl) hlk ?_ rfl rfl rfl (by decide) (by decide)
 rw [e0]
 exact ⟨rfl, (Fr.nil n0), rfl⟩
theorem Dj44_1 : ∀ q ∈ ([(0, .aload_n 0, 1), (1, .invokespecial 1, 3), (4, .aload_n 0, 1), (5, .aload_n 1, 1), (6, .invokestatic 7, 3), (9, .putfield 13, 3), (12, .aload_n 0, 1), (13, .getstatic 19, 3), (16, .putfield 24, 3), (19, .return_, 1)] : List (Nat × Instr × Nat)), decode jdk_44_method_1_code q.1 = .ok (q.2.1, q.2.2) := by decide +kernel
theorem pn12 : plainName "java/util/ImmutableCollections$List12" = true := by first | (simp [plainName, overriddenIn]; done) | decide +kernel
theorem pd31 : parseMethodDescriptor "(Ljava/lang/Object;)Ljava/lang/Object;" = some ⟨[(.object "java/lang/Object")], some (.object "java/lang/Object")⟩ := by decide +kernel
def QNi1 (Z : State) (a j0 eM : Addr) (h0 : Heap) (n0 : Nat) (v : Option Value) (h : Heap) (L : List Loc) : Prop := v = none ∧ Fr n0 L ∧ Keep h0 h [a] ∧ F_5 Z h a (.ref j0) ∧ F_6 Z h a (.ref eM)
theorem rmNi1 (hw : HW a0 Z) (a j0 eM : Addr) (Z0 : n0 ≤ h0.size) (Ea : X_3 Z h0 a) (ga : n0 ≤ a) (F0 : F_5 Z h0 a .null) (F1 : F_6 Z h0 a .null) (Sem : S_7 Z h0 (.ref eM)) :
  QMg l Z mN55 jdk_44_method_1_code 2 none ws (rM 4 0 0 48) #[(.ref a), (.ref j0)] h0 (QNi1 Z a j0 eM h0 n0) := by
 refine bodyN (pfn pn12) (Ls := #[rv a, rv j0]) (fun _ => rfl) ?_
 intro p e s m below meth c s₁ hx hby hlk hret hml hown hnm hZ hh X0 e0
 have D := @db _ _ _ hby Dj44_1
 have K0 : Keep h0 h0 [a] := Keep.refl _ _
 show Gt s₁ m 0 _ []
 refine aN X0 hx (D 0 rfl) ?_ rfl rfl
 refine zC X0 hx hZ hown hw 290 291 295 294 (rmQ2 l hw a Z0 Ea) e0 hml (D 1 rfl) pd25 (W := 0) (rest := []) ?_ rfl rfl rfl rfl (by decide) (lq rfl) rfl rfl rfl
 rintro T1 L1 v1 X1 ⟨rfl, N1q, eh1⟩
 have N1 := Fr.app (Fr.nil n0) N1q
 refine aN X1 hx (D 2 rfl) ?_ rfl rfl
 refine aN X1 hx (D 3 rfl) ?_ rfl rfl
 refine zS X1 hx hZ hown hw 304 305 307 306 (rmRn l hw j0 Z0 ) eh1 hml (D 4 rfl) pd31 (W := 1) (rest := [(.ref a)]) ?_ rfl rfl rfl rfl (by decide) (lq rfl) rfl rfl rfl
 rintro T2 L2 v2 X2 ⟨rfl, N2q, eh2⟩
 have N2 := Fr.app N1 N2q
 refine qPF X2 hx hZ hown (hw 308 rfl) Via.refl eh2 F0 Ea (Or.inr ⟨(hw 309 rfl), rfl, hnm⟩) (hw 284 rfl) (ty := (.object "java/lang/Object")) (by decide) rfl rfl (D 5 rfl) N2 ga Z0 ?_
 intro T3 h3 L3 X3 e3 W3 N3 G3 Z3
 have KK4 := K0.wr W3 (Or.inl (mI 0 rfl))
 refine aN X3 hx (D 6 rfl) ?_ rfl rfl
 have f6 := (Sem.wr W3)
 obtain ⟨T5, X5, e5, st5⟩ := getS2 X3 hx hZ hown (Or.inr (hw 310 rfl)) Via.refl e3 f6 (g := (mkF m 13 #[rv a, rv j0] [(.ref a)])) rfl (D 7 rfl)
 refine Goes.st st5 ?_
 have f8 := (F1.other W3 (Or.inr (slot_ne (Or.inr (hw 312 rfl)) (Or.inr (hw 309 rfl)) (by decide) (t := (.object "java/lang/Object")) (t' := (.object "java/lang/Object")) (by decide) (by decide))))
 have f9 := (Ea.wr W3)
 refine qPF X5 hx hZ hown (hw 311 rfl) Via.refl e5 f8 f9 (Or.inr ⟨(hw 312 rfl), rfl, hnm⟩) (hw 284 rfl) (ty := (.object "java/lang/Object")) (by decide) rfl rfl (D 8 rfl) N3 ga Z3 ?_
 intro T7 h7 L7 X7 e7 W7 N7 G7 Z7
 have KK10 := KK4.wr W7 (Or.inl (mI 0 rfl))
 show Gt T7 m 19 #[rv a, rv j0] []
 have f11 := (G3.other W7 (Or.inr (slot_ne (Or.inr (hw 309 rfl)) (Or.inr (hw 312 rfl)) (by decide) (t := (.object "java/lang/Object")) (t' := (.object "java/lang/Object")) (by decide) (by decide))))
 refine rV X7 hx hret (D 9 rfl) hlk ?_ (by decide) (by decide)
 rw [e7]
 exact ⟨rfl, N7, KK10, f11, G7⟩
theorem Dj44_2 : ∀ q ∈ ([(0, .aload_n 0, 1), (1, .invokespecial 1, 3), (4, .aload_n 0, 1), (5, .aload_n 1, 1), (6, .invokestatic 7, 3), (9, .putfield 13, 3), (12, .aload_n 0, 1), (13, .aload_n 2, 1), (14, .invokestatic 7, 3), (17, .putfield 24, 3), (20, .return_, 1)] : List (Nat × Instr × Nat)), decode jdk_44_method_2_code q.1 = .ok (q.2.1, q.2.2) := by decide +kernel
def QNi2 (Z : State) (a j0 j1 : Addr) (h0 : Heap) (n0 : Nat) (v : Option Value) (h : Heap) (L : List Loc) : Prop := v = none ∧ Fr n0 L ∧ Keep h0 h [a] ∧ F_5 Z h a (.ref j0) ∧ F_6 Z h a (.ref j1)
theorem rmNi2 (hw : HW a0 Z) (a j0 j1 : Addr) (Z0 : n0 ≤ h0.size) (Ea : X_3 Z h0 a) (ga : n0 ≤ a) (F0 : F_5 Z h0 a .null) (F1 : F_6 Z h0 a .null) :
  QMg l Z mN56 jdk_44_method_2_code 3 none ws (rM 4 0 0 48) #[(.ref a), (.ref j0), (.ref j1)] h0 (QNi2 Z a j0 j1 h0 n0) := by
 refine bodyN (pfn pn12) (Ls := #[rv a, rv j0, rv j1]) (fun _ => rfl) ?_
 intro p e s m below meth c s₁ hx hby hlk hret hml hown hnm hZ hh X0 e0
 have D := @db _ _ _ hby Dj44_2
 have K0 : Keep h0 h0 [a] := Keep.refl _ _
 show Gt s₁ m 0 _ []
 refine aN X0 hx (D 0 rfl) ?_ rfl rfl
 refine zC X0 hx hZ hown hw 290 291 295 294 (rmQ2 l hw a Z0 Ea) e0 hml (D 1 rfl) pd25 (W := 0) (rest := []) ?_ rfl rfl rfl rfl (by decide) (lq rfl) rfl rfl rfl
 rintro T1 L1 v1 X1 ⟨rfl, N1q, eh1⟩
 have N1 := Fr.app (Fr.nil n0) N1q
 refine aN X1 hx (D 2 rfl) ?_ rfl rfl
 refine aN X1 hx (D 3 rfl) ?_ rfl rfl
 refine zS X1 hx hZ hown hw 304 305 307 306 (rmRn l hw j0 Z0 ) eh1 hml (D 4 rfl) pd31 (W := 1) (rest := [(.ref a)]) ?_ rfl rfl rfl rfl (by decide) (lq rfl) rfl rfl rfl
 rintro T2 L2 v2 X2 ⟨rfl, N2q, eh2⟩
 have N2 := Fr.app N1 N2q
 refine qPF X2 hx hZ hown (hw 308 rfl) Via.refl eh2 F0 Ea (Or.inr ⟨(hw 309 rfl), rfl, hnm⟩) (hw 284 rfl) (ty := (.object "java/lang/Object")) (by decide) rfl rfl (D 5 rfl) N2 ga Z0 ?_
 intro T3 h3 L3 X3 e3 W3 N3 G3 Z3
 have KK4 := K0.wr W3 (Or.inl (mI 0 rfl))
 refine aN X3 hx (D 6 rfl) ?_ rfl rfl
 refine aN X3 hx (D 7 rfl) ?_ rfl rfl
 refine zS X3 hx hZ hown hw 304 305 307 306 (rmRn l hw j1 Z3 ) e3 hml (D 8 rfl) pd31 (W := 1) (rest := [(.ref a)]) ?_ rfl rfl rfl rfl (by decide) (lq rfl) rfl rfl rfl
 rintro T5 L5 v5 X5 ⟨rfl, N5q, eh5⟩
 have N5 := Fr.app N3 N5q
 show Gt T5 m 17 _ [(.ref j1), (.ref a)]
 have f7 := (F1.other W3 (Or.inr (slot_ne (Or.inr (hw 312 rfl)) (Or.inr (hw 309 rfl)) (by decide) (t := (.object "java/lang/Object")) (t' := (.object "java/lang/Object")) (by decide) (by decide))))
 have f8 := (Ea.wr W3)
 refine qPF X5 hx hZ hown (hw 311 rfl) Via.refl eh5 f7 f8 (Or.inr ⟨(hw 312 rfl), rfl, hnm⟩) (hw 284 rfl) (ty := (.object "java/lang/Object")) (by decide) rfl rfl (D 9 rfl) N5 ga Z3 ?_
 intro T6 h6 L6 X6 e6 W6 N6 G6 Z6
 have KK9 := KK4.wr W6 (Or.inl (mI 0 rfl))
 have f10 := (G3.other W6 (Or.inr (slot_ne (Or.inr (hw 309 rfl)) (Or.inr (hw 312 rfl)) (by decide) (t := (.object "java/lang/Object")) (t' := (.object "java/lang/Object")) (by decide) (by decide))))
 refine rV X6 hx hret (D 10 rfl) hlk ?_ (by decide) (by decide)
 rw [e6]
 exact ⟨rfl, N6, KK9, f10, G6⟩
theorem Dj40_47 : ∀ q ∈ ([(0, .aload_n 0, 1), (1, .arraylength, 1), (2, .tableswitch 57 0 2 #[26, 32, 43], 26), (34, .new 96, 3), (37, .dup, 1), (38, .aload_n 0, 1), (39, .iconst 0, 1), (40, .aaload, 1), (41, .invokespecial 98, 3), (44, .areturn, 1), (45, .new 96, 3), (48, .dup, 1), (49, .aload_n 0, 1), (50, .iconst 0, 1), (51, .aaload, 1), (52, .aload_n 0, 1), (53, .iconst 1, 1), (54, .aaload, 1), (55, .invokespecial 100, 3), (58, .areturn, 1)] : List (Nat × Instr × Nat)), decode jdk_40_method_47_code q.1 = .ok (q.2.1, q.2.2) := by decide +kernel
theorem pd32 : parseMethodDescriptor "(Ljava/lang/Object;)V" = some ⟨[(.object "java/lang/Object")], none⟩ := by decide +kernel
def QLv1 (Z : State) (b_ : Addr) (kF : ClassId) (j0 eM : Addr) (h0 : Heap) (n0 : Nat) (v : Option Value) (h : Heap) (L : List Loc) : Prop := ∃ (b : Addr), v = some (.ref b) ∧ Fr n0 L ∧ Keep h0 h [] ∧ h0.size ≤ b ∧ n0 ≤ b ∧ X_3 Z h b ∧ F_5 Z h b (.ref j0) ∧ F_6 Z h b (.ref eM)
theorem rmLv1 (hw : HW a0 Z) (b_ : Addr) (kF : ClassId) (j0 eM : Addr) (Z0 : n0 ≤ h0.size) (VF : Arv Z h0 b_ kF (.object "java/lang/Object") 1 [(.ref j0)] .null) (Sem : S_7 Z h0 (.ref eM)) :
  QMg l Z mN57 jdk_40_method_47_code 2 (some (.object "java/util/List")) ws (rM 5 1 2 62) #[(.ref b_)] h0 (QLv1 Z b_ kF j0 eM h0 n0) := by
 refine bodyN (pfn pn8) (Ls := #[rv b_, .unset]) (fun _ => rfl) ?_
 intro p e s m below meth c s₁ hx hby hlk hret hml hown hnm hZ hh X0 e0
 have D := @db _ _ _ hby Dj40_47
 have K0 : Keep h0 h0 [] := Keep.refl _ _
 show Gt s₁ m 0 _ []
 refine aN X0 hx (D 0 rfl) ?_ rfl rfl
 refine qAL X0 hx hZ e0 VF (D 1 rfl) ?_
 show Gt s₁ m 2 _ [(.int 1)]
 refine Goes.st (fun tg kg => X0.tableswitchIn hx (g := (mkF m 2 #[rv b_, .unset] [(.int 1)])) rfl rfl (D 2 rfl) (by decide) (off := 32) (by decide) (by show (0 : Int) ≤ (2 : Int) + 32; decide) tg kg) ?_
 show Gt s₁ m 34 #[rv b_, .unset] []
 obtain ⟨T2, h2, X2, e2, E2, A2, D2, -, st2⟩ := newO X0 hx hZ hown (hw 283 rfl) (hw 284 rfl) (hw 285 rfl) e0 (g := (mkF m 34 #[rv b_, .unset] [])) rfl (D 3 rfl) (by decide) (by decide)
 obtain ⟨b2, g2⟩ : ∃ z, z = h0.size := ⟨_, rfl⟩
 rw [← g2] at A2 D2 st2
 have lo_b2 := loB Z0 g2
 have sz_b2 := loB K0.1 g2
 refine Goes.st st2 ?_
 have KK3 := K0.ext E2
 have Z2 := lT Z0 E2.1
 have F2_e0 : F_5 Z h2 b2 .null := D2 (Or.inr (hw 309 rfl)) (ty := (.object "java/lang/Object")) (by decide)
 have F2_e1 : F_6 Z h2 b2 .null := D2 (Or.inr (hw 312 rfl)) (ty := (.object "java/lang/Object")) (by decide)
 refine gdup X2 hx (D 4 rfl) rfl ?_
 refine aN X2 hx (D 5 rfl) ?_ rfl rfl
 refine giconst X2 hx (D 6 rfl) ?_
 have f4 := (VF.ext E2)
 refine qAa rfl X2 hx hZ e2 f4 ⟨by decide, by decide⟩ (v := (.ref j0)) rfl (D 7 rfl) ?_
 have f6 := (Sem.ext E2)
 refine zC X2 hx hZ hown hw 286 287 289 285 (rmNi1 l hw b2 j0 eM Z2 A2 lo_b2 F2_e0 F2_e1 f6) e2 hml (D 8 rfl) pd32 (W := 1) (rest := [(.ref b2)]) ?_ rfl rfl rfl rfl (by decide) (lq rfl) rfl rfl rfl
 rintro T7 L7 v7 X7 ⟨rfl, N7q, K7, P7_0, P7_1⟩
 have KK8 := KK3.trans K7 (allS (Or.inr sz_b2) all0)
 have Z7 := lT Z2 K7.1
 have N7 := Fr.app (Fr.nil n0) N7q
 have f9 := (A2.keep K7)
 refine rA X7 hx hret (D 9 rfl) hlk ?_ rfl rfl rfl (by decide) (by decide)
 exact ⟨b2, rfl, N7, KK8, sz_b2, lo_b2, f9, P7_0, P7_1⟩
theorem pd33 : parseMethodDescriptor "(Ljava/lang/Object;Ljava/lang/Object;)V" = some ⟨[(.object "java/lang/Object"), (.object "java/lang/Object")], none⟩ := by decide +kernel
def QLv2 (Z : State) (b_ : Addr) (kF : ClassId) (j0 j1 eM : Addr) (h0 : Heap) (n0 : Nat) (v : Option Value) (h : Heap) (L : List Loc) : Prop := ∃ (b : Addr), v = some (.ref b) ∧ Fr n0 L ∧ Keep h0 h [] ∧ h0.size ≤ b ∧ n0 ≤ b ∧ X_3 Z h b ∧ F_5 Z h b (.ref j0) ∧ F_6 Z h b (.ref j1)
theorem rmLv2 (hw : HW a0 Z) (b_ : Addr) (kF : ClassId) (j0 j1 eM : Addr) (Z0 : n0 ≤ h0.size) (VF : Arv Z h0 b_ kF (.object "java/lang/Object") 2 [(.ref j0), (.ref j1)] .null) (Sem : S_7 Z h0 (.ref eM)) :
  QMg l Z mN57 jdk_40_method_47_code 2 (some (.object "java/util/List")) ws (rM 5 1 2 63) #[(.ref b_)] h0 (QLv2 Z b_ kF j0 j1 eM h0 n0) := by
 refine bodyN (pfn pn8) (Ls := #[rv b_, .unset]) (fun _ => rfl) ?_
 intro p e s m below meth c s₁ hx hby hlk hret hml hown hnm hZ hh X0 e0
 have D := @db _ _ _ hby Dj40_47
 have K0 : Keep h0 h0 [] := Keep.refl _ _
 show Gt s₁ m 0 _ []
 refine aN X0 hx (D 0 rfl) ?_ rfl rfl
 refine qAL X0 hx hZ e0 VF (D 1 rfl) ?_
 show Gt s₁ m 2 _ [(.int 2)]
 refine Goes.st (fun tg kg => X0.tableswitchIn hx (g := (mkF m 2 #[rv b_, .unset] [(.int 2)])) rfl rfl (D 2 rfl) (by decide) (off := 43) (by decide) (by show (0 : Int) ≤ (2 : Int) + 43; decide) tg kg) ?_
 show Gt s₁ m 45 #[rv b_, .unset] []
 obtain ⟨T2, h2, X2, e2, E2, A2, D2, -, st2⟩ := newO X0 hx hZ hown (hw 283 rfl) (hw 284 rfl) (hw 285 rfl) e0 (g := (mkF m 45 #[rv b_, .unset] [])) rfl (D 10 rfl) (by decide) (by decide)
 obtain ⟨b2, g2⟩ : ∃ z, z = h0.size := ⟨_, rfl⟩
 rw [← g2] at A2 D2 st2
 have lo_b2 := loB Z0 g2
 have sz_b2 := loB K0.1 g2
 refine Goes.st st2 ?_
 have KK3 := K0.ext E2
 have Z2 := lT Z0 E2.1
 have F2_e0 : F_5 Z h2 b2 .null := D2 (Or.inr (hw 309 rfl)) (ty := (.object "java/lang/Object")) (by decide)
 have F2_e1 : F_6 Z h2 b2 .null := D2 (Or.inr (hw 312 rfl)) (ty := (.object "java/lang/Object")) (by decide)
 refine gdup X2 hx (D 11 rfl) rfl ?_
 refine aN X2 hx (D 12 rfl) ?_ rfl rfl
 refine giconst X2 hx (D 13 rfl) ?_
 have f4 := (VF.ext E2)
 refine qAa rfl X2 hx hZ e2 f4 ⟨by decide, by decide⟩ (v := (.ref j0)) rfl (D 14 rfl) ?_
 refine aN X2 hx (D 15 rfl) ?_ rfl rfl
 refine giconst X2 hx (D 16 rfl) ?_
 refine qAa rfl X2 hx hZ e2 f4 ⟨by decide, by decide⟩ (v := (.ref j1)) rfl (D 17 rfl) ?_
 refine zC X2 hx hZ hown hw 373 374 375 285 (rmNi2 l hw b2 j0 j1 Z2 A2 lo_b2 F2_e0 F2_e1) e2 hml (D 18 rfl) pd33 (W := 1) (rest := [(.ref b2)]) ?_ rfl rfl rfl rfl (by decide) (lq rfl) rfl rfl rfl
 rintro T7 L7 v7 X7 ⟨rfl, N7q, K7, P7_0, P7_1⟩
 have KK8 := KK3.trans K7 (allS (Or.inr sz_b2) all0)
 have Z7 := lT Z2 K7.1
 have N7 := Fr.app (Fr.nil n0) N7q
 show Gt T7 m 58 #[rv b_, .unset] [(.ref b2)]
 have f9 := (A2.keep K7)
 refine rA X7 hx hret (D 19 rfl) hlk ?_ rfl rfl rfl (by decide) (by decide)
 exact ⟨b2, rfl, N7, KK8, sz_b2, lo_b2, f9, P7_0, P7_1⟩
theorem Dj56_3 : ∀ q ∈ ([(0, .aload_n 0, 1), (1, .instanceof 10, 3), (4, .ifCond .ne 22, 3), (7, .aload_n 0, 1), (8, .instanceof 12, 3), (11, .ifCond .eq 20, 3), (31, .aload_n 0, 1), (32, .invokeinterface 20 1, 5), (37, .ifCond .eq 7, 3), (40, .invokestatic 26, 3), (43, .areturn, 1), (44, .aload_n 0, 1), (45, .invokeinterface 30 1, 5), (50, .invokestatic 34, 3), (53, .areturn, 1)] : List (Nat × Instr × Nat)), decode jdk_56_method_3_code q.1 = .ok (q.2.1, q.2.2) := by decide +kernel
theorem pn13 : plainName "java/util/ImmutableCollections" = true := by first | (simp [plainName, overriddenIn]; done) | decide +kernel
theorem pd34 : parseMethodDescriptor "()Ljava/util/List;" = some ⟨[], some (.object "java/util/List")⟩ := by decide +kernel
def QLc0_ (Z : State) (a eL : Addr) (h0 : Heap) (n0 : Nat) (v : Option Value) (h : Heap) (L : List Loc) : Prop := v = some (.ref eL) ∧ Fr n0 L ∧ h = h0
theorem rmLc0_ (hw : HW a0 Z) (a eL : Addr) (Z0 : n0 ≤ h0.size) (Ea : X_1 Z h0 a) (Fs : F_4 Z h0 a (.int 0)) (Sel : S_6 Z h0 (.ref eL)) :
  QMg l Z mN58 jdk_56_method_3_code 2 (some (.object "java/util/List")) ws (rM 1 0 0 12) #[(.ref a)] h0 (QLc0_ Z a eL h0 n0) := by
 refine bodyN (pfn pn13) (Ls := #[rv a, .unset]) (fun _ => rfl) ?_
 intro p e s m below meth c s₁ hx hby hlk hret hml hown hnm hZ hh X0 e0
 have D := @db _ _ _ hby Dj56_3
 show Gt s₁ m 0 _ []
 refine aN X0 hx (D 0 rfl) ?_ rfl rfl
 show Gt s₁ m 1 _ [(.ref a)]
 obtain ⟨T1, X1, e1, st1⟩ := instNo X0 hx hZ hown (hw 243 rfl) e0 Ea (NI.no (NI.inst (hw 284 rfl)) (hw 244 rfl) (NS.step (hw 244 rfl) (NS.step (hw 245 rfl) (NS.step (hw 246 rfl) (NI.root (NI.inst (hw 284 rfl)) (hw 247 rfl) (by decide)) (by decide)) (by decide)) (by decide)) (by decide)) (g := (mkF m 1 #[rv a, .unset] [(.ref a)])) rfl rfl (D 1 rfl)
 refine Goes.st st1 ?_
 refine gifNo X1 hx (D 2 rfl) (by decide) ?_
 refine aN X1 hx (D 3 rfl) ?_ rfl rfl
 show Gt T1 m 8 #[rv a, .unset] [(.ref a)]
 obtain ⟨T2, X2, e2, st2⟩ := instNo X1 hx hZ hown (hw 248 rfl) e1 Ea (NI.no (NI.sel (hw 55 rfl)) (hw 244 rfl) (NS.step (hw 244 rfl) (NS.step (hw 245 rfl) (NS.step (hw 246 rfl) (NI.root (NI.sel (hw 55 rfl)) (hw 247 rfl) (by decide)) (by decide)) (by decide)) (by decide)) (by decide)) (g := (mkF m 8 #[rv a, .unset] [(.ref a)])) rfl rfl (D 4 rfl)
 refine Goes.st st2 ?_
 refine gT X2 hx (pc := 11) (pc' := 31) (D 5 rfl) (by decide) ?_ (by decide) (by decide)
 refine aN X2 hx (D 6 rfl) ?_ rfl rfl
 refine zI X2 hx hZ hown hw 249 rfl 250 (mvT hZ (hw 251 rfl)) 252 253 254 255 256 257 99 (rmIe1 l hw a Z0 Fs) e2 Ea hml (D 7 rfl) pd7 (W := 0) (rest := []) ?_ rfl rfl rfl rfl rfl rfl rfl rfl (by decide) (lq rfl) rfl rfl rfl
 rintro T3 L3 v3 X3 ⟨rfl, N3q, eh3⟩
 have N3 := Fr.app (Fr.nil n0) N3q
 refine gifNo X3 hx (D 8 rfl) (by decide) ?_
 refine zS X3 hx hZ hown hw 347 37 39 38 (rmLo l hw eL Z0 Sel) eh3 hml (D 9 rfl) pd34 (W := 0) (rest := []) ?_ rfl rfl rfl rfl (by decide) (lq rfl) rfl rfl rfl
 rintro T4 L4 v4 X4 ⟨rfl, N4q, eh4⟩
 have N4 := Fr.app N3 N4q
 refine rA X4 hx hret (D 10 rfl) hlk ?_ rfl rfl rfl (by decide) (by decide)
 rw [eh4]
 exact ⟨rfl, N4, rfl⟩
theorem Dj40_48 : ∀ q ∈ ([(0, .aload_n 0, 1), (1, .invokestatic 112, 3), (4, .areturn, 1)] : List (Nat × Instr × Nat)), decode jdk_40_method_48_code q.1 = .ok (q.2.1, q.2.2) := by decide +kernel
theorem pd35 : parseMethodDescriptor "(Ljava/util/Collection;)Ljava/util/List;" = some ⟨[(.object "java/util/Collection")], some (.object "java/util/List")⟩ := by decide +kernel
def QLy0 (Z : State) (a eL : Addr) (h0 : Heap) (n0 : Nat) (v : Option Value) (h : Heap) (L : List Loc) : Prop := v = some (.ref eL) ∧ Fr n0 L ∧ h = h0
theorem rmLy0 (hw : HW a0 Z) (a eL : Addr) (Z0 : n0 ≤ h0.size) (Ea : X_1 Z h0 a) (Fs : F_4 Z h0 a (.int 0)) (Sel : S_6 Z h0 (.ref eL)) :
  QMg l Z mN59 jdk_40_method_48_code 1 (some (.object "java/util/List")) ws (rM 2 0 0 25) #[(.ref a)] h0 (QLy0 Z a eL h0 n0) := by
 refine bodyN (pfn pn8) (Ls := #[rv a]) (fun _ => rfl) ?_
 intro p e s m below meth c s₁ hx hby hlk hret hml hown hnm hZ hh X0 e0
 have D := @db _ _ _ hby Dj40_48
 show Gt s₁ m 0 _ []
 refine aN X0 hx (D 0 rfl) ?_ rfl rfl
 refine zS X0 hx hZ hown hw 240 241 242 41 (rmLc0_ l hw a eL Z0 Ea Fs Sel) e0 hml (D 1 rfl) pd35 (W := 0) (rest := []) ?_ rfl rfl rfl rfl (by decide) (lq rfl) rfl rfl rfl
 rintro T1 L1 v1 X1 ⟨rfl, N1q, eh1⟩
 have N1 := Fr.app (Fr.nil n0) N1q
 refine rA X1 hx hret (D 2 rfl) hlk ?_ rfl rfl rfl (by decide) (by decide)
 rw [eh1]
 exact ⟨rfl, N1, rfl⟩
theorem pd36 : parseMethodDescriptor "([Ljava/lang/Object;)Ljava/util/List;" = some ⟨[(.array (.object "java/lang/Object"))], some (.object "java/util/List")⟩ := by decide +kernel
def QLc1_ (Z : State) (a eD : Addr) (kE : ClassId) (j0 mO eM : Addr) (h0 : Heap) (n0 : Nat) (v : Option Value) (h : Heap) (L : List Loc) : Prop := ∃ (b : Addr), v = some (.ref b) ∧ Fr n0 L ∧ Keep h0 h [] ∧ h0.size ≤ b ∧ n0 ≤ b ∧ X_3 Z h b ∧ F_5 Z h b (.ref j0) ∧ F_6 Z h b (.ref eM)
theorem rmLc1_ (hw : HW a0 Z) (a eD : Addr) (kE : ClassId) (j0 mO eM : Addr) (Z0 : n0 ≤ h0.size) (Ea : X_1 Z h0 a) (Fe : F_3 Z h0 a (.ref eD)) (Fs : F_4 Z h0 a (.int 1)) (Aed : Arv Z h0 eD kE (.object "java/lang/Object") 10 [(.ref j0), .null, .null, .null, .null, .null, .null, .null, .null, .null] .null) (Xed : X_2 Z h0 eD) (Ej0 : X_0 Z h0 j0) (Mo : Mir Z "[Ljava/lang/Object;" mO) (Sem : S_7 Z h0 (.ref eM)) :
  QMg l Z mN58 jdk_56_method_3_code 2 (some (.object "java/util/List")) ws (rM 6 2 3 75) #[(.ref a)] h0 (QLc1_ Z a eD kE j0 mO eM h0 n0) := by
 refine bodyN (pfn pn13) (Ls := #[rv a, .unset]) (fun _ => rfl) ?_
 intro p e s m below meth c s₁ hx hby hlk hret hml hown hnm hZ hh X0 e0
 have D := @db _ _ _ hby Dj56_3
 have K0 : Keep h0 h0 [] := Keep.refl _ _
 show Gt s₁ m 0 _ []
 refine aN X0 hx (D 0 rfl) ?_ rfl rfl
 show Gt s₁ m 1 _ [(.ref a)]
 obtain ⟨T1, X1, e1, st1⟩ := instNo X0 hx hZ hown (hw 243 rfl) e0 Ea (NI.no (NI.inst (hw 284 rfl)) (hw 244 rfl) (NS.step (hw 244 rfl) (NS.step (hw 245 rfl) (NS.step (hw 246 rfl) (NI.root (NI.inst (hw 284 rfl)) (hw 247 rfl) (by decide)) (by decide)) (by decide)) (by decide)) (by decide)) (g := (mkF m 1 #[rv a, .unset] [(.ref a)])) rfl rfl (D 1 rfl)
 refine Goes.st st1 ?_
 refine gifNo X1 hx (D 2 rfl) (by decide) ?_
 refine aN X1 hx (D 3 rfl) ?_ rfl rfl
 show Gt T1 m 8 #[rv a, .unset] [(.ref a)]
 obtain ⟨T2, X2, e2, st2⟩ := instNo X1 hx hZ hown (hw 248 rfl) e1 Ea (NI.no (NI.sel (hw 55 rfl)) (hw 244 rfl) (NS.step (hw 244 rfl) (NS.step (hw 245 rfl) (NS.step (hw 246 rfl) (NI.root (NI.sel (hw 55 rfl)) (hw 247 rfl) (by decide)) (by decide)) (by decide)) (by decide)) (by decide)) (g := (mkF m 8 #[rv a, .unset] [(.ref a)])) rfl rfl (D 4 rfl)
 refine Goes.st st2 ?_
 refine gT X2 hx (pc := 11) (pc' := 31) (D 5 rfl) (by decide) ?_ (by decide) (by decide)
 refine aN X2 hx (D 6 rfl) ?_ rfl rfl
 refine zI X2 hx hZ hown hw 249 rfl 250 (mvT hZ (hw 251 rfl)) 252 253 254 255 256 257 99 (rmIe l hw a (1 : Int32) Z0 Fs (by decide)) e2 Ea hml (D 7 rfl) pd7 (W := 0) (rest := []) ?_ rfl rfl rfl rfl rfl rfl rfl rfl (by decide) (lq rfl) rfl rfl rfl
 rintro T3 L3 v3 X3 ⟨rfl, N3q, eh3⟩
 have N3 := Fr.app (Fr.nil n0) N3q
 refine gT X3 hx (pc := 37) (pc' := 44) (D 8 rfl) (by decide) ?_ (by decide) (by decide)
 refine aN X3 hx (D 11 rfl) ?_ rfl rfl
 refine zI X3 hx hZ hown hw 258 rfl 259 (mvT hZ (hw 260 rfl)) 261 262 263 264 256 265 99 (rmTa1 l hw a eD kE j0 mO Z0 Fe Fs Aed Xed Ej0 Mo) eh3 Ea hml (D 12 rfl) pd27 (W := 0) (rest := []) ?_ rfl rfl rfl rfl rfl rfl rfl rfl (by decide) (lq rfl) rfl rfl rfl
 rintro T4 L4 v4 X4 ⟨b4, kF4, rfl, N4q, K4, szq4, loq4, VF4⟩
 have KK5 := K0.trans K4 all0
 have sz_b4 := lT K0.1 szq4
 have Z4 := lT Z0 K4.1
 have N4 := Fr.app N3 N4q
 have f6 := (Sem.kept K4 ns0)
 refine zS X4 hx hZ hown hw 280 281 282 38 (rmLv1 l hw b4 kF4 j0 eM Z4 VF4 f6) rfl hml (D 13 rfl) pd36 (W := 0) (rest := []) ?_ rfl rfl rfl rfl (by decide) (lq rfl) rfl rfl rfl
 rintro T7 L7 v7 X7 ⟨b7, rfl, N7q, K7, szq7, loq7, XL7, P7_0, P7_1⟩
 have KK8 := KK5.trans K7 all0
 have sz_b7 := lT KK5.1 szq7
 have Z7 := lT Z4 K7.1
 have N7 := Fr.app N4 N7q
 refine rA X7 hx hret (D 14 rfl) hlk ?_ rfl rfl rfl (by decide) (by decide)
 exact ⟨b7, rfl, N7, KK8, sz_b7, loq7, XL7, P7_0, P7_1⟩
def QLy1 (Z : State) (a eD : Addr) (kE : ClassId) (j0 mO eM : Addr) (h0 : Heap) (n0 : Nat) (v : Option Value) (h : Heap) (L : List Loc) : Prop := ∃ (b : Addr), v = some (.ref b) ∧ Fr n0 L ∧ Keep h0 h [] ∧ h0.size ≤ b ∧ n0 ≤ b ∧ X_3 Z h b ∧ F_5 Z h b (.ref j0) ∧ F_6 Z h b (.ref eM)
theorem rmLy1 (hw : HW a0 Z) (a eD : Addr) (kE : ClassId) (j0 mO eM : Addr) (Z0 : n0 ≤ h0.size) (Ea : X_1 Z h0 a) (Fe : F_3 Z h0 a (.ref eD)) (Fs : F_4 Z h0 a (.int 1)) (Aed : Arv Z h0 eD kE (.object "java/lang/Object") 10 [(.ref j0), .null, .null, .null, .null, .null, .null, .null, .null, .null] .null) (Xed : X_2 Z h0 eD) (Ej0 : X_0 Z h0 j0) (Mo : Mir Z "[Ljava/lang/Object;" mO) (Sem : S_7 Z h0 (.ref eM)) :
  QMg l Z mN59 jdk_40_method_48_code 1 (some (.object "java/util/List")) ws (rM 7 2 3 88) #[(.ref a)] h0 (QLy1 Z a eD kE j0 mO eM h0 n0) := by
 refine bodyN (pfn pn8) (Ls := #[rv a]) (fun _ => rfl) ?_
 intro p e s m below meth c s₁ hx hby hlk hret hml hown hnm hZ hh X0 e0
 have D := @db _ _ _ hby Dj40_48
 have K0 : Keep h0 h0 [] := Keep.refl _ _
 show Gt s₁ m 0 _ []
 refine aN X0 hx (D 0 rfl) ?_ rfl rfl
 refine zS X0 hx hZ hown hw 240 241 242 41 (rmLc1_ l hw a eD kE j0 mO eM Z0 Ea Fe Fs Aed Xed Ej0 Mo Sem) e0 hml (D 1 rfl) pd35 (W := 0) (rest := []) ?_ rfl rfl rfl rfl (by decide) (lq rfl) rfl rfl rfl
 rintro T1 L1 v1 X1 ⟨b1, rfl, N1q, K1, szq1, loq1, XL1, P1_0, P1_1⟩
 have KK2 := K0.trans K1 all0
 have sz_b1 := lT K0.1 szq1
 have Z1 := lT Z0 K1.1
 have N1 := Fr.app (Fr.nil n0) N1q
 refine rA X1 hx hret (D 2 rfl) hlk ?_ rfl rfl rfl (by decide) (by decide)
 exact ⟨b1, rfl, N1, KK2, sz_b1, loq1, XL1, P1_0, P1_1⟩
def QLc2_ (Z : State) (a eD : Addr) (kE : ClassId) (j0 j1 mO eM : Addr) (h0 : Heap) (n0 : Nat) (v : Option Value) (h : Heap) (L : List Loc) : Prop := ∃ (b : Addr), v = some (.ref b) ∧ Fr n0 L ∧ Keep h0 h [] ∧ h0.size ≤ b ∧ n0 ≤ b ∧ X_3 Z h b ∧ F_5 Z h b (.ref j0) ∧ F_6 Z h b (.ref j1)
theorem rmLc2_ (hw : HW a0 Z) (a eD : Addr) (kE : ClassId) (j0 j1 mO eM : Addr) (Z0 : n0 ≤ h0.size) (Ea : X_1 Z h0 a) (Fe : F_3 Z h0 a (.ref eD)) (Fs : F_4 Z h0 a (.int 2)) (Aed : Arv Z h0 eD kE (.object "java/lang/Object") 10 [(.ref j0), (.ref j1), .null, .null, .null, .null, .null, .null, .null, .null] .null) (Xed : X_2 Z h0 eD) (Ej0 : X_0 Z h0 j0) (Ej1 : X_0 Z h0 j1) (Mo : Mir Z "[Ljava/lang/Object;" mO) (Sem : S_7 Z h0 (.ref eM)) :
  QMg l Z mN58 jdk_56_method_3_code 2 (some (.object "java/util/List")) ws (rM 6 2 4 76) #[(.ref a)] h0 (QLc2_ Z a eD kE j0 j1 mO eM h0 n0) := by
 refine bodyN (pfn pn13) (Ls := #[rv a, .unset]) (fun _ => rfl) ?_
 intro p e s m below meth c s₁ hx hby hlk hret hml hown hnm hZ hh X0 e0
 have D := @db _ _ _ hby Dj56_3
 have K0 : Keep h0 h0 [] := Keep.refl _ _
 show Gt s₁ m 0 _ []
 refine aN X0 hx (D 0 rfl) ?_ rfl rfl
 show Gt s₁ m 1 _ [(.ref a)]
 obtain ⟨T1, X1, e1, st1⟩ := instNo X0 hx hZ hown (hw 243 rfl) e0 Ea (NI.no (NI.inst (hw 284 rfl)) (hw 244 rfl) (NS.step (hw 244 rfl) (NS.step (hw 245 rfl) (NS.step (hw 246 rfl) (NI.root (NI.inst (hw 284 rfl)) (hw 247 rfl) (by decide)) (by decide)) (by decide)) (by decide)) (by decide)) (g := (mkF m 1 #[rv a, .unset] [(.ref a)])) rfl rfl (D 1 rfl)
 refine Goes.st st1 ?_
 refine gifNo X1 hx (D 2 rfl) (by decide) ?_
 refine aN X1 hx (D 3 rfl) ?_ rfl rfl
 show Gt T1 m 8 #[rv a, .unset] [(.ref a)]
 obtain ⟨T2, X2, e2, st2⟩ := instNo X1 hx hZ hown (hw 248 rfl) e1 Ea (NI.no (NI.sel (hw 55 rfl)) (hw 244 rfl) (NS.step (hw 244 rfl) (NS.step (hw 245 rfl) (NS.step (hw 246 rfl) (NI.root (NI.sel (hw 55 rfl)) (hw 247 rfl) (by decide)) (by decide)) (by decide)) (by decide)) (by decide)) (g := (mkF m 8 #[rv a, .unset] [(.ref a)])) rfl rfl (D 4 rfl)
 refine Goes.st st2 ?_
 refine gT X2 hx (pc := 11) (pc' := 31) (D 5 rfl) (by decide) ?_ (by decide) (by decide)
 refine aN X2 hx (D 6 rfl) ?_ rfl rfl
 refine zI X2 hx hZ hown hw 249 rfl 250 (mvT hZ (hw 251 rfl)) 252 253 254 255 256 257 99 (rmIe l hw a (2 : Int32) Z0 Fs (by decide)) e2 Ea hml (D 7 rfl) pd7 (W := 0) (rest := []) ?_ rfl rfl rfl rfl rfl rfl rfl rfl (by decide) (lq rfl) rfl rfl rfl
 rintro T3 L3 v3 X3 ⟨rfl, N3q, eh3⟩
 have N3 := Fr.app (Fr.nil n0) N3q
 refine gT X3 hx (pc := 37) (pc' := 44) (D 8 rfl) (by decide) ?_ (by decide) (by decide)
 refine aN X3 hx (D 11 rfl) ?_ rfl rfl
 refine zI X3 hx hZ hown hw 258 rfl 259 (mvT hZ (hw 260 rfl)) 261 262 263 264 256 265 99 (rmTa2 l hw a eD kE j0 j1 mO Z0 Fe Fs Aed Xed Ej0 Ej1 Mo) eh3 Ea hml (D 12 rfl) pd27 (W := 0) (rest := []) ?_ rfl rfl rfl rfl rfl rfl rfl rfl (by decide) (lq rfl) rfl rfl rfl
 rintro T4 L4 v4 X4 ⟨b4, kF4, rfl, N4q, K4, szq4, loq4, VF4⟩
 have KK5 := K0.trans K4 all0
 have sz_b4 := lT K0.1 szq4
 have Z4 := lT Z0 K4.1
 have N4 := Fr.app N3 N4q
 have f6 := (Sem.kept K4 ns0)
 refine zS X4 hx hZ hown hw 280 281 282 38 (rmLv2 l hw b4 kF4 j0 j1 eM Z4 VF4 f6) rfl hml (D 13 rfl) pd36 (W := 0) (rest := []) ?_ rfl rfl rfl rfl (by decide) (lq rfl) rfl rfl rfl
 rintro T7 L7 v7 X7 ⟨b7, rfl, N7q, K7, szq7, loq7, XL7, P7_0, P7_1⟩
 have KK8 := KK5.trans K7 all0
 have sz_b7 := lT KK5.1 szq7
 have Z7 := lT Z4 K7.1
 have N7 := Fr.app N4 N7q
 refine rA X7 hx hret (D 14 rfl) hlk ?_ rfl rfl rfl (by decide) (by decide)
 exact ⟨b7, rfl, N7, KK8, sz_b7, loq7, XL7, P7_0, P7_1⟩
def QLy2 (Z : State) (a eD : Addr) (kE : ClassId) (j0 j1 mO eM : Addr) (h0 : Heap) (n0 : Nat) (v : Option Value) (h : Heap) (L : List Loc) : Prop := ∃ (b : Addr), v = some (.ref b) ∧ Fr n0 L ∧ Keep h0 h [] ∧ h0.size ≤ b ∧ n0 ≤ b ∧ X_3 Z h b ∧ F_5 Z h b (.ref j0) ∧ F_6 Z h b (.ref j1)
theorem rmLy2 (hw : HW a0 Z) (a eD : Addr) (kE : ClassId) (j0 j1 mO eM : Addr) (Z0 : n0 ≤ h0.size) (Ea : X_1 Z h0 a) (Fe : F_3 Z h0 a (.ref eD)) (Fs : F_4 Z h0 a (.int 2)) (Aed : Arv Z h0 eD kE (.object "java/lang/Object") 10 [(.ref j0), (.ref j1), .null, .null, .null, .null, .null, .null, .null, .null] .null) (Xed : X_2 Z h0 eD) (Ej0 : X_0 Z h0 j0) (Ej1 : X_0 Z h0 j1) (Mo : Mir Z "[Ljava/lang/Object;" mO) (Sem : S_7 Z h0 (.ref eM)) :
  QMg l Z mN59 jdk_40_method_48_code 1 (some (.object "java/util/List")) ws (rM 7 2 4 89) #[(.ref a)] h0 (QLy2 Z a eD kE j0 j1 mO eM h0 n0) := by
 refine bodyN (pfn pn8) (Ls := #[rv a]) (fun _ => rfl) ?_
 intro p e s m below meth c s₁ hx hby hlk hret hml hown hnm hZ hh X0 e0
 have D := @db _ _ _ hby Dj40_48
 have K0 : Keep h0 h0 [] := Keep.refl _ _
 show Gt s₁ m 0 _ []
 refine aN X0 hx (D 0 rfl) ?_ rfl rfl
 refine zS X0 hx hZ hown hw 240 241 242 41 (rmLc2_ l hw a eD kE j0 j1 mO eM Z0 Ea Fe Fs Aed Xed Ej0 Ej1 Mo Sem) e0 hml (D 1 rfl) pd35 (W := 0) (rest := []) ?_ rfl rfl rfl rfl (by decide) (lq rfl) rfl rfl rfl
 rintro T1 L1 v1 X1 ⟨b1, rfl, N1q, K1, szq1, loq1, XL1, P1_0, P1_1⟩
 have KK2 := K0.trans K1 all0
 have sz_b1 := lT K0.1 szq1
 have Z1 := lT Z0 K1.1
 have N1 := Fr.app (Fr.nil n0) N1q
 refine rA X1 hx hret (D 2 rfl) hlk ?_ rfl rfl rfl (by decide) (by decide)
 exact ⟨b1, rfl, N1, KK2, sz_b1, loq1, XL1, P1_0, P1_1⟩
def sp? (c : Int32) : Bool := c == 44 || c == 59 || c == 32
def fk (c : Nat → Int32) (a b : Nat) : Nat := if a < b ∧ (32 : Int32) < c a then a else if a + 1 < b ∧ (32 : Int32) < c (a + 1) then a + 1 else if a + 2 < b ∧ (32 : Int32) < c (a + 2) then a + 2 else if a + 3 < b ∧ (32 : Int32) < c (a + 3) then a + 3 else b
def lk (c : Nat → Int32) (lo b : Nat) : Nat := if b ≤ lo then lo else if lo + 1 ≤ b ∧ (32 : Int32) < c (b - 1) then b else if lo + 2 ≤ b ∧ (32 : Int32) < c (b - 2) then b - 1 else if lo + 3 ≤ b ∧ (32 : Int32) < c (b - 3) then b - 2 else if lo + 4 ≤ b ∧ (32 : Int32) < c (b - 4) then b - 3 else lo
def sp (c : Nat → Int32) (n : Nat) : Nat → Nat × List (Nat × Nat)
 | 0 => (0, [])
 | i + 1 => if i = n ∨ sp? (c i) = true then (i + 1, if fk c (sp c n i).1 i < lk c (fk c (sp c n i).1 i) i then (sp c n i).2 ++ [(fk c (sp c n i).1 i, lk c (fk c (sp c n i).1 i) i)] else (sp c n i).2) else sp c n i
theorem sp_skip {c : Nat → Int32} {n i st : Nat} {L : List (Nat × Nat)} (h : sp c n i = (st, L)) (q : ¬ i = n) (r : sp? (c i) = false) : sp c n (i + 1) = (st, L) := by
 have : ¬ (i = n ∨ sp? (c i) = true) := by rw [r]; exact fun z => z.elim q (fun z => by cases z)
 rw [sp, if_neg this, h]
theorem fk_blank {c : Nat → Int32} {a b : Nat} (h : ∀ j, a ≤ j → j < b → ¬ (32 : Int32) < c j) : fk c a b = b := by
 unfold fk
 rw [if_neg (fun q => h _ (Nat.le_refl _) q.1 q.2), if_neg (fun q => h _ (by omega) q.1 q.2), if_neg (fun q => h _ (by omega) q.1 q.2), if_neg (fun q => h _ (by omega) q.1 q.2)]
theorem fk_at {c : Nat → Int32} {a b s : Nat} (h4 : b ≤ a + 4) (h1 : a ≤ s) (h2 : s < b) (h : ∀ j, a ≤ j → j < s → ¬ (32 : Int32) < c j) (q : (32 : Int32) < c s) : fk c a b = s := by
 have no : ∀ t, a + t < s → ¬ (a + t < b ∧ (32 : Int32) < c (a + t)) := fun t ht r => h _ (by omega) ht r.2
 have no0 : a < s → ¬ (a < b ∧ (32 : Int32) < c a) := no 0
 unfold fk
 rcases (by omega : s = a ∨ s = a + 1 ∨ s = a + 2 ∨ s = a + 3) with e | e | e | e <;> subst e
 ·rw [if_pos ⟨h2, q⟩]
 ·rw [if_neg (no0 (by omega)), if_pos ⟨h2, q⟩]
 ·rw [if_neg (no0 (by omega)), if_neg (no 1 (by omega)), if_pos ⟨h2, q⟩]
 ·rw [if_neg (no0 (by omega)), if_neg (no 1 (by omega)), if_neg (no 2 (by omega)), if_pos ⟨h2, q⟩]
theorem lk_at {c : Nat → Int32} {lo b e : Nat} (h4 : b ≤ lo + 4) (h1 : lo < e) (h2 : e ≤ b) (h : ∀ j, e ≤ j → j < b → ¬ (32 : Int32) < c j) (q : (32 : Int32) < c (e - 1)) : lk c lo b = e := by
 have no : ∀ t, 1 ≤ t → e ≤ b - t → ¬ (lo + t ≤ b ∧ (32 : Int32) < c (b - t)) := fun t ht he r => h _ he (by omega) r.2
 unfold lk
 rw [if_neg (by omega)]
 rcases (by omega : b = e ∨ b = e + 1 ∨ b = e + 2 ∨ b = e + 3) with z | z | z | z <;> subst z
 ·rw [if_pos ⟨by omega, q⟩]
 ·rw [if_neg (no 1 (by omega) (by omega)), if_pos ⟨by omega, q⟩]; omega
 ·rw [if_neg (no 1 (by omega) (by omega)), if_neg (no 2 (by omega) (by omega)), if_pos ⟨by omega, q⟩]; omega
 ·rw [if_neg (no 1 (by omega) (by omega)), if_neg (no 2 (by omega) (by omega)), if_neg (no 3 (by omega) (by omega)), if_pos ⟨by omega, q⟩]; omega
theorem TB.none {c : Nat → Int32} {a b s e : Nat} (hab : a ≤ b) (h : TB (b - a) (fun j => c (a + j)) s e) (z : e - s = 0) : ¬ fk c a b < lk c (fk c a b) b := by
 obtain ⟨h1, h2, h3, h4, h5⟩ := h
 have hs : s = b - a := h5.elim id (fun q => by omega)
 rw [fk_blank fun j q r => by have : ¬ (32 : Int32) < c (a + (j - a)) := h3 (j - a) (by omega); rwa [show a + (j - a) = j by omega] at this]
 unfold lk; rw [if_pos (Nat.le_refl _)]; omega
theorem TB.some {c : Nat → Int32} {a b s e : Nat} (h4' : b ≤ a + 4) (hab : a ≤ b) (h : TB (b - a) (fun j => c (a + j)) s e) (z : ¬ e - s = 0) : fk c a b = a + s ∧ lk c (a + s) b = a + e := by
 obtain ⟨h1, h2, h3, h4, h5⟩ := h
 obtain ⟨k1, k2, k3⟩ : s < e ∧ (32 : Int32) < c (a + s) ∧ (32 : Int32) < c (a + (e - 1)) := h5.elim (fun q => by omega) id
 refine ⟨fk_at (by omega) (by omega) (by omega) (fun j q r => ?_) k2, lk_at (by omega) (by omega) (by omega) (fun j q r => ?_) (by rw [show a + e - 1 = a + (e - 1) by omega]; exact k3)⟩
 ·have : ¬ (32 : Int32) < c (a + (j - a)) := h3 (j - a) (by omega); rwa [show a + (j - a) = j by omega] at this
 ·have : ¬ (32 : Int32) < c (a + (j - a)) := h4 (j - a) (by omega) (by omega); rwa [show a + (j - a) = j by omega] at this
theorem sp_none {c : Nat → Int32} {n i st s e : Nat} {L : List (Nat × Nat)} (h : sp c n i = (st, L)) (q : i = n ∨ sp? (c i) = true) (hs : st ≤ i) (t : TB (i - st) (fun j => c (st + j)) s e) (z : e - s = 0) : sp c n (i + 1) = (i + 1, L) := by
 rw [sp, if_pos q, h, if_neg (t.none hs z)]
theorem sp_some {c : Nat → Int32} {n i st s e : Nat} {L : List (Nat × Nat)} (h : sp c n i = (st, L)) (q : i = n ∨ sp? (c i) = true) (hs : st ≤ i) (h4 : i ≤ 4) (t : TB (i - st) (fun j => c (st + j)) s e) (z : ¬ e - s = 0) : sp c n (i + 1) = (i + 1, L ++ [(st + s, st + e)]) := by
 obtain ⟨e1, e2⟩ := t.some (by omega) hs z
 obtain ⟨h1, h2, -⟩ := t
 rw [sp, if_pos q, h]
 show (i + 1, if fk c st i < lk c (fk c st i) i then L ++ [(fk c st i, lk c (fk c st i) i)] else L) = _
 rw [e1, e2, if_pos (by omega)]
def orf : Option Addr → Slot | none => .unset | some x => rv x
theorem sp_le {c : Nat → Int32} {n : Nat} : ∀ i, (sp c n i).1 ≤ i
 | 0 => Nat.le_refl _
 | i + 1 => by
  have h := sp_le (c := c) (n := n) i
  rw [sp]
  split
  ·exact Nat.le_refl _
  ·omega
theorem sp_st {c : Nat → Int32} {n i st : Nat} {L : List (Nat × Nat)} (h : sp c n i = (st, L)) : st ≤ i := by have := sp_le (c := c) (n := n) i; rw [h] at this; exact this
theorem Dp12_4 : ∀ q ∈ ([(0, .iload_n 0, 1), (1, .bipush 44, 2), (3, .if_icmp .eq 15, 3), (6, .iload_n 0, 1), (7, .bipush 59, 2), (9, .if_icmp .eq 9, 3), (12, .iload_n 0, 1), (13, .bipush 32, 2), (15, .if_icmp .ne 7, 3), (18, .iconst 1, 1), (19, .goto 4, 3), (22, .iconst 0, 1), (23, .ireturn, 1)] : List (Nat × Instr × Nat)), decode prog_12_method_4_code q.1 = .ok (q.2.1, q.2.2) := by decide +kernel
theorem pn14 : plainName "com/example/engarce/engarce/NameList" = true := by first | (simp [plainName, overriddenIn]; done) | decide +kernel
def QIs1 (Z : State) (ch : Int32) (h0 : Heap) (n0 : Nat) (v : Option Value) (h : Heap) (L : List Loc) : Prop := v = some (.int 1) ∧ Fr n0 L ∧ h = h0
theorem rmIs1 (hw : HW a0 Z) (ch : Int32) (Z0 : n0 ≤ h0.size) (hs : sp? ch = true) :
  QMg l Z mN60 prog_12_method_4_code 1 (some .boolean) ws (rM 0 0 0 0) #[(.int ch)] h0 (QIs1 Z ch h0 n0) := by
 refine bodyN (pfn pn14) (Ls := #[iv ch]) (fun _ => rfl) ?_
 intro p e s m below meth c s₁ hx hby hlk hret hml hown hnm hZ hh X0 e0
 have D := @db _ _ _ hby Dp12_4
 have N0 := Fr.nil n0
 show Gt s₁ m 0 _ []
 refine jN X0 hx (D 0 rfl) ?_ rfl
 refine gbipush X0 hx (D 1 rfl) ?_
 by_cases c1 : ch = (44 : Int32)
 ·refine gY X0 hx (pc := 3) (pc' := 18) (D 2 rfl) (teq c1).1 ?_ (by decide) (by decide)
  refine giconst X0 hx (D 9 rfl) ?_
  refine gG X0 hx (pc := 19) (pc' := 23) (D 10 rfl) ?_ (by decide) (by decide)
  refine rN X0 hx hret (D 12 rfl) (by decide) hlk ?_ (by simp) (by decide) (by decide)
  rw [e0]
  exact ⟨rfl, N0, rfl⟩
 ·refine gicmpNo X0 hx (D 2 rfl) (feq c1).1 ?_
  refine jN X0 hx (D 3 rfl) ?_ rfl
  refine gbipush X0 hx (D 4 rfl) ?_
  by_cases c2 : ch = (59 : Int32)
  ·refine gY X0 hx (pc := 9) (pc' := 18) (D 5 rfl) (teq c2).1 ?_ (by decide) (by decide)
   show Gt s₁ m 18 _ []
   refine giconst X0 hx (D 9 rfl) ?_
   refine gG X0 hx (pc := 19) (pc' := 23) (D 10 rfl) ?_ (by decide) (by decide)
   refine rN X0 hx hret (D 12 rfl) (by decide) hlk ?_ (by simp) (by decide) (by decide)
   rw [e0]
   exact ⟨rfl, N0, rfl⟩
  ·refine gicmpNo X0 hx (D 5 rfl) (feq c2).1 ?_
   refine jN X0 hx (D 6 rfl) ?_ rfl
   refine gbipush X0 hx (D 7 rfl) ?_
   by_cases c3 : ch = (32 : Int32)
   ·refine gicmpNo X0 hx (D 8 rfl) (teq c3).2 ?_
    refine giconst X0 hx (D 9 rfl) ?_
    refine gG X0 hx (pc := 19) (pc' := 23) (D 10 rfl) ?_ (by decide) (by decide)
    refine rN X0 hx hret (D 12 rfl) (by decide) hlk ?_ (by simp) (by decide) (by decide)
    rw [e0]
    exact ⟨rfl, N0, rfl⟩
   ·refine gY X0 hx (pc := 15) (pc' := 22) (D 8 rfl) (feq c3).2 ?_ (by decide) (by decide)
    show Gt s₁ m 22 _ []
    exact absurd hs (by simp [sp?, c1, c2, c3])
def QIs0 (Z : State) (ch : Int32) (h0 : Heap) (n0 : Nat) (v : Option Value) (h : Heap) (L : List Loc) : Prop := v = some (.int 0) ∧ Fr n0 L ∧ h = h0
theorem rmIs0 (hw : HW a0 Z) (ch : Int32) (Z0 : n0 ≤ h0.size) (hs : sp? ch = false) :
  QMg l Z mN60 prog_12_method_4_code 1 (some .boolean) ws (rM 0 0 0 0) #[(.int ch)] h0 (QIs0 Z ch h0 n0) := by
 refine bodyN (pfn pn14) (Ls := #[iv ch]) (fun _ => rfl) ?_
 intro p e s m below meth c s₁ hx hby hlk hret hml hown hnm hZ hh X0 e0
 have D := @db _ _ _ hby Dp12_4
 show Gt s₁ m 0 _ []
 refine jN X0 hx (D 0 rfl) ?_ rfl
 refine gbipush X0 hx (D 1 rfl) ?_
 by_cases c1 : ch = (44 : Int32)
 ·refine gY X0 hx (pc := 3) (pc' := 18) (D 2 rfl) (teq c1).1 ?_ (by decide) (by decide)
  show Gt s₁ m 18 _ []
  exact absurd hs (by simp [sp?, c1])
 ·refine gicmpNo X0 hx (D 2 rfl) (feq c1).1 ?_
  refine jN X0 hx (D 3 rfl) ?_ rfl
  refine gbipush X0 hx (D 4 rfl) ?_
  by_cases c2 : ch = (59 : Int32)
  ·refine gY X0 hx (pc := 9) (pc' := 18) (D 5 rfl) (teq c2).1 ?_ (by decide) (by decide)
   show Gt s₁ m 18 _ []
   exact absurd hs (by simp [sp?, c1, c2])
  ·refine gicmpNo X0 hx (D 5 rfl) (feq c2).1 ?_
   refine jN X0 hx (D 6 rfl) ?_ rfl
   refine gbipush X0 hx (D 7 rfl) ?_
   by_cases c3 : ch = (32 : Int32)
   ·refine gicmpNo X0 hx (D 8 rfl) (teq c3).2 ?_
    show Gt s₁ m 18 _ []
    exact absurd hs (by simp [sp?, c1, c2, c3])
   ·refine gY X0 hx (pc := 15) (pc' := 22) (D 8 rfl) (feq c3).2 ?_ (by decide) (by decide)
    refine giconst X0 hx (D 11 rfl) ?_
    refine rN X0 hx hret (D 12 rfl) (by decide) hlk ?_ (by simp) (by decide) (by decide)
    rw [e0]
    exact ⟨rfl, (Fr.nil n0), rfl⟩
def Res (Z : State) (h : Heap) (c : Nat → Int32) (eL eM r : Addr) : List (Nat × Nat) → Prop
 | [] => r = eL
 | [p] => ∃ (j bb : Addr) (kB : ClassId) (u : Bool), X_3 Z h r ∧ F_5 Z h r (.ref j) ∧ F_6 Z h r (.ref eM) ∧ Sb Z h j bb kB u (p.2 - p.1) (fun i => c (p.1 + i))
 | [p, q] => ∃ (j bb : Addr) (kB : ClassId) (u : Bool) (j' bb' : Addr) (kB' : ClassId) (u' : Bool), X_3 Z h r ∧ F_5 Z h r (.ref j) ∧ F_6 Z h r (.ref j') ∧ Sb Z h j bb kB u (p.2 - p.1) (fun i => c (p.1 + i)) ∧ Sb Z h j' bb' kB' u' (q.2 - q.1) (fun i => c (q.1 + i))
 | _ => False
def QNm (Z : State) (rb bb : Addr) (kb : ClassId) (u : Bool) (n : Nat) (c_ : Nat → Int32) (cs : Int32) (fm : Value) (dE : Addr) (kD : ClassId) (eL eM mO : Addr) (h0 : Heap) (n0 : Nat) (v : Option Value) (h : Heap) (L : List Loc) : Prop := ∃ (r : Addr), v = some (.ref r) ∧ Fr n0 L ∧ Keep h0 h [] ∧ Res Z h c_ eL eM r (sp c_ n (n + 1)).2
theorem Dp12_3 : ∀ q ∈ ([(0, .new 25, 3), (3, .dup, 1), (4, .invokespecial 27, 3), (7, .astore_n 1, 1), (8, .iconst 0, 1), (9, .istore_n 2, 1), (10, .iconst 0, 1), (11, .istore_n 3, 1), (12, .iload_n 3, 1), (13, .aload_n 0, 1), (14, .invokevirtual 28, 3), (17, .if_icmp .gt 60, 3), (20, .iload_n 3, 1), (21, .aload_n 0, 1), (22, .invokevirtual 28, 3), (25, .if_icmp .eq 14, 3), (28, .aload_n 0, 1), (29, .iload_n 3, 1), (30, .invokevirtual 32, 3), (33, .invokestatic 36, 3), (36, .ifCond .eq 35, 3), (39, .aload_n 0, 1), (40, .iload_n 2, 1), (41, .iload_n 3, 1), (42, .invokevirtual 40, 3), (45, .invokevirtual 44, 3), (48, .astore 4, 2), (50, .aload 4, 2), (52, .invokevirtual 7, 3), (55, .ifCond .ne 12, 3), (58, .aload_n 1, 1), (59, .aload 4, 2), (61, .invokeinterface 48 2, 5), (66, .pop, 1), (67, .iload_n 3, 1), (68, .iconst 1, 1), (69, .iadd, 1), (70, .istore_n 2, 1), (71, .iinc 3 1, 3), (74, .goto (-62), 3), (77, .aload_n 1, 1), (78, .invokestatic 52, 3), (81, .areturn, 1)] : List (Nat × Instr × Nat)), decode prog_12_method_3_code q.1 = .ok (q.2.1, q.2.2) := by decide +kernel
theorem nX0 {p : Program} {l : Launch} {e : Env} {s : State} {m : MethodId} {args : Array Value} {below : List Frame} {meth : Method} {c : Code}  (Z : State) (a0 : Array Value) (hw : HW a0 Z) (hx : p.tables.exec = Jvm.exec) (hby : c.code = prog_12_method_3_code) (hlk : meth.locks = false) (hret : meth.sig.returnType = some (.object "java/util/List")) (hml : c.maxLocals = 5) (hnm : meth.name = "names") (vm0 : Vm) (kS0 : Nat) (hS : s.Since vm0 kS0) (hown : (s.setVm vm0).vm.findClass "com/example/engarce/engarce/NameList" = some m.cls) (hZ : Z.Warmed39 (s.setVm vm0).vm) (rb bb : Addr) (kb : ClassId) (u : Bool) (n : Nat) (c_ : Nat → Int32) (cs : Int32) (fm : Value) (dE : Addr) (kD : ClassId) (eL eM mO : Addr) (a : Addr) (mc : Int32) (st : Nat) (z3 : Int32) (o4 : Option Addr) (h0 hh : Heap) (n0 : Nat) (T0 : State) (locs0 : List Loc) (X0 : Stand p l e (rM 9 29 190 140) (s.setVm vm0) m args below meth c T0 locs0 26 163) (e0 : T0.heap = hh) (N0 : Fr n0 locs0) (Z0 : n0 ≤ hh.size) (hk : kS0 ≤ hh.size) (hR : CHr Z ELs s.vm s.heap vm0 hh) (K0 : Keep h0 hh []) (Scs : S_0 Z hh (.int cs)) (hcs : ¬ cs = (0 : Int32)) (Sd : S_2 Z hh (.int 1)) (Sh : S_3 Z hh (.int 0)) (Sl : S_4 Z hh (.int 8)) (Sfm : S_1 Z hh fm) (hfm : fm.isRef = true) (Sde : S_5 Z hh (.ref dE)) (Ade : Arv Z hh dE kD (.object "java/lang/Object") 0 [] .null) (Sem : S_7 Z hh (.ref eM)) (Sel : S_6 Z hh (.ref eL)) (Mo : Mir Z "[Ljava/lang/Object;" mO) (Bs : Sb Z hh rb bb kb u n c_) (Ea : X_1 Z hh a) (ga : n0 ≤ a) (sz_a : h0.size ≤ a) (Fm : F_2 Z hh a (.int mc)) (Fe : F_3 Z hh a (.ref dE)) (Fs : F_4 Z hh a (.int 0)) (hsp : sp c_ n (n + 1) = (st, [])) :
  Goes p e below (EH Z ELs s (QNm Z rb bb kb u n c_ cs fm dE kD eL eM mO h0 n0) (rM 9 29 190 140).cells (rM 9 29 190 140).slots) (T0.setTop (mkF m 77 #[rv rb, rv a, iv (iN st), iv z3, (orf o4)] [])) := by
 have D := @db _ _ _ hby Dp12_3
 have hn4 := Bs.2.2.2.2.1
 show Gt T0 m 77 _ []
 refine aN X0 hx (D 40 rfl) ?_ rfl rfl
 refine zS X0 hx hZ hown hw 237 238 239 38 (rmLy0 l hw a eL Z0 Ea Fs Sel) e0 hml (D 41 rfl) pd35 (W := 0) (rest := []) ?_ rfl rfl rfl rfl (by decide) (lq rfl) rfl rfl rfl
 rintro T1 L1 v1 X1 ⟨rfl, N1q, eh1⟩
 have N1 := Fr.app N0 N1q
 refine Goes.retA X1 hx hret rfl rfl rfl (D 42 rfl) (lvH X1 hlk hS (by rw [eh1]; exact hk) hZ (hELs hw) eh1 hR (vsome hret) ?_ (by decide) (by decide))
 rw [eh1]
 exact ⟨eL, rfl, N1, K0, by rw [hsp]; exact rfl⟩
theorem nX1 {p : Program} {l : Launch} {e : Env} {s : State} {m : MethodId} {args : Array Value} {below : List Frame} {meth : Method} {c : Code}  (Z : State) (a0 : Array Value) (hw : HW a0 Z) (hx : p.tables.exec = Jvm.exec) (hby : c.code = prog_12_method_3_code) (hlk : meth.locks = false) (hret : meth.sig.returnType = some (.object "java/util/List")) (hml : c.maxLocals = 5) (hnm : meth.name = "names") (vm0 : Vm) (kS0 : Nat) (hS : s.Since vm0 kS0) (hown : (s.setVm vm0).vm.findClass "com/example/engarce/engarce/NameList" = some m.cls) (hZ : Z.Warmed39 (s.setVm vm0).vm) (rb bb : Addr) (kb : ClassId) (u : Bool) (n : Nat) (c_ : Nat → Int32) (cs : Int32) (fm : Value) (dE : Addr) (kD : ClassId) (eL eM mO : Addr) (a : Addr) (mc : Int32) (eD : Addr) (kE : ClassId) (j0 q0 : Addr) (y0 : ClassId) (w0 : Bool) (lo0 hi0 : Nat) (st : Nat) (z3 : Int32) (o4 : Option Addr) (h0 hh : Heap) (n0 : Nat) (T0 : State) (locs0 : List Loc) (X0 : Stand p l e (rM 9 29 190 140) (s.setVm vm0) m args below meth c T0 locs0 27 173) (e0 : T0.heap = hh) (N0 : Fr n0 locs0) (Z0 : n0 ≤ hh.size) (hk : kS0 ≤ hh.size) (hR : CHr Z ELs s.vm s.heap vm0 hh) (K0 : Keep h0 hh []) (Scs : S_0 Z hh (.int cs)) (hcs : ¬ cs = (0 : Int32)) (Sd : S_2 Z hh (.int 1)) (Sh : S_3 Z hh (.int 0)) (Sl : S_4 Z hh (.int 8)) (Sfm : S_1 Z hh fm) (hfm : fm.isRef = true) (Sde : S_5 Z hh (.ref dE)) (Sem : S_7 Z hh (.ref eM)) (Sel : S_6 Z hh (.ref eL)) (Mo : Mir Z "[Ljava/lang/Object;" mO) (Bs : Sb Z hh rb bb kb u n c_) (Ea : X_1 Z hh a) (ga : n0 ≤ a) (sz_a : h0.size ≤ a) (Fm : F_2 Z hh a (.int mc)) (Fe : F_3 Z hh a (.ref eD)) (Fs : F_4 Z hh a (.int 1)) (Aed : Arv Z hh eD kE (.object "java/lang/Object") 10 [(.ref j0), .null, .null, .null, .null, .null, .null, .null, .null, .null] .null) (Oed : Ovr Z kE "java/lang/Object") (Xed : X_2 Z hh eD) (ged : n0 ≤ eD) (sz_eD : h0.size ≤ eD) (nad : a ≠ eD) (B0 : Sb Z hh j0 q0 y0 w0 (hi0 - lo0) (fun i => c_ (lo0 + i))) (hsp : sp c_ n (n + 1) = (st, [(lo0, hi0)])) :
  Goes p e below (EH Z ELs s (QNm Z rb bb kb u n c_ cs fm dE kD eL eM mO h0 n0) (rM 9 29 190 140).cells (rM 9 29 190 140).slots) (T0.setTop (mkF m 77 #[rv rb, rv a, iv (iN st), iv z3, (orf o4)] [])) := by
 have D := @db _ _ _ hby Dp12_3
 have hn4 := Bs.2.2.2.2.1
 show Gt T0 m 77 _ []
 refine aN X0 hx (D 40 rfl) ?_ rfl rfl
 refine zS X0 hx hZ hown hw 237 238 239 38 (rmLy1 l hw a eD kE j0 mO eM Z0 Ea Fe Fs Aed Xed B0.1 Mo Sem) e0 hml (D 41 rfl) pd35 (W := 0) (rest := []) ?_ rfl rfl rfl rfl (by decide) (lq rfl) rfl rfl rfl
 rintro T1 L1 v1 X1 ⟨b1, rfl, N1q, K1, szq1, loq1, XL1, P1_0, P1_1⟩
 have hk := lT hk K1.1
 have hR := hR.trans (CHr.keep K1 sf0 hR.1)
 have KK2 := K0.trans K1 all0
 have sz_b1 := lT K0.1 szq1
 have Z1 := lT Z0 K1.1
 have N1 := Fr.app N0 N1q
 have f3 := (B0.keep K1 nb0)
 refine Goes.retA X1 hx hret rfl rfl rfl (D 42 rfl) (lvH X1 hlk hS hk hZ (hELs hw) rfl hR (vsome hret) ?_ (by decide) (by decide))
 exact ⟨b1, rfl, N1, KK2, by rw [hsp]; exact ⟨j0, q0, y0, w0, XL1, P1_0, P1_1, f3⟩⟩
theorem nX2 {p : Program} {l : Launch} {e : Env} {s : State} {m : MethodId} {args : Array Value} {below : List Frame} {meth : Method} {c : Code}  (Z : State) (a0 : Array Value) (hw : HW a0 Z) (hx : p.tables.exec = Jvm.exec) (hby : c.code = prog_12_method_3_code) (hlk : meth.locks = false) (hret : meth.sig.returnType = some (.object "java/util/List")) (hml : c.maxLocals = 5) (hnm : meth.name = "names") (vm0 : Vm) (kS0 : Nat) (hS : s.Since vm0 kS0) (hown : (s.setVm vm0).vm.findClass "com/example/engarce/engarce/NameList" = some m.cls) (hZ : Z.Warmed39 (s.setVm vm0).vm) (rb bb : Addr) (kb : ClassId) (u : Bool) (n : Nat) (c_ : Nat → Int32) (cs : Int32) (fm : Value) (dE : Addr) (kD : ClassId) (eL eM mO : Addr) (a : Addr) (mc : Int32) (eD : Addr) (kE : ClassId) (j0 q0 : Addr) (y0 : ClassId) (w0 : Bool) (lo0 hi0 : Nat) (j1 q1 : Addr) (y1 : ClassId) (w1 : Bool) (lo1 hi1 : Nat) (st : Nat) (z3 : Int32) (o4 : Option Addr) (h0 hh : Heap) (n0 : Nat) (T0 : State) (locs0 : List Loc) (X0 : Stand p l e (rM 9 29 190 140) (s.setVm vm0) m args below meth c T0 locs0 27 173) (e0 : T0.heap = hh) (N0 : Fr n0 locs0) (Z0 : n0 ≤ hh.size) (hk : kS0 ≤ hh.size) (hR : CHr Z ELs s.vm s.heap vm0 hh) (K0 : Keep h0 hh []) (Scs : S_0 Z hh (.int cs)) (hcs : ¬ cs = (0 : Int32)) (Sd : S_2 Z hh (.int 1)) (Sh : S_3 Z hh (.int 0)) (Sl : S_4 Z hh (.int 8)) (Sfm : S_1 Z hh fm) (hfm : fm.isRef = true) (Sde : S_5 Z hh (.ref dE)) (Sem : S_7 Z hh (.ref eM)) (Sel : S_6 Z hh (.ref eL)) (Mo : Mir Z "[Ljava/lang/Object;" mO) (Bs : Sb Z hh rb bb kb u n c_) (Ea : X_1 Z hh a) (ga : n0 ≤ a) (sz_a : h0.size ≤ a) (Fm : F_2 Z hh a (.int mc)) (Fe : F_3 Z hh a (.ref eD)) (Fs : F_4 Z hh a (.int 2)) (Aed : Arv Z hh eD kE (.object "java/lang/Object") 10 [(.ref j0), (.ref j1), .null, .null, .null, .null, .null, .null, .null, .null] .null) (Oed : Ovr Z kE "java/lang/Object") (Xed : X_2 Z hh eD) (ged : n0 ≤ eD) (sz_eD : h0.size ≤ eD) (nad : a ≠ eD) (B0 : Sb Z hh j0 q0 y0 w0 (hi0 - lo0) (fun i => c_ (lo0 + i))) (B1 : Sb Z hh j1 q1 y1 w1 (hi1 - lo1) (fun i => c_ (lo1 + i))) (hsp : sp c_ n (n + 1) = (st, [(lo0, hi0), (lo1, hi1)])) :
  Goes p e below (EH Z ELs s (QNm Z rb bb kb u n c_ cs fm dE kD eL eM mO h0 n0) (rM 9 29 190 140).cells (rM 9 29 190 140).slots) (T0.setTop (mkF m 77 #[rv rb, rv a, iv (iN st), iv z3, (orf o4)] [])) := by
 have D := @db _ _ _ hby Dp12_3
 have hn4 := Bs.2.2.2.2.1
 show Gt T0 m 77 _ []
 refine aN X0 hx (D 40 rfl) ?_ rfl rfl
 refine zS X0 hx hZ hown hw 237 238 239 38 (rmLy2 l hw a eD kE j0 j1 mO eM Z0 Ea Fe Fs Aed Xed B0.1 B1.1 Mo Sem) e0 hml (D 41 rfl) pd35 (W := 0) (rest := []) ?_ rfl rfl rfl rfl (by decide) (lq rfl) rfl rfl rfl
 rintro T1 L1 v1 X1 ⟨b1, rfl, N1q, K1, szq1, loq1, XL1, P1_0, P1_1⟩
 have hk := lT hk K1.1
 have hR := hR.trans (CHr.keep K1 sf0 hR.1)
 have KK2 := K0.trans K1 all0
 have sz_b1 := lT K0.1 szq1
 have Z1 := lT Z0 K1.1
 have N1 := Fr.app N0 N1q
 have f3 := (B0.keep K1 nb0)
 have f4 := (B1.keep K1 nb0)
 refine Goes.retA X1 hx hret rfl rfl rfl (D 42 rfl) (lvH X1 hlk hS hk hZ (hELs hw) rfl hR (vsome hret) ?_ (by decide) (by decide))
 exact ⟨b1, rfl, N1, KK2, by rw [hsp]; exact ⟨j0, q0, y0, w0, j1, q1, y1, w1, XL1, P1_0, P1_1, f3, f4⟩⟩
theorem pd37 : parseMethodDescriptor "(II)Ljava/lang/String;" = some ⟨[.int, .int], some (.object "java/lang/String")⟩ := by decide +kernel
theorem pd38 : parseMethodDescriptor "()Ljava/lang/String;" = some ⟨[], some (.object "java/lang/String")⟩ := by decide +kernel
theorem pd39 : parseMethodDescriptor "(Ljava/lang/Object;)Z" = some ⟨[(.object "java/lang/Object")], some .boolean⟩ := by decide +kernel
theorem nR4_0 {p : Program} {l : Launch} {e : Env} {s : State} {m : MethodId} {args : Array Value} {below : List Frame} {meth : Method} {c : Code}  (Z : State) (a0 : Array Value) (hw : HW a0 Z) (hx : p.tables.exec = Jvm.exec) (hby : c.code = prog_12_method_3_code) (hlk : meth.locks = false) (hret : meth.sig.returnType = some (.object "java/util/List")) (hml : c.maxLocals = 5) (hnm : meth.name = "names") (vm0 : Vm) (kS0 : Nat) (hS : s.Since vm0 kS0) (hown : (s.setVm vm0).vm.findClass "com/example/engarce/engarce/NameList" = some m.cls) (hZ : Z.Warmed39 (s.setVm vm0).vm) (rb bb : Addr) (kb : ClassId) (u : Bool) (n : Nat) (c_ : Nat → Int32) (cs : Int32) (fm : Value) (dE : Addr) (kD : ClassId) (eL eM mO : Addr) (a : Addr) (mc : Int32) (st : Nat) (o4 : Option Addr) (h0 hh : Heap) (n0 : Nat) (T0 : State) (locs0 : List Loc) (X0 : Stand p l e (rM 9 29 190 140) (s.setVm vm0) m args below meth c T0 locs0 21 131) (e0 : T0.heap = hh) (N0 : Fr n0 locs0) (Z0 : n0 ≤ hh.size) (hk : kS0 ≤ hh.size) (hR : CHr Z ELs s.vm s.heap vm0 hh) (K0 : Keep h0 hh []) (Scs : S_0 Z hh (.int cs)) (hcs : ¬ cs = (0 : Int32)) (Sd : S_2 Z hh (.int 1)) (Sh : S_3 Z hh (.int 0)) (Sl : S_4 Z hh (.int 8)) (Sfm : S_1 Z hh fm) (hfm : fm.isRef = true) (Sde : S_5 Z hh (.ref dE)) (Ade : Arv Z hh dE kD (.object "java/lang/Object") 0 [] .null) (Sem : S_7 Z hh (.ref eM)) (Sel : S_6 Z hh (.ref eL)) (Mo : Mir Z "[Ljava/lang/Object;" mO) (Bs : Sb Z hh rb bb kb u n c_) (Ea : X_1 Z hh a) (ga : n0 ≤ a) (sz_a : h0.size ≤ a) (Fm : F_2 Z hh a (.int mc)) (Fe : F_3 Z hh a (.ref dE)) (Fs : F_4 Z hh a (.int 0)) (hsp : sp c_ n 4 = (st, [])) (h2k : 2 * 0 ≤ st) (hin : 4 ≤ n) (hq : 4 = n ∨ sp? (c_ 4) = true) :
  Goes p e below (EH Z ELs s (QNm Z rb bb kb u n c_ cs fm dE kD eL eM mO h0 n0) (rM 9 29 190 140).cells (rM 9 29 190 140).slots) (T0.setTop (mkF m 39 #[rv rb, rv a, iv (iN st), iv 4, (orf o4)] [])) := by
 have D := @db _ _ _ hby Dp12_3
 have hn4 := Bs.2.2.2.2.1
 have hst := sp_st hsp
 show Gt T0 m 39 _ []
 refine aN X0 hx (D 21 rfl) ?_ rfl rfl
 refine jN X0 hx (D 22 rfl) ?_ rfl
 refine jN X0 hx (D 23 rfl) ?_ rfl
 obtain ⟨cq1, kq1, qa1, qb1, qc1⟩ := isOf hZ e0 Bs.1
 obtain ⟨_, _, ⟨T1, L1, k1, n1⟩, -, X1, hS1, hg1, ⟨Lc1, hQ1, l1, y1, z1, hCr1⟩, st1⟩ := X0.virtualBackS hx (y := mN34) (z := mN34) hown (mvT hZ (hw 161 rfl)) (mvT hZ (hw 162 rfl)) (notFace_of_selects (args := #[]) (mvT hZ (hw 164 rfl))) (mvT hZ (hw 164 rfl)) (mvT hZ (hw 163 rfl)) (by decide) (backOfSH (W := 0) (rmSu l hw rb bb kb u n c_ st 4 cs fm Z0 Scs hcs Sd Sh Sl Sfm hfm Bs (by omega) (by omega)) hZ (hw 165 rfl) (hw 8 rfl) (by decide) (by decide) (hELs hw) hR.1) qa1 qc1 (g := (mkF m 42 #[rv rb, rv a, iv (iN st), iv 4, (orf o4)] [(.int 4), (.int (iN st)), (.ref rb)])) rfl hml.symm (Steps.refl _) (argsL := [(.int (iN st)), (.int 4)]) (rest := []) (lenOf pd37 rfl) rfl (by show 2 * 0 + _ ≤ _; exact Nat.le_of_eq rfl) (D 24 rfl) (fun _ _ => ⟨rfl, e0, (by decide : 21 + 3 ≤ 29), (by decide : 131 + 20 ≤ 190)⟩)
 dsimp only [Pt.U, Pt.locs, Pt.cells, Pt.slots] at X1 l1 y1 z1 st1 hQ1 hS1 hg1 hCr1
 subst l1 y1 z1
 obtain ⟨X1, hS, hZ, hown⟩ := rebS hS (by rw [e0]; exact hk) X1 hS1 hg1 hZ hown
 have hk := Nat.le_refl T1.heap.size
 have hR := hR.trans hCr1
 obtain ⟨r1, bb1, kB1, u1, rfl, N1q, K1, Sb1⟩ := hQ1
 have KK2 := K0.trans K1 all0
 have Z1 := lT Z0 K1.1
 have N1 := Fr.app N0 N1q
 refine Goes.sts st1 ?_
 have f3 := (Scs.kept K1 ns0)
 have f4 := (Sd.kept K1 ns0)
 have f5 := (Sh.kept K1 ns0)
 have f6 := (Sl.kept K1 ns0)
 obtain ⟨cq7, kq7, qa7, qb7, qc7⟩ := isOf hZ rfl Sb1.1
 obtain ⟨_, _, ⟨T7, L7, k7, n7⟩, -, X7, hS7, hg7, ⟨Lc7, hQ7, l7, y7, z7, hCr7⟩, st7⟩ := X1.virtualBackS hx (y := mN37) (z := mN37) hown (mvT hZ (hw 173 rfl)) (mvT hZ (hw 174 rfl)) (notFace_of_selects (args := #[]) (mvT hZ (hw 176 rfl))) (mvT hZ (hw 176 rfl)) (mvT hZ (hw 175 rfl)) (by decide) (backOfSH (W := 0) (rmTm l hw r1 bb1 kB1 u1 (4 - st) (fun i => c_ (st + i)) cs Z1 f3 hcs f4 f5 f6 Sb1) hZ (hw 177 rfl) (hw 8 rfl) (by decide) (by decide) (hELs hw) hR.1) qa7 qc7 (g := (mkF m 45 #[rv rb, rv a, iv (iN st), iv 4, (orf o4)] [(.ref r1)])) rfl hml.symm (Steps.refl _) (argsL := []) (rest := []) (lenOf pd38 rfl) rfl (by show 2 * 0 + _ ≤ _; exact Nat.le_of_eq rfl) (D 25 rfl) (fun _ _ => ⟨rfl, rfl, (by decide : 24 + 2 ≤ 29), (by decide : 151 + 12 ≤ 190)⟩)
 dsimp only [Pt.U, Pt.locs, Pt.cells, Pt.slots] at X7 l7 y7 z7 st7 hQ7 hS7 hg7 hCr7
 subst l7 y7 z7
 obtain ⟨X7, hS, hZ, hown⟩ := rebS hS hk X7 hS7 hg7 hZ hown
 have hk := Nat.le_refl T7.heap.size
 have hR := hR.trans hCr7
 obtain ⟨s7, e7, r7, bb7, kC7, u7, rfl, N7q, K7, tb7, Sb7⟩ := hQ7
 have KK8 := KK2.trans K7 all0
 have Z7 := lT Z1 K7.1
 have N7 := Fr.app N1 N7q
 refine Goes.sts st7 ?_
 show Gt T7 m 48 #[rv rb, rv a, iv (iN st), iv 4, (orf o4)] [(.ref r7)]
 have tb_ := id tb7
 obtain ⟨t1_, t2_, -⟩ := tb_
 rcases Nat.decEq (e7 - s7) 0 with cZ | cZ
 ·refine gastore X7 hx (D 26 rfl) rfl (l' := #[rv rb, rv a, iv (iN st), iv 4, rv r7]) (by cases o4 <;> rfl) ?_
  refine aW X7 hx (D 27 rfl) ?_ rfl rfl
  refine zV X7 hx hZ hown hw 31 rfl 32 34 33 35 8 (rmEm0 l hw r7 bb7 kC7 u7 (e7 - s7) (fun i => (fun i => c_ (st + i)) (s7 + i)) Z7 Sb7 cZ) rfl Sb7.1 hml (D 28 rfl) pd7 (W := 0) (rest := []) ?_ rfl rfl rfl rfl rfl (by decide) (lq rfl) rfl rfl rfl
  rintro T9 L9 v9 X9 ⟨rfl, N9q, eh9⟩
  have N9 := Fr.app N7 N9q
  refine gifNo X9 hx (D 29 rfl) (by decide) ?_
  refine aN X9 hx (D 30 rfl) ?_ rfl rfl
  refine aW X9 hx (D 31 rfl) ?_ rfl rfl
  have f10 := ((Ea.keep K1).keep K7)
  have f11 := ((Fm.keep K1 nin0).keep K7 nin0)
  have f12 := ((Fe.keep K1 nin0).keep K7 nin0)
  have f13 := ((Fs.keep K1 nin0).keep K7 nin0)
  have f14 := ((Sde.kept K1 ns0).kept K7 ns0)
  have f15 := ((Ade.keep K1 nin0).keep K7 nin0)
  have f17 := ((Ea.keep K1).keep K7)
  refine zI X9 hx hZ hown hw 203 rfl 204 (mvT hZ (hw 205 rfl)) 206 207 208 209 210 211 99 (rmA10 l hw a dE kD mc r7 Z7 f10 ga f11 f12 f13 f14 f15 (Ne.symm (kinNe f15.kin f10 (hw 98 rfl))) Sb7.1) eh9 f17 hml (D 32 rfl) pd39 (W := 0) (rest := []) ?_ rfl rfl rfl rfl rfl rfl rfl rfl (by decide) (lq rfl) rfl rfl rfl
  rintro T16 L16 v16 X16 ⟨bE16, kE16, rfl, N16q, K16, szq16, loq16, R16_0, R16_1, R16_2, VE16, OE16, XE16⟩
  have hk := lT hk K16.1
  have hR := hR.trans (CHr.keep K16 (sfS (Safe.exa hZ.alike f10 (by decide) (by decide)) sf0) hR.1)
  have KK18 := KK8.trans K16 (allS (Or.inr sz_a) all0)
  have sz_bE16 := lT KK8.1 szq16
  have Z16 := lT Z7 K16.1
  have N16 := Fr.app N9 N16q
  show Gt T16 m 66 _ [(.int 1)]
  refine Goes.st (fun tg kg => XT.pop X16.here hx rfl (D 33 rfl) rfl rfl kg) ?_
  refine jN X16 hx (D 34 rfl) ?_ rfl
  refine giconst X16 hx (D 35 rfl) ?_
  refine giadd X16 hx (D 36 rfl) ?_
  show Gt T16 m 70 #[rv rb, rv a, iv (iN st), iv 4, rv r7] [(.int ((4 : Int32) + (1 : Int32)))]
  rw [show ((4 : Int32) + (1 : Int32)) = (5 : Int32) from by decide]
  refine gistoreN X16 hx (D 37 rfl) (l' := #[rv rb, rv a, iv 5, iv 4, rv r7]) rfl ?_
  refine giinc X16 hx (D 38 rfl) rfl (l' := #[rv rb, rv a, iv 5, iv 5, rv r7]) rfl ?_
  refine gG X16 hx (pc := 74) (pc' := 12) (D 39 rfl) ?_ (by decide) (by decide)
  show Gt T16 m 12 _ []
  refine jN X16 hx (D 8 rfl) ?_ rfl
  refine aN X16 hx (D 9 rfl) ?_ rfl rfl
  have f19 := (f10.keep K16)
  have f20 := (((Bs.1.keep K1).keep K7).keep K16)
  have f21 := (((Bs.keep K1 nb0).keep K7 nb0).keep K16 (bS (ninS (exaNe f20 f19 (by decide)) nin0) (bS (ninS (kinNe (((Bs.2.2.2.1.kin.keep K1).keep K7).keep K16) f19 (hw 98 rfl)) nin0) b0)))
  have f22 := ((f3.kept K7 ns0).kept K16 (nsS (Exa.nostat f10) ns0))
  have f24 := (((Bs.1.keep K1).keep K7).keep K16)
  refine zV X16 hx hZ hown hw 121 rfl 122 124 123 125 8 (rmLe l hw rb bb kb u n c_ cs Z16 f22 hcs f21) rfl f24 hml (D 10 rfl) pd20 (W := 1) (rest := [(.int 5)]) ?_ rfl rfl rfl rfl rfl (by decide) (lq rfl) rfl rfl rfl
  rintro T23 L23 v23 X23 ⟨rfl, N23q, eh23⟩
  have N23 := Fr.app N16 N23q
  refine gY X23 hx (pc := 17) (pc' := 77) (D 11 rfl) (tlt (ylN n 5 (by omega) (by omega) (by omega))).2.2.1 ?_ (by decide) (by decide)
  show Gt T23 m 77 _ []
  have f25 := ((f4.kept K7 ns0).kept K16 (nsS (Exa.nostat f10) ns0))
  have f26 := ((f5.kept K7 ns0).kept K16 (nsS (Exa.nostat f10) ns0))
  have f27 := ((f6.kept K7 ns0).kept K16 (nsS (Exa.nostat f10) ns0))
  have f28 := (((Sfm.kept K1 ns0).kept K7 ns0).kept K16 (nsS (Exa.nostat f10) ns0))
  have f29 := (f14.kept K16 (nsS (Exa.nostat f10) ns0))
  have f30 := (((Sem.kept K1 ns0).kept K7 ns0).kept K16 (nsS (Exa.nostat f10) ns0))
  have f31 := (((Sel.kept K1 ns0).kept K7 ns0).kept K16 (nsS (Exa.nostat f10) ns0))
  have ne32 := neL f10.lt szq16
  have f33 := (Sb7.1.keep K16)
  have f34 := (Sb7.keep K16 (bS (ninS (exaNe f33 f19 (by decide)) nin0) (bS (ninS (kinNe (Sb7.2.2.2.1.kin.keep K16) f19 (hw 98 rfl)) nin0) b0)))
  exact nX1 Z a0 hw hx hby hlk hret hml hnm _ _ hS hown hZ rb bb kb u n c_ cs fm dE kD eL eM mO a ((mc + (1 : Int32))) bE16 kE16 r7 bb7 kC7 u7 ((st + s7)) ((st + e7)) 5 (5 : Int32) (some r7) h0 T16.heap n0 T23 _ (X23.more (by decide : 27 ≤ 27) (by decide : 173 ≤ 173)) eh23 N23 Z16 hk hR KK18 f22 hcs f25 f26 f27 f28 hfm f29 f30 f31 Mo f21 f19 ga sz_a R16_0 R16_1 R16_2 VE16 OE16 XE16 loq16 sz_bE16 ne32 (Sb.cast f34 (by omega) (fun i hi => by show c_ (st + (s7 + i)) = c_ (st + s7 + i); rw [Nat.add_assoc])) (by rw [show n + 1 = 5 by omega]; exact (sp_some hsp hq hst (by decide) tb7 cZ))
 ·refine gastore X7 hx (D 26 rfl) rfl (l' := #[rv rb, rv a, iv (iN st), iv 4, rv r7]) (by cases o4 <;> rfl) ?_
  refine aW X7 hx (D 27 rfl) ?_ rfl rfl
  refine zV X7 hx hZ hown hw 31 rfl 32 34 33 35 8 (rmEm1 l hw r7 bb7 kC7 u7 (e7 - s7) (fun i => (fun i => c_ (st + i)) (s7 + i)) Z7 Sb7 cZ) rfl Sb7.1 hml (D 28 rfl) pd7 (W := 0) (rest := []) ?_ rfl rfl rfl rfl rfl (by decide) (lq rfl) rfl rfl rfl
  rintro T35 L35 v35 X35 ⟨rfl, N35q, eh35⟩
  have N35 := Fr.app N7 N35q
  refine gT X35 hx (pc := 55) (pc' := 67) (D 29 rfl) (by decide) ?_ (by decide) (by decide)
  refine jN X35 hx (D 34 rfl) ?_ rfl
  refine giconst X35 hx (D 35 rfl) ?_
  refine giadd X35 hx (D 36 rfl) ?_
  show Gt T35 m 70 _ [(.int ((4 : Int32) + (1 : Int32)))]
  rw [show ((4 : Int32) + (1 : Int32)) = (5 : Int32) from by decide]
  refine gistoreN X35 hx (D 37 rfl) (l' := #[rv rb, rv a, iv 5, iv 4, rv r7]) rfl ?_
  refine giinc X35 hx (D 38 rfl) rfl (l' := #[rv rb, rv a, iv 5, iv 5, rv r7]) rfl ?_
  refine gG X35 hx (pc := 74) (pc' := 12) (D 39 rfl) ?_ (by decide) (by decide)
  show Gt T35 m 12 _ []
  refine jN X35 hx (D 8 rfl) ?_ rfl
  refine aN X35 hx (D 9 rfl) ?_ rfl rfl
  have f36 := ((Bs.keep K1 nb0).keep K7 nb0)
  have f37 := (f3.kept K7 ns0)
  have f39 := ((Bs.1.keep K1).keep K7)
  refine zV X35 hx hZ hown hw 121 rfl 122 124 123 125 8 (rmLe l hw rb bb kb u n c_ cs Z7 f37 hcs f36) eh35 f39 hml (D 10 rfl) pd20 (W := 1) (rest := [(.int 5)]) ?_ rfl rfl rfl rfl rfl (by decide) (lq rfl) rfl rfl rfl
  rintro T38 L38 v38 X38 ⟨rfl, N38q, eh38⟩
  have N38 := Fr.app N35 N38q
  refine gY X38 hx (pc := 17) (pc' := 77) (D 11 rfl) (tlt (ylN n 5 (by omega) (by omega) (by omega))).2.2.1 ?_ (by decide) (by decide)
  show Gt T38 m 77 _ []
  have f40 := (f4.kept K7 ns0)
  have f41 := (f5.kept K7 ns0)
  have f42 := (f6.kept K7 ns0)
  have f43 := ((Sfm.kept K1 ns0).kept K7 ns0)
  have f44 := ((Sde.kept K1 ns0).kept K7 ns0)
  have f45 := ((Ade.keep K1 nin0).keep K7 nin0)
  have f46 := ((Sem.kept K1 ns0).kept K7 ns0)
  have f47 := ((Sel.kept K1 ns0).kept K7 ns0)
  have f48 := ((Ea.keep K1).keep K7)
  have f49 := ((Fm.keep K1 nin0).keep K7 nin0)
  have f50 := ((Fe.keep K1 nin0).keep K7 nin0)
  have f51 := ((Fs.keep K1 nin0).keep K7 nin0)
  exact nX0 Z a0 hw hx hby hlk hret hml hnm _ _ hS hown hZ rb bb kb u n c_ cs fm dE kD eL eM mO a mc 5 (5 : Int32) (some r7) h0 T7.heap n0 T38 _ (X38.more (by decide : 26 ≤ 26) (by decide : 163 ≤ 163)) eh38 N38 Z7 hk hR KK8 f37 hcs f40 f41 f42 f43 hfm f44 f45 f46 f47 Mo f36 f48 ga sz_a f49 f50 f51 (by rw [show n + 1 = 5 by omega]; exact (sp_none hsp hq hst tb7 cZ))
theorem pd40 : parseMethodDescriptor "(I)C" = some ⟨[.int], some .char⟩ := by decide +kernel
theorem nH4_0 {p : Program} {l : Launch} {e : Env} {s : State} {m : MethodId} {args : Array Value} {below : List Frame} {meth : Method} {c : Code}  (Z : State) (a0 : Array Value) (hw : HW a0 Z) (hx : p.tables.exec = Jvm.exec) (hby : c.code = prog_12_method_3_code) (hlk : meth.locks = false) (hret : meth.sig.returnType = some (.object "java/util/List")) (hml : c.maxLocals = 5) (hnm : meth.name = "names") (vm0 : Vm) (kS0 : Nat) (hS : s.Since vm0 kS0) (hown : (s.setVm vm0).vm.findClass "com/example/engarce/engarce/NameList" = some m.cls) (hZ : Z.Warmed39 (s.setVm vm0).vm) (rb bb : Addr) (kb : ClassId) (u : Bool) (n : Nat) (c_ : Nat → Int32) (cs : Int32) (fm : Value) (dE : Addr) (kD : ClassId) (eL eM mO : Addr) (a : Addr) (mc : Int32) (st : Nat) (o4 : Option Addr) (h0 hh : Heap) (n0 : Nat) (T0 : State) (locs0 : List Loc) (X0 : Stand p l e (rM 9 29 190 140) (s.setVm vm0) m args below meth c T0 locs0 21 131) (e0 : T0.heap = hh) (N0 : Fr n0 locs0) (Z0 : n0 ≤ hh.size) (hk : kS0 ≤ hh.size) (hR : CHr Z ELs s.vm s.heap vm0 hh) (K0 : Keep h0 hh []) (Scs : S_0 Z hh (.int cs)) (hcs : ¬ cs = (0 : Int32)) (Sd : S_2 Z hh (.int 1)) (Sh : S_3 Z hh (.int 0)) (Sl : S_4 Z hh (.int 8)) (Sfm : S_1 Z hh fm) (hfm : fm.isRef = true) (Sde : S_5 Z hh (.ref dE)) (Ade : Arv Z hh dE kD (.object "java/lang/Object") 0 [] .null) (Sem : S_7 Z hh (.ref eM)) (Sel : S_6 Z hh (.ref eL)) (Mo : Mir Z "[Ljava/lang/Object;" mO) (Bs : Sb Z hh rb bb kb u n c_) (Ea : X_1 Z hh a) (ga : n0 ≤ a) (sz_a : h0.size ≤ a) (Fm : F_2 Z hh a (.int mc)) (Fe : F_3 Z hh a (.ref dE)) (Fs : F_4 Z hh a (.int 0)) (hsp : sp c_ n 4 = (st, [])) (h2k : 2 * 0 ≤ st) (hin : 4 ≤ n + 1) :
  Goes p e below (EH Z ELs s (QNm Z rb bb kb u n c_ cs fm dE kD eL eM mO h0 n0) (rM 9 29 190 140).cells (rM 9 29 190 140).slots) (T0.setTop (mkF m 12 #[rv rb, rv a, iv (iN st), iv 4, (orf o4)] [])) := by
 have D := @db _ _ _ hby Dp12_3
 have hn4 := Bs.2.2.2.2.1
 have hst := sp_st hsp
 show Gt T0 m 12 _ []
 rcases Nat.lt_or_ge n 4 with cX | cX
 ·refine jN X0 hx (D 8 rfl) ?_ rfl
  refine aN X0 hx (D 9 rfl) ?_ rfl rfl
  refine zV X0 hx hZ hown hw 121 rfl 122 124 123 125 8 (rmLe l hw rb bb kb u n c_ cs Z0 Scs hcs Bs) e0 Bs.1 hml (D 10 rfl) pd20 (W := 1) (rest := [(.int 4)]) ?_ rfl rfl rfl rfl rfl (by decide) (lq rfl) rfl rfl rfl
  rintro T1 L1 v1 X1 ⟨rfl, N1q, eh1⟩
  have N1 := Fr.app N0 N1q
  refine gY X1 hx (pc := 17) (pc' := 77) (D 11 rfl) (tlt (ylN n 4 (by omega) (by omega) (by omega))).2.2.1 ?_ (by decide) (by decide)
  show Gt T1 m 77 _ []
  exact nX0 Z a0 hw hx hby hlk hret hml hnm _ _ hS hown hZ rb bb kb u n c_ cs fm dE kD eL eM mO a mc st (4 : Int32) o4 h0 hh n0 T1 _ (X1.more (by decide : 21 ≤ 26) (by decide : 131 ≤ 163)) eh1 N1 Z0 hk hR K0 Scs hcs Sd Sh Sl Sfm hfm Sde Ade Sem Sel Mo Bs Ea ga sz_a Fm Fe Fs (by rw [show n + 1 = 4 by omega]; exact hsp)
 ·rcases Nat.decEq 4 n with cI | cI
  ·refine jN X0 hx (D 8 rfl) ?_ rfl
   refine aN X0 hx (D 9 rfl) ?_ rfl rfl
   refine zV X0 hx hZ hown hw 121 rfl 122 124 123 125 8 (rmLe l hw rb bb kb u n c_ cs Z0 Scs hcs Bs) e0 Bs.1 hml (D 10 rfl) pd20 (W := 1) (rest := [(.int 4)]) ?_ rfl rfl rfl rfl rfl (by decide) (lq rfl) rfl rfl rfl
   rintro T2 L2 v2 X2 ⟨rfl, N2q, eh2⟩
   have N2 := Fr.app N0 N2q
   refine gicmpNo X2 hx (D 11 rfl) (flt (nlN n 4 (by omega) (by omega) (by omega))).2.2.1 ?_
   refine jN X2 hx (D 12 rfl) ?_ rfl
   refine aN X2 hx (D 13 rfl) ?_ rfl rfl
   refine zV X2 hx hZ hown hw 121 rfl 122 124 123 125 8 (rmLe l hw rb bb kb u n c_ cs Z0 Scs hcs Bs) eh2 Bs.1 hml (D 14 rfl) pd20 (W := 1) (rest := [(.int 4)]) ?_ rfl rfl rfl rfl rfl (by decide) (lq rfl) rfl rfl rfl
   rintro T3 L3 v3 X3 ⟨rfl, N3q, eh3⟩
   have N3 := Fr.app N2 N3q
   refine gicmpNo X3 hx (D 15 rfl) (feq (neN 4 n (by omega) (by omega) (by omega))).1 ?_
   refine aN X3 hx (D 16 rfl) ?_ rfl rfl
   show Gt T3 m 29 _ [(.ref rb)]
   refine jN X3 hx (D 17 rfl) ?_ rfl
   refine zV X3 hx hZ hown hw 131 rfl 132 134 133 135 8 (rmCa l hw rb bb kb u n c_ 4 cs fm Z0 Scs hcs Sd Sh Sl Sfm hfm Bs (by omega)) eh3 Bs.1 hml (D 18 rfl) pd40 (W := 0) (rest := []) ?_ rfl rfl rfl rfl rfl (by decide) (lq rfl) rfl rfl rfl
   rintro T4 L4 v4 X4 ⟨rfl, N4q, eh4⟩
   have N4 := Fr.app N3 N4q
   show Gt T4 m 33 _ [(.int (c_ 4))]
   omega
  ·refine jN X0 hx (D 8 rfl) ?_ rfl
   refine aN X0 hx (D 9 rfl) ?_ rfl rfl
   refine zV X0 hx hZ hown hw 121 rfl 122 124 123 125 8 (rmLe l hw rb bb kb u n c_ cs Z0 Scs hcs Bs) e0 Bs.1 hml (D 10 rfl) pd20 (W := 1) (rest := [(.int 4)]) ?_ rfl rfl rfl rfl rfl (by decide) (lq rfl) rfl rfl rfl
   rintro T5 L5 v5 X5 ⟨rfl, N5q, eh5⟩
   have N5 := Fr.app N0 N5q
   refine gicmpNo X5 hx (D 11 rfl) (flt (nlN n 4 (by omega) (by omega) (by omega))).2.2.1 ?_
   refine jN X5 hx (D 12 rfl) ?_ rfl
   refine aN X5 hx (D 13 rfl) ?_ rfl rfl
   refine zV X5 hx hZ hown hw 121 rfl 122 124 123 125 8 (rmLe l hw rb bb kb u n c_ cs Z0 Scs hcs Bs) eh5 Bs.1 hml (D 14 rfl) pd20 (W := 1) (rest := [(.int 4)]) ?_ rfl rfl rfl rfl rfl (by decide) (lq rfl) rfl rfl rfl
   rintro T6 L6 v6 X6 ⟨rfl, N6q, eh6⟩
   have N6 := Fr.app N5 N6q
   refine gY X6 hx (pc := 25) (pc' := 39) (D 15 rfl) (teq (yeN 4 n (by omega) (by omega) (by omega))).1 ?_ (by decide) (by decide)
   show Gt T6 m 39 _ []
   exact nR4_0 Z a0 hw hx hby hlk hret hml hnm _ _ hS hown hZ rb bb kb u n c_ cs fm dE kD eL eM mO a mc st o4 h0 hh n0 T6 _ X6 eh6 N6 Z0 hk hR K0 Scs hcs Sd Sh Sl Sfm hfm Sde Ade Sem Sel Mo Bs Ea ga sz_a Fm Fe Fs hsp h2k (by omega) (Or.inl cI)
theorem nR4_1 {p : Program} {l : Launch} {e : Env} {s : State} {m : MethodId} {args : Array Value} {below : List Frame} {meth : Method} {c : Code}  (Z : State) (a0 : Array Value) (hw : HW a0 Z) (hx : p.tables.exec = Jvm.exec) (hby : c.code = prog_12_method_3_code) (hlk : meth.locks = false) (hret : meth.sig.returnType = some (.object "java/util/List")) (hml : c.maxLocals = 5) (hnm : meth.name = "names") (vm0 : Vm) (kS0 : Nat) (hS : s.Since vm0 kS0) (hown : (s.setVm vm0).vm.findClass "com/example/engarce/engarce/NameList" = some m.cls) (hZ : Z.Warmed39 (s.setVm vm0).vm) (rb bb : Addr) (kb : ClassId) (u : Bool) (n : Nat) (c_ : Nat → Int32) (cs : Int32) (fm : Value) (dE : Addr) (kD : ClassId) (eL eM mO : Addr) (a : Addr) (mc : Int32) (eD : Addr) (kE : ClassId) (j0 q0 : Addr) (y0 : ClassId) (w0 : Bool) (lo0 hi0 : Nat) (st : Nat) (o4 : Option Addr) (h0 hh : Heap) (n0 : Nat) (T0 : State) (locs0 : List Loc) (X0 : Stand p l e (rM 9 29 190 140) (s.setVm vm0) m args below meth c T0 locs0 22 141) (e0 : T0.heap = hh) (N0 : Fr n0 locs0) (Z0 : n0 ≤ hh.size) (hk : kS0 ≤ hh.size) (hR : CHr Z ELs s.vm s.heap vm0 hh) (K0 : Keep h0 hh []) (Scs : S_0 Z hh (.int cs)) (hcs : ¬ cs = (0 : Int32)) (Sd : S_2 Z hh (.int 1)) (Sh : S_3 Z hh (.int 0)) (Sl : S_4 Z hh (.int 8)) (Sfm : S_1 Z hh fm) (hfm : fm.isRef = true) (Sde : S_5 Z hh (.ref dE)) (Sem : S_7 Z hh (.ref eM)) (Sel : S_6 Z hh (.ref eL)) (Mo : Mir Z "[Ljava/lang/Object;" mO) (Bs : Sb Z hh rb bb kb u n c_) (Ea : X_1 Z hh a) (ga : n0 ≤ a) (sz_a : h0.size ≤ a) (Fm : F_2 Z hh a (.int mc)) (Fe : F_3 Z hh a (.ref eD)) (Fs : F_4 Z hh a (.int 1)) (Aed : Arv Z hh eD kE (.object "java/lang/Object") 10 [(.ref j0), .null, .null, .null, .null, .null, .null, .null, .null, .null] .null) (Oed : Ovr Z kE "java/lang/Object") (Xed : X_2 Z hh eD) (ged : n0 ≤ eD) (sz_eD : h0.size ≤ eD) (nad : a ≠ eD) (B0 : Sb Z hh j0 q0 y0 w0 (hi0 - lo0) (fun i => c_ (lo0 + i))) (hsp : sp c_ n 4 = (st, [(lo0, hi0)])) (h2k : 2 * 1 ≤ st) (hin : 4 ≤ n) (hq : 4 = n ∨ sp? (c_ 4) = true) :
  Goes p e below (EH Z ELs s (QNm Z rb bb kb u n c_ cs fm dE kD eL eM mO h0 n0) (rM 9 29 190 140).cells (rM 9 29 190 140).slots) (T0.setTop (mkF m 39 #[rv rb, rv a, iv (iN st), iv 4, (orf o4)] [])) := by
 have D := @db _ _ _ hby Dp12_3
 have hn4 := Bs.2.2.2.2.1
 have hst := sp_st hsp
 show Gt T0 m 39 _ []
 refine aN X0 hx (D 21 rfl) ?_ rfl rfl
 refine jN X0 hx (D 22 rfl) ?_ rfl
 refine jN X0 hx (D 23 rfl) ?_ rfl
 obtain ⟨cq1, kq1, qa1, qb1, qc1⟩ := isOf hZ e0 Bs.1
 obtain ⟨_, _, ⟨T1, L1, k1, n1⟩, -, X1, hS1, hg1, ⟨Lc1, hQ1, l1, y1, z1, hCr1⟩, st1⟩ := X0.virtualBackS hx (y := mN34) (z := mN34) hown (mvT hZ (hw 161 rfl)) (mvT hZ (hw 162 rfl)) (notFace_of_selects (args := #[]) (mvT hZ (hw 164 rfl))) (mvT hZ (hw 164 rfl)) (mvT hZ (hw 163 rfl)) (by decide) (backOfSH (W := 0) (rmSu l hw rb bb kb u n c_ st 4 cs fm Z0 Scs hcs Sd Sh Sl Sfm hfm Bs (by omega) (by omega)) hZ (hw 165 rfl) (hw 8 rfl) (by decide) (by decide) (hELs hw) hR.1) qa1 qc1 (g := (mkF m 42 #[rv rb, rv a, iv (iN st), iv 4, (orf o4)] [(.int 4), (.int (iN st)), (.ref rb)])) rfl hml.symm (Steps.refl _) (argsL := [(.int (iN st)), (.int 4)]) (rest := []) (lenOf pd37 rfl) rfl (by show 2 * 0 + _ ≤ _; exact Nat.le_of_eq rfl) (D 24 rfl) (fun _ _ => ⟨rfl, e0, (by decide : 22 + 3 ≤ 29), (by decide : 141 + 20 ≤ 190)⟩)
 dsimp only [Pt.U, Pt.locs, Pt.cells, Pt.slots] at X1 l1 y1 z1 st1 hQ1 hS1 hg1 hCr1
 subst l1 y1 z1
 obtain ⟨X1, hS, hZ, hown⟩ := rebS hS (by rw [e0]; exact hk) X1 hS1 hg1 hZ hown
 have hk := Nat.le_refl T1.heap.size
 have hR := hR.trans hCr1
 obtain ⟨r1, bb1, kB1, u1, rfl, N1q, K1, Sb1⟩ := hQ1
 have KK2 := K0.trans K1 all0
 have Z1 := lT Z0 K1.1
 have N1 := Fr.app N0 N1q
 refine Goes.sts st1 ?_
 have f3 := (Scs.kept K1 ns0)
 have f4 := (Sd.kept K1 ns0)
 have f5 := (Sh.kept K1 ns0)
 have f6 := (Sl.kept K1 ns0)
 obtain ⟨cq7, kq7, qa7, qb7, qc7⟩ := isOf hZ rfl Sb1.1
 obtain ⟨_, _, ⟨T7, L7, k7, n7⟩, -, X7, hS7, hg7, ⟨Lc7, hQ7, l7, y7, z7, hCr7⟩, st7⟩ := X1.virtualBackS hx (y := mN37) (z := mN37) hown (mvT hZ (hw 173 rfl)) (mvT hZ (hw 174 rfl)) (notFace_of_selects (args := #[]) (mvT hZ (hw 176 rfl))) (mvT hZ (hw 176 rfl)) (mvT hZ (hw 175 rfl)) (by decide) (backOfSH (W := 0) (rmTm l hw r1 bb1 kB1 u1 (4 - st) (fun i => c_ (st + i)) cs Z1 f3 hcs f4 f5 f6 Sb1) hZ (hw 177 rfl) (hw 8 rfl) (by decide) (by decide) (hELs hw) hR.1) qa7 qc7 (g := (mkF m 45 #[rv rb, rv a, iv (iN st), iv 4, (orf o4)] [(.ref r1)])) rfl hml.symm (Steps.refl _) (argsL := []) (rest := []) (lenOf pd38 rfl) rfl (by show 2 * 0 + _ ≤ _; exact Nat.le_of_eq rfl) (D 25 rfl) (fun _ _ => ⟨rfl, rfl, (by decide : 25 + 2 ≤ 29), (by decide : 161 + 12 ≤ 190)⟩)
 dsimp only [Pt.U, Pt.locs, Pt.cells, Pt.slots] at X7 l7 y7 z7 st7 hQ7 hS7 hg7 hCr7
 subst l7 y7 z7
 obtain ⟨X7, hS, hZ, hown⟩ := rebS hS hk X7 hS7 hg7 hZ hown
 have hk := Nat.le_refl T7.heap.size
 have hR := hR.trans hCr7
 obtain ⟨s7, e7, r7, bb7, kC7, u7, rfl, N7q, K7, tb7, Sb7⟩ := hQ7
 have KK8 := KK2.trans K7 all0
 have Z7 := lT Z1 K7.1
 have N7 := Fr.app N1 N7q
 refine Goes.sts st7 ?_
 show Gt T7 m 48 #[rv rb, rv a, iv (iN st), iv 4, (orf o4)] [(.ref r7)]
 have tb_ := id tb7
 obtain ⟨t1_, t2_, -⟩ := tb_
 rcases Nat.decEq (e7 - s7) 0 with cZ | cZ
 ·refine gastore X7 hx (D 26 rfl) rfl (l' := #[rv rb, rv a, iv (iN st), iv 4, rv r7]) (by cases o4 <;> rfl) ?_
  refine aW X7 hx (D 27 rfl) ?_ rfl rfl
  refine zV X7 hx hZ hown hw 31 rfl 32 34 33 35 8 (rmEm0 l hw r7 bb7 kC7 u7 (e7 - s7) (fun i => (fun i => c_ (st + i)) (s7 + i)) Z7 Sb7 cZ) rfl Sb7.1 hml (D 28 rfl) pd7 (W := 0) (rest := []) ?_ rfl rfl rfl rfl rfl (by decide) (lq rfl) rfl rfl rfl
  rintro T9 L9 v9 X9 ⟨rfl, N9q, eh9⟩
  have N9 := Fr.app N7 N9q
  refine gifNo X9 hx (D 29 rfl) (by decide) ?_
  refine aN X9 hx (D 30 rfl) ?_ rfl rfl
  refine aW X9 hx (D 31 rfl) ?_ rfl rfl
  have f10 := ((Ea.keep K1).keep K7)
  have f11 := ((Fm.keep K1 nin0).keep K7 nin0)
  have f12 := ((Fe.keep K1 nin0).keep K7 nin0)
  have f13 := ((Fs.keep K1 nin0).keep K7 nin0)
  have f14 := ((Aed.keep K1 nin0).keep K7 nin0)
  have f15 := ((Xed.keep K1).keep K7)
  have f17 := ((Ea.keep K1).keep K7)
  refine zI X9 hx hZ hown hw 203 rfl 204 (mvT hZ (hw 205 rfl)) 206 207 208 209 210 211 99 (rmA11 l hw a eD kE mc j0 r7 Z7 f10 ga f11 f12 f13 f14 Oed ged nad Sb7.1) eh9 f17 hml (D 32 rfl) pd39 (W := 0) (rest := []) ?_ rfl rfl rfl rfl rfl rfl rfl rfl (by decide) (lq rfl) rfl rfl rfl
  rintro T16 L16 v16 X16 ⟨rfl, N16q, K16, R16_0, R16_1, R16_2, VE16⟩
  have hk := lT hk K16.1
  have hR := hR.trans (CHr.keep K16 (sfS (Safe.exa hZ.alike f10 (by decide) (by decide)) (sfS (Safe.exa hZ.alike f15 (by decide) (by decide)) sf0)) hR.1)
  have KK18 := KK8.trans K16 (allS (Or.inr sz_a) (allS (Or.inr sz_eD) all0))
  have Z16 := lT Z7 K16.1
  have N16 := Fr.app N9 N16q
  show Gt T16 m 66 _ [(.int 1)]
  refine Goes.st (fun tg kg => XT.pop X16.here hx rfl (D 33 rfl) rfl rfl kg) ?_
  refine jN X16 hx (D 34 rfl) ?_ rfl
  refine giconst X16 hx (D 35 rfl) ?_
  refine giadd X16 hx (D 36 rfl) ?_
  show Gt T16 m 70 #[rv rb, rv a, iv (iN st), iv 4, rv r7] [(.int ((4 : Int32) + (1 : Int32)))]
  rw [show ((4 : Int32) + (1 : Int32)) = (5 : Int32) from by decide]
  refine gistoreN X16 hx (D 37 rfl) (l' := #[rv rb, rv a, iv 5, iv 4, rv r7]) rfl ?_
  refine giinc X16 hx (D 38 rfl) rfl (l' := #[rv rb, rv a, iv 5, iv 5, rv r7]) rfl ?_
  refine gG X16 hx (pc := 74) (pc' := 12) (D 39 rfl) ?_ (by decide) (by decide)
  show Gt T16 m 12 _ []
  refine jN X16 hx (D 8 rfl) ?_ rfl
  refine aN X16 hx (D 9 rfl) ?_ rfl rfl
  have f19 := (f10.keep K16)
  have f20 := (((Bs.1.keep K1).keep K7).keep K16)
  have f21 := (f15.keep K16)
  have f22 := (((Bs.keep K1 nb0).keep K7 nb0).keep K16 (bS (ninS (exaNe f20 f19 (by decide)) (ninS (exaNe f20 f21 (by decide)) nin0)) (bS (ninS (kinNe (((Bs.2.2.2.1.kin.keep K1).keep K7).keep K16) f19 (hw 98 rfl)) (ninS (kinTy (((Bs.2.2.2.1.kin.keep K1).keep K7).keep K16) VE16.kin (by decide)) nin0)) b0)))
  have f23 := ((f3.kept K7 ns0).kept K16 (nsS (Exa.nostat f10) (nsS (Exa.nostat f15) ns0)))
  have f25 := (((Bs.1.keep K1).keep K7).keep K16)
  refine zV X16 hx hZ hown hw 121 rfl 122 124 123 125 8 (rmLe l hw rb bb kb u n c_ cs Z16 f23 hcs f22) rfl f25 hml (D 10 rfl) pd20 (W := 1) (rest := [(.int 5)]) ?_ rfl rfl rfl rfl rfl (by decide) (lq rfl) rfl rfl rfl
  rintro T24 L24 v24 X24 ⟨rfl, N24q, eh24⟩
  have N24 := Fr.app N16 N24q
  refine gY X24 hx (pc := 17) (pc' := 77) (D 11 rfl) (tlt (ylN n 5 (by omega) (by omega) (by omega))).2.2.1 ?_ (by decide) (by decide)
  show Gt T24 m 77 _ []
  have f26 := ((f4.kept K7 ns0).kept K16 (nsS (Exa.nostat f10) (nsS (Exa.nostat f15) ns0)))
  have f27 := ((f5.kept K7 ns0).kept K16 (nsS (Exa.nostat f10) (nsS (Exa.nostat f15) ns0)))
  have f28 := ((f6.kept K7 ns0).kept K16 (nsS (Exa.nostat f10) (nsS (Exa.nostat f15) ns0)))
  have f29 := (((Sfm.kept K1 ns0).kept K7 ns0).kept K16 (nsS (Exa.nostat f10) (nsS (Exa.nostat f15) ns0)))
  have f30 := (((Sde.kept K1 ns0).kept K7 ns0).kept K16 (nsS (Exa.nostat f10) (nsS (Exa.nostat f15) ns0)))
  have f31 := (((Sem.kept K1 ns0).kept K7 ns0).kept K16 (nsS (Exa.nostat f10) (nsS (Exa.nostat f15) ns0)))
  have f32 := (((Sel.kept K1 ns0).kept K7 ns0).kept K16 (nsS (Exa.nostat f10) (nsS (Exa.nostat f15) ns0)))
  have f33 := (((B0.1.keep K1).keep K7).keep K16)
  have f34 := (((B0.keep K1 nb0).keep K7 nb0).keep K16 (bS (ninS (exaNe f33 f19 (by decide)) (ninS (exaNe f33 f21 (by decide)) nin0)) (bS (ninS (kinNe (((B0.2.2.2.1.kin.keep K1).keep K7).keep K16) f19 (hw 98 rfl)) (ninS (kinTy (((B0.2.2.2.1.kin.keep K1).keep K7).keep K16) VE16.kin (by decide)) nin0)) b0)))
  have f35 := (Sb7.1.keep K16)
  have f36 := (Sb7.keep K16 (bS (ninS (exaNe f35 f19 (by decide)) (ninS (exaNe f35 f21 (by decide)) nin0)) (bS (ninS (kinNe (Sb7.2.2.2.1.kin.keep K16) f19 (hw 98 rfl)) (ninS (kinTy (Sb7.2.2.2.1.kin.keep K16) VE16.kin (by decide)) nin0)) b0)))
  exact nX2 Z a0 hw hx hby hlk hret hml hnm _ _ hS hown hZ rb bb kb u n c_ cs fm dE kD eL eM mO a ((mc + (1 : Int32))) eD kE j0 q0 y0 w0 lo0 hi0 r7 bb7 kC7 u7 ((st + s7)) ((st + e7)) 5 (5 : Int32) (some r7) h0 T16.heap n0 T24 _ (X24.more (by decide : 27 ≤ 27) (by decide : 173 ≤ 173)) eh24 N24 Z16 hk hR KK18 f23 hcs f26 f27 f28 f29 hfm f30 f31 f32 Mo f22 f19 ga sz_a R16_0 R16_1 R16_2 VE16 Oed f21 ged sz_eD nad f34 (Sb.cast f36 (by omega) (fun i hi => by show c_ (st + (s7 + i)) = c_ (st + s7 + i); rw [Nat.add_assoc])) (by rw [show n + 1 = 5 by omega]; exact (sp_some hsp hq hst (by decide) tb7 cZ))
 ·refine gastore X7 hx (D 26 rfl) rfl (l' := #[rv rb, rv a, iv (iN st), iv 4, rv r7]) (by cases o4 <;> rfl) ?_
  refine aW X7 hx (D 27 rfl) ?_ rfl rfl
  refine zV X7 hx hZ hown hw 31 rfl 32 34 33 35 8 (rmEm1 l hw r7 bb7 kC7 u7 (e7 - s7) (fun i => (fun i => c_ (st + i)) (s7 + i)) Z7 Sb7 cZ) rfl Sb7.1 hml (D 28 rfl) pd7 (W := 0) (rest := []) ?_ rfl rfl rfl rfl rfl (by decide) (lq rfl) rfl rfl rfl
  rintro T37 L37 v37 X37 ⟨rfl, N37q, eh37⟩
  have N37 := Fr.app N7 N37q
  refine gT X37 hx (pc := 55) (pc' := 67) (D 29 rfl) (by decide) ?_ (by decide) (by decide)
  refine jN X37 hx (D 34 rfl) ?_ rfl
  refine giconst X37 hx (D 35 rfl) ?_
  refine giadd X37 hx (D 36 rfl) ?_
  show Gt T37 m 70 _ [(.int ((4 : Int32) + (1 : Int32)))]
  rw [show ((4 : Int32) + (1 : Int32)) = (5 : Int32) from by decide]
  refine gistoreN X37 hx (D 37 rfl) (l' := #[rv rb, rv a, iv 5, iv 4, rv r7]) rfl ?_
  refine giinc X37 hx (D 38 rfl) rfl (l' := #[rv rb, rv a, iv 5, iv 5, rv r7]) rfl ?_
  refine gG X37 hx (pc := 74) (pc' := 12) (D 39 rfl) ?_ (by decide) (by decide)
  show Gt T37 m 12 _ []
  refine jN X37 hx (D 8 rfl) ?_ rfl
  refine aN X37 hx (D 9 rfl) ?_ rfl rfl
  have f38 := ((Bs.keep K1 nb0).keep K7 nb0)
  have f39 := (f3.kept K7 ns0)
  have f41 := ((Bs.1.keep K1).keep K7)
  refine zV X37 hx hZ hown hw 121 rfl 122 124 123 125 8 (rmLe l hw rb bb kb u n c_ cs Z7 f39 hcs f38) eh37 f41 hml (D 10 rfl) pd20 (W := 1) (rest := [(.int 5)]) ?_ rfl rfl rfl rfl rfl (by decide) (lq rfl) rfl rfl rfl
  rintro T40 L40 v40 X40 ⟨rfl, N40q, eh40⟩
  have N40 := Fr.app N37 N40q
  refine gY X40 hx (pc := 17) (pc' := 77) (D 11 rfl) (tlt (ylN n 5 (by omega) (by omega) (by omega))).2.2.1 ?_ (by decide) (by decide)
  show Gt T40 m 77 _ []
  have f42 := (f4.kept K7 ns0)
  have f43 := (f5.kept K7 ns0)
  have f44 := (f6.kept K7 ns0)
  have f45 := ((Sfm.kept K1 ns0).kept K7 ns0)
  have f46 := ((Sde.kept K1 ns0).kept K7 ns0)
  have f47 := ((Sem.kept K1 ns0).kept K7 ns0)
  have f48 := ((Sel.kept K1 ns0).kept K7 ns0)
  have f49 := ((Ea.keep K1).keep K7)
  have f50 := ((Fm.keep K1 nin0).keep K7 nin0)
  have f51 := ((Fe.keep K1 nin0).keep K7 nin0)
  have f52 := ((Fs.keep K1 nin0).keep K7 nin0)
  have f53 := ((Aed.keep K1 nin0).keep K7 nin0)
  have f54 := ((Xed.keep K1).keep K7)
  have f55 := ((B0.keep K1 nb0).keep K7 nb0)
  exact nX1 Z a0 hw hx hby hlk hret hml hnm _ _ hS hown hZ rb bb kb u n c_ cs fm dE kD eL eM mO a mc eD kE j0 q0 y0 w0 lo0 hi0 5 (5 : Int32) (some r7) h0 T7.heap n0 T40 _ (X40.more (by decide : 27 ≤ 27) (by decide : 173 ≤ 173)) eh40 N40 Z7 hk hR KK8 f39 hcs f42 f43 f44 f45 hfm f46 f47 f48 Mo f38 f49 ga sz_a f50 f51 f52 f53 Oed f54 ged sz_eD nad f55 (by rw [show n + 1 = 5 by omega]; exact (sp_none hsp hq hst tb7 cZ))
theorem nH4_1 {p : Program} {l : Launch} {e : Env} {s : State} {m : MethodId} {args : Array Value} {below : List Frame} {meth : Method} {c : Code}  (Z : State) (a0 : Array Value) (hw : HW a0 Z) (hx : p.tables.exec = Jvm.exec) (hby : c.code = prog_12_method_3_code) (hlk : meth.locks = false) (hret : meth.sig.returnType = some (.object "java/util/List")) (hml : c.maxLocals = 5) (hnm : meth.name = "names") (vm0 : Vm) (kS0 : Nat) (hS : s.Since vm0 kS0) (hown : (s.setVm vm0).vm.findClass "com/example/engarce/engarce/NameList" = some m.cls) (hZ : Z.Warmed39 (s.setVm vm0).vm) (rb bb : Addr) (kb : ClassId) (u : Bool) (n : Nat) (c_ : Nat → Int32) (cs : Int32) (fm : Value) (dE : Addr) (kD : ClassId) (eL eM mO : Addr) (a : Addr) (mc : Int32) (eD : Addr) (kE : ClassId) (j0 q0 : Addr) (y0 : ClassId) (w0 : Bool) (lo0 hi0 : Nat) (st : Nat) (o4 : Option Addr) (h0 hh : Heap) (n0 : Nat) (T0 : State) (locs0 : List Loc) (X0 : Stand p l e (rM 9 29 190 140) (s.setVm vm0) m args below meth c T0 locs0 22 141) (e0 : T0.heap = hh) (N0 : Fr n0 locs0) (Z0 : n0 ≤ hh.size) (hk : kS0 ≤ hh.size) (hR : CHr Z ELs s.vm s.heap vm0 hh) (K0 : Keep h0 hh []) (Scs : S_0 Z hh (.int cs)) (hcs : ¬ cs = (0 : Int32)) (Sd : S_2 Z hh (.int 1)) (Sh : S_3 Z hh (.int 0)) (Sl : S_4 Z hh (.int 8)) (Sfm : S_1 Z hh fm) (hfm : fm.isRef = true) (Sde : S_5 Z hh (.ref dE)) (Sem : S_7 Z hh (.ref eM)) (Sel : S_6 Z hh (.ref eL)) (Mo : Mir Z "[Ljava/lang/Object;" mO) (Bs : Sb Z hh rb bb kb u n c_) (Ea : X_1 Z hh a) (ga : n0 ≤ a) (sz_a : h0.size ≤ a) (Fm : F_2 Z hh a (.int mc)) (Fe : F_3 Z hh a (.ref eD)) (Fs : F_4 Z hh a (.int 1)) (Aed : Arv Z hh eD kE (.object "java/lang/Object") 10 [(.ref j0), .null, .null, .null, .null, .null, .null, .null, .null, .null] .null) (Oed : Ovr Z kE "java/lang/Object") (Xed : X_2 Z hh eD) (ged : n0 ≤ eD) (sz_eD : h0.size ≤ eD) (nad : a ≠ eD) (B0 : Sb Z hh j0 q0 y0 w0 (hi0 - lo0) (fun i => c_ (lo0 + i))) (hsp : sp c_ n 4 = (st, [(lo0, hi0)])) (h2k : 2 * 1 ≤ st) (hin : 4 ≤ n + 1) :
  Goes p e below (EH Z ELs s (QNm Z rb bb kb u n c_ cs fm dE kD eL eM mO h0 n0) (rM 9 29 190 140).cells (rM 9 29 190 140).slots) (T0.setTop (mkF m 12 #[rv rb, rv a, iv (iN st), iv 4, (orf o4)] [])) := by
 have D := @db _ _ _ hby Dp12_3
 have hn4 := Bs.2.2.2.2.1
 have hst := sp_st hsp
 show Gt T0 m 12 _ []
 rcases Nat.lt_or_ge n 4 with cX | cX
 ·refine jN X0 hx (D 8 rfl) ?_ rfl
  refine aN X0 hx (D 9 rfl) ?_ rfl rfl
  refine zV X0 hx hZ hown hw 121 rfl 122 124 123 125 8 (rmLe l hw rb bb kb u n c_ cs Z0 Scs hcs Bs) e0 Bs.1 hml (D 10 rfl) pd20 (W := 1) (rest := [(.int 4)]) ?_ rfl rfl rfl rfl rfl (by decide) (lq rfl) rfl rfl rfl
  rintro T1 L1 v1 X1 ⟨rfl, N1q, eh1⟩
  have N1 := Fr.app N0 N1q
  refine gY X1 hx (pc := 17) (pc' := 77) (D 11 rfl) (tlt (ylN n 4 (by omega) (by omega) (by omega))).2.2.1 ?_ (by decide) (by decide)
  show Gt T1 m 77 _ []
  exact nX1 Z a0 hw hx hby hlk hret hml hnm _ _ hS hown hZ rb bb kb u n c_ cs fm dE kD eL eM mO a mc eD kE j0 q0 y0 w0 lo0 hi0 st (4 : Int32) o4 h0 hh n0 T1 _ (X1.more (by decide : 22 ≤ 27) (by decide : 141 ≤ 173)) eh1 N1 Z0 hk hR K0 Scs hcs Sd Sh Sl Sfm hfm Sde Sem Sel Mo Bs Ea ga sz_a Fm Fe Fs Aed Oed Xed ged sz_eD nad B0 (by rw [show n + 1 = 4 by omega]; exact hsp)
 ·rcases Nat.decEq 4 n with cI | cI
  ·refine jN X0 hx (D 8 rfl) ?_ rfl
   refine aN X0 hx (D 9 rfl) ?_ rfl rfl
   refine zV X0 hx hZ hown hw 121 rfl 122 124 123 125 8 (rmLe l hw rb bb kb u n c_ cs Z0 Scs hcs Bs) e0 Bs.1 hml (D 10 rfl) pd20 (W := 1) (rest := [(.int 4)]) ?_ rfl rfl rfl rfl rfl (by decide) (lq rfl) rfl rfl rfl
   rintro T2 L2 v2 X2 ⟨rfl, N2q, eh2⟩
   have N2 := Fr.app N0 N2q
   refine gicmpNo X2 hx (D 11 rfl) (flt (nlN n 4 (by omega) (by omega) (by omega))).2.2.1 ?_
   refine jN X2 hx (D 12 rfl) ?_ rfl
   refine aN X2 hx (D 13 rfl) ?_ rfl rfl
   refine zV X2 hx hZ hown hw 121 rfl 122 124 123 125 8 (rmLe l hw rb bb kb u n c_ cs Z0 Scs hcs Bs) eh2 Bs.1 hml (D 14 rfl) pd20 (W := 1) (rest := [(.int 4)]) ?_ rfl rfl rfl rfl rfl (by decide) (lq rfl) rfl rfl rfl
   rintro T3 L3 v3 X3 ⟨rfl, N3q, eh3⟩
   have N3 := Fr.app N2 N3q
   refine gicmpNo X3 hx (D 15 rfl) (feq (neN 4 n (by omega) (by omega) (by omega))).1 ?_
   refine aN X3 hx (D 16 rfl) ?_ rfl rfl
   show Gt T3 m 29 _ [(.ref rb)]
   refine jN X3 hx (D 17 rfl) ?_ rfl
   refine zV X3 hx hZ hown hw 131 rfl 132 134 133 135 8 (rmCa l hw rb bb kb u n c_ 4 cs fm Z0 Scs hcs Sd Sh Sl Sfm hfm Bs (by omega)) eh3 Bs.1 hml (D 18 rfl) pd40 (W := 0) (rest := []) ?_ rfl rfl rfl rfl rfl (by decide) (lq rfl) rfl rfl rfl
   rintro T4 L4 v4 X4 ⟨rfl, N4q, eh4⟩
   have N4 := Fr.app N3 N4q
   show Gt T4 m 33 _ [(.int (c_ 4))]
   omega
  ·refine jN X0 hx (D 8 rfl) ?_ rfl
   refine aN X0 hx (D 9 rfl) ?_ rfl rfl
   refine zV X0 hx hZ hown hw 121 rfl 122 124 123 125 8 (rmLe l hw rb bb kb u n c_ cs Z0 Scs hcs Bs) e0 Bs.1 hml (D 10 rfl) pd20 (W := 1) (rest := [(.int 4)]) ?_ rfl rfl rfl rfl rfl (by decide) (lq rfl) rfl rfl rfl
   rintro T5 L5 v5 X5 ⟨rfl, N5q, eh5⟩
   have N5 := Fr.app N0 N5q
   refine gicmpNo X5 hx (D 11 rfl) (flt (nlN n 4 (by omega) (by omega) (by omega))).2.2.1 ?_
   refine jN X5 hx (D 12 rfl) ?_ rfl
   refine aN X5 hx (D 13 rfl) ?_ rfl rfl
   refine zV X5 hx hZ hown hw 121 rfl 122 124 123 125 8 (rmLe l hw rb bb kb u n c_ cs Z0 Scs hcs Bs) eh5 Bs.1 hml (D 14 rfl) pd20 (W := 1) (rest := [(.int 4)]) ?_ rfl rfl rfl rfl rfl (by decide) (lq rfl) rfl rfl rfl
   rintro T6 L6 v6 X6 ⟨rfl, N6q, eh6⟩
   have N6 := Fr.app N5 N6q
   refine gY X6 hx (pc := 25) (pc' := 39) (D 15 rfl) (teq (yeN 4 n (by omega) (by omega) (by omega))).1 ?_ (by decide) (by decide)
   show Gt T6 m 39 _ []
   exact nR4_1 Z a0 hw hx hby hlk hret hml hnm _ _ hS hown hZ rb bb kb u n c_ cs fm dE kD eL eM mO a mc eD kE j0 q0 y0 w0 lo0 hi0 st o4 h0 hh n0 T6 _ X6 eh6 N6 Z0 hk hR K0 Scs hcs Sd Sh Sl Sfm hfm Sde Sem Sel Mo Bs Ea ga sz_a Fm Fe Fs Aed Oed Xed ged sz_eD nad B0 hsp h2k (by omega) (Or.inl cI)
theorem nR4_2 {p : Program} {l : Launch} {e : Env} {s : State} {m : MethodId} {args : Array Value} {below : List Frame} {meth : Method} {c : Code}  (Z : State) (a0 : Array Value) (hw : HW a0 Z) (hx : p.tables.exec = Jvm.exec) (hby : c.code = prog_12_method_3_code) (hlk : meth.locks = false) (hret : meth.sig.returnType = some (.object "java/util/List")) (hml : c.maxLocals = 5) (hnm : meth.name = "names") (vm0 : Vm) (kS0 : Nat) (hS : s.Since vm0 kS0) (hown : (s.setVm vm0).vm.findClass "com/example/engarce/engarce/NameList" = some m.cls) (hZ : Z.Warmed39 (s.setVm vm0).vm) (rb bb : Addr) (kb : ClassId) (u : Bool) (n : Nat) (c_ : Nat → Int32) (cs : Int32) (fm : Value) (dE : Addr) (kD : ClassId) (eL eM mO : Addr) (a : Addr) (mc : Int32) (eD : Addr) (kE : ClassId) (j0 q0 : Addr) (y0 : ClassId) (w0 : Bool) (lo0 hi0 : Nat) (j1 q1 : Addr) (y1 : ClassId) (w1 : Bool) (lo1 hi1 : Nat) (st : Nat) (o4 : Option Addr) (h0 hh : Heap) (n0 : Nat) (T0 : State) (locs0 : List Loc) (X0 : Stand p l e (rM 9 29 190 140) (s.setVm vm0) m args below meth c T0 locs0 22 141) (e0 : T0.heap = hh) (N0 : Fr n0 locs0) (Z0 : n0 ≤ hh.size) (hk : kS0 ≤ hh.size) (hR : CHr Z ELs s.vm s.heap vm0 hh) (K0 : Keep h0 hh []) (Scs : S_0 Z hh (.int cs)) (hcs : ¬ cs = (0 : Int32)) (Sd : S_2 Z hh (.int 1)) (Sh : S_3 Z hh (.int 0)) (Sl : S_4 Z hh (.int 8)) (Sfm : S_1 Z hh fm) (hfm : fm.isRef = true) (Sde : S_5 Z hh (.ref dE)) (Sem : S_7 Z hh (.ref eM)) (Sel : S_6 Z hh (.ref eL)) (Mo : Mir Z "[Ljava/lang/Object;" mO) (Bs : Sb Z hh rb bb kb u n c_) (Ea : X_1 Z hh a) (ga : n0 ≤ a) (sz_a : h0.size ≤ a) (Fm : F_2 Z hh a (.int mc)) (Fe : F_3 Z hh a (.ref eD)) (Fs : F_4 Z hh a (.int 2)) (Aed : Arv Z hh eD kE (.object "java/lang/Object") 10 [(.ref j0), (.ref j1), .null, .null, .null, .null, .null, .null, .null, .null] .null) (Oed : Ovr Z kE "java/lang/Object") (Xed : X_2 Z hh eD) (ged : n0 ≤ eD) (sz_eD : h0.size ≤ eD) (nad : a ≠ eD) (B0 : Sb Z hh j0 q0 y0 w0 (hi0 - lo0) (fun i => c_ (lo0 + i))) (B1 : Sb Z hh j1 q1 y1 w1 (hi1 - lo1) (fun i => c_ (lo1 + i))) (hsp : sp c_ n 4 = (st, [(lo0, hi0), (lo1, hi1)])) (h2k : 2 * 2 ≤ st) (hin : 4 ≤ n) (hq : 4 = n ∨ sp? (c_ 4) = true) :
  Goes p e below (EH Z ELs s (QNm Z rb bb kb u n c_ cs fm dE kD eL eM mO h0 n0) (rM 9 29 190 140).cells (rM 9 29 190 140).slots) (T0.setTop (mkF m 39 #[rv rb, rv a, iv (iN st), iv 4, (orf o4)] [])) := by
 have D := @db _ _ _ hby Dp12_3
 have hn4 := Bs.2.2.2.2.1
 have hst := sp_st hsp
 show Gt T0 m 39 _ []
 refine aN X0 hx (D 21 rfl) ?_ rfl rfl
 refine jN X0 hx (D 22 rfl) ?_ rfl
 refine jN X0 hx (D 23 rfl) ?_ rfl
 obtain ⟨cq1, kq1, qa1, qb1, qc1⟩ := isOf hZ e0 Bs.1
 obtain ⟨_, _, ⟨T1, L1, k1, n1⟩, -, X1, hS1, hg1, ⟨Lc1, hQ1, l1, y1, z1, hCr1⟩, st1⟩ := X0.virtualBackS hx (y := mN34) (z := mN34) hown (mvT hZ (hw 161 rfl)) (mvT hZ (hw 162 rfl)) (notFace_of_selects (args := #[]) (mvT hZ (hw 164 rfl))) (mvT hZ (hw 164 rfl)) (mvT hZ (hw 163 rfl)) (by decide) (backOfSH (W := 0) (rmSu l hw rb bb kb u n c_ st 4 cs fm Z0 Scs hcs Sd Sh Sl Sfm hfm Bs (by omega) (by omega)) hZ (hw 165 rfl) (hw 8 rfl) (by decide) (by decide) (hELs hw) hR.1) qa1 qc1 (g := (mkF m 42 #[rv rb, rv a, iv (iN st), iv 4, (orf o4)] [(.int 4), (.int (iN st)), (.ref rb)])) rfl hml.symm (Steps.refl _) (argsL := [(.int (iN st)), (.int 4)]) (rest := []) (lenOf pd37 rfl) rfl (by show 2 * 0 + _ ≤ _; exact Nat.le_of_eq rfl) (D 24 rfl) (fun _ _ => ⟨rfl, e0, (by decide : 22 + 3 ≤ 29), (by decide : 141 + 20 ≤ 190)⟩)
 dsimp only [Pt.U, Pt.locs, Pt.cells, Pt.slots] at X1 l1 y1 z1 st1 hQ1 hS1 hg1 hCr1
 subst l1 y1 z1
 obtain ⟨X1, hS, hZ, hown⟩ := rebS hS (by rw [e0]; exact hk) X1 hS1 hg1 hZ hown
 have hk := Nat.le_refl T1.heap.size
 have hR := hR.trans hCr1
 obtain ⟨r1, bb1, kB1, u1, rfl, N1q, K1, Sb1⟩ := hQ1
 have KK2 := K0.trans K1 all0
 have Z1 := lT Z0 K1.1
 have N1 := Fr.app N0 N1q
 refine Goes.sts st1 ?_
 have f3 := (Scs.kept K1 ns0)
 have f4 := (Sd.kept K1 ns0)
 have f5 := (Sh.kept K1 ns0)
 have f6 := (Sl.kept K1 ns0)
 obtain ⟨cq7, kq7, qa7, qb7, qc7⟩ := isOf hZ rfl Sb1.1
 obtain ⟨_, _, ⟨T7, L7, k7, n7⟩, -, X7, hS7, hg7, ⟨Lc7, hQ7, l7, y7, z7, hCr7⟩, st7⟩ := X1.virtualBackS hx (y := mN37) (z := mN37) hown (mvT hZ (hw 173 rfl)) (mvT hZ (hw 174 rfl)) (notFace_of_selects (args := #[]) (mvT hZ (hw 176 rfl))) (mvT hZ (hw 176 rfl)) (mvT hZ (hw 175 rfl)) (by decide) (backOfSH (W := 0) (rmTm l hw r1 bb1 kB1 u1 (4 - st) (fun i => c_ (st + i)) cs Z1 f3 hcs f4 f5 f6 Sb1) hZ (hw 177 rfl) (hw 8 rfl) (by decide) (by decide) (hELs hw) hR.1) qa7 qc7 (g := (mkF m 45 #[rv rb, rv a, iv (iN st), iv 4, (orf o4)] [(.ref r1)])) rfl hml.symm (Steps.refl _) (argsL := []) (rest := []) (lenOf pd38 rfl) rfl (by show 2 * 0 + _ ≤ _; exact Nat.le_of_eq rfl) (D 25 rfl) (fun _ _ => ⟨rfl, rfl, (by decide : 25 + 2 ≤ 29), (by decide : 161 + 12 ≤ 190)⟩)
 dsimp only [Pt.U, Pt.locs, Pt.cells, Pt.slots] at X7 l7 y7 z7 st7 hQ7 hS7 hg7 hCr7
 subst l7 y7 z7
 obtain ⟨X7, hS, hZ, hown⟩ := rebS hS hk X7 hS7 hg7 hZ hown
 have hk := Nat.le_refl T7.heap.size
 have hR := hR.trans hCr7
 obtain ⟨s7, e7, r7, bb7, kC7, u7, rfl, N7q, K7, tb7, Sb7⟩ := hQ7
 have KK8 := KK2.trans K7 all0
 have Z7 := lT Z1 K7.1
 have N7 := Fr.app N1 N7q
 refine Goes.sts st7 ?_
 show Gt T7 m 48 #[rv rb, rv a, iv (iN st), iv 4, (orf o4)] [(.ref r7)]
 have tb_ := id tb7
 obtain ⟨t1_, t2_, -⟩ := tb_
 rcases Nat.decEq (e7 - s7) 0 with cZ | cZ
 ·omega
 ·refine gastore X7 hx (D 26 rfl) rfl (l' := #[rv rb, rv a, iv (iN st), iv 4, rv r7]) (by cases o4 <;> rfl) ?_
  refine aW X7 hx (D 27 rfl) ?_ rfl rfl
  refine zV X7 hx hZ hown hw 31 rfl 32 34 33 35 8 (rmEm1 l hw r7 bb7 kC7 u7 (e7 - s7) (fun i => (fun i => c_ (st + i)) (s7 + i)) Z7 Sb7 cZ) rfl Sb7.1 hml (D 28 rfl) pd7 (W := 0) (rest := []) ?_ rfl rfl rfl rfl rfl (by decide) (lq rfl) rfl rfl rfl
  rintro T9 L9 v9 X9 ⟨rfl, N9q, eh9⟩
  have N9 := Fr.app N7 N9q
  refine gT X9 hx (pc := 55) (pc' := 67) (D 29 rfl) (by decide) ?_ (by decide) (by decide)
  refine jN X9 hx (D 34 rfl) ?_ rfl
  refine giconst X9 hx (D 35 rfl) ?_
  refine giadd X9 hx (D 36 rfl) ?_
  show Gt T9 m 70 _ [(.int ((4 : Int32) + (1 : Int32)))]
  rw [show ((4 : Int32) + (1 : Int32)) = (5 : Int32) from by decide]
  refine gistoreN X9 hx (D 37 rfl) (l' := #[rv rb, rv a, iv 5, iv 4, rv r7]) rfl ?_
  refine giinc X9 hx (D 38 rfl) rfl (l' := #[rv rb, rv a, iv 5, iv 5, rv r7]) rfl ?_
  refine gG X9 hx (pc := 74) (pc' := 12) (D 39 rfl) ?_ (by decide) (by decide)
  show Gt T9 m 12 _ []
  refine jN X9 hx (D 8 rfl) ?_ rfl
  refine aN X9 hx (D 9 rfl) ?_ rfl rfl
  have f10 := ((Bs.keep K1 nb0).keep K7 nb0)
  have f11 := (f3.kept K7 ns0)
  have f13 := ((Bs.1.keep K1).keep K7)
  refine zV X9 hx hZ hown hw 121 rfl 122 124 123 125 8 (rmLe l hw rb bb kb u n c_ cs Z7 f11 hcs f10) eh9 f13 hml (D 10 rfl) pd20 (W := 1) (rest := [(.int 5)]) ?_ rfl rfl rfl rfl rfl (by decide) (lq rfl) rfl rfl rfl
  rintro T12 L12 v12 X12 ⟨rfl, N12q, eh12⟩
  have N12 := Fr.app N9 N12q
  refine gY X12 hx (pc := 17) (pc' := 77) (D 11 rfl) (tlt (ylN n 5 (by omega) (by omega) (by omega))).2.2.1 ?_ (by decide) (by decide)
  show Gt T12 m 77 _ []
  have f14 := (f4.kept K7 ns0)
  have f15 := (f5.kept K7 ns0)
  have f16 := (f6.kept K7 ns0)
  have f17 := ((Sfm.kept K1 ns0).kept K7 ns0)
  have f18 := ((Sde.kept K1 ns0).kept K7 ns0)
  have f19 := ((Sem.kept K1 ns0).kept K7 ns0)
  have f20 := ((Sel.kept K1 ns0).kept K7 ns0)
  have f21 := ((Ea.keep K1).keep K7)
  have f22 := ((Fm.keep K1 nin0).keep K7 nin0)
  have f23 := ((Fe.keep K1 nin0).keep K7 nin0)
  have f24 := ((Fs.keep K1 nin0).keep K7 nin0)
  have f25 := ((Aed.keep K1 nin0).keep K7 nin0)
  have f26 := ((Xed.keep K1).keep K7)
  have f27 := ((B0.keep K1 nb0).keep K7 nb0)
  have f28 := ((B1.keep K1 nb0).keep K7 nb0)
  exact nX2 Z a0 hw hx hby hlk hret hml hnm _ _ hS hown hZ rb bb kb u n c_ cs fm dE kD eL eM mO a mc eD kE j0 q0 y0 w0 lo0 hi0 j1 q1 y1 w1 lo1 hi1 5 (5 : Int32) (some r7) h0 T7.heap n0 T12 _ (X12.more (by decide : 27 ≤ 27) (by decide : 173 ≤ 173)) eh12 N12 Z7 hk hR KK8 f11 hcs f14 f15 f16 f17 hfm f18 f19 f20 Mo f10 f21 ga sz_a f22 f23 f24 f25 Oed f26 ged sz_eD nad f27 f28 (by rw [show n + 1 = 5 by omega]; exact (sp_none hsp hq hst tb7 cZ))
theorem nH4_2 {p : Program} {l : Launch} {e : Env} {s : State} {m : MethodId} {args : Array Value} {below : List Frame} {meth : Method} {c : Code}  (Z : State) (a0 : Array Value) (hw : HW a0 Z) (hx : p.tables.exec = Jvm.exec) (hby : c.code = prog_12_method_3_code) (hlk : meth.locks = false) (hret : meth.sig.returnType = some (.object "java/util/List")) (hml : c.maxLocals = 5) (hnm : meth.name = "names") (vm0 : Vm) (kS0 : Nat) (hS : s.Since vm0 kS0) (hown : (s.setVm vm0).vm.findClass "com/example/engarce/engarce/NameList" = some m.cls) (hZ : Z.Warmed39 (s.setVm vm0).vm) (rb bb : Addr) (kb : ClassId) (u : Bool) (n : Nat) (c_ : Nat → Int32) (cs : Int32) (fm : Value) (dE : Addr) (kD : ClassId) (eL eM mO : Addr) (a : Addr) (mc : Int32) (eD : Addr) (kE : ClassId) (j0 q0 : Addr) (y0 : ClassId) (w0 : Bool) (lo0 hi0 : Nat) (j1 q1 : Addr) (y1 : ClassId) (w1 : Bool) (lo1 hi1 : Nat) (st : Nat) (o4 : Option Addr) (h0 hh : Heap) (n0 : Nat) (T0 : State) (locs0 : List Loc) (X0 : Stand p l e (rM 9 29 190 140) (s.setVm vm0) m args below meth c T0 locs0 22 141) (e0 : T0.heap = hh) (N0 : Fr n0 locs0) (Z0 : n0 ≤ hh.size) (hk : kS0 ≤ hh.size) (hR : CHr Z ELs s.vm s.heap vm0 hh) (K0 : Keep h0 hh []) (Scs : S_0 Z hh (.int cs)) (hcs : ¬ cs = (0 : Int32)) (Sd : S_2 Z hh (.int 1)) (Sh : S_3 Z hh (.int 0)) (Sl : S_4 Z hh (.int 8)) (Sfm : S_1 Z hh fm) (hfm : fm.isRef = true) (Sde : S_5 Z hh (.ref dE)) (Sem : S_7 Z hh (.ref eM)) (Sel : S_6 Z hh (.ref eL)) (Mo : Mir Z "[Ljava/lang/Object;" mO) (Bs : Sb Z hh rb bb kb u n c_) (Ea : X_1 Z hh a) (ga : n0 ≤ a) (sz_a : h0.size ≤ a) (Fm : F_2 Z hh a (.int mc)) (Fe : F_3 Z hh a (.ref eD)) (Fs : F_4 Z hh a (.int 2)) (Aed : Arv Z hh eD kE (.object "java/lang/Object") 10 [(.ref j0), (.ref j1), .null, .null, .null, .null, .null, .null, .null, .null] .null) (Oed : Ovr Z kE "java/lang/Object") (Xed : X_2 Z hh eD) (ged : n0 ≤ eD) (sz_eD : h0.size ≤ eD) (nad : a ≠ eD) (B0 : Sb Z hh j0 q0 y0 w0 (hi0 - lo0) (fun i => c_ (lo0 + i))) (B1 : Sb Z hh j1 q1 y1 w1 (hi1 - lo1) (fun i => c_ (lo1 + i))) (hsp : sp c_ n 4 = (st, [(lo0, hi0), (lo1, hi1)])) (h2k : 2 * 2 ≤ st) (hin : 4 ≤ n + 1) :
  Goes p e below (EH Z ELs s (QNm Z rb bb kb u n c_ cs fm dE kD eL eM mO h0 n0) (rM 9 29 190 140).cells (rM 9 29 190 140).slots) (T0.setTop (mkF m 12 #[rv rb, rv a, iv (iN st), iv 4, (orf o4)] [])) := by
 have D := @db _ _ _ hby Dp12_3
 have hn4 := Bs.2.2.2.2.1
 have hst := sp_st hsp
 show Gt T0 m 12 _ []
 rcases Nat.lt_or_ge n 4 with cX | cX
 ·refine jN X0 hx (D 8 rfl) ?_ rfl
  refine aN X0 hx (D 9 rfl) ?_ rfl rfl
  refine zV X0 hx hZ hown hw 121 rfl 122 124 123 125 8 (rmLe l hw rb bb kb u n c_ cs Z0 Scs hcs Bs) e0 Bs.1 hml (D 10 rfl) pd20 (W := 1) (rest := [(.int 4)]) ?_ rfl rfl rfl rfl rfl (by decide) (lq rfl) rfl rfl rfl
  rintro T1 L1 v1 X1 ⟨rfl, N1q, eh1⟩
  have N1 := Fr.app N0 N1q
  refine gY X1 hx (pc := 17) (pc' := 77) (D 11 rfl) (tlt (ylN n 4 (by omega) (by omega) (by omega))).2.2.1 ?_ (by decide) (by decide)
  show Gt T1 m 77 _ []
  exact nX2 Z a0 hw hx hby hlk hret hml hnm _ _ hS hown hZ rb bb kb u n c_ cs fm dE kD eL eM mO a mc eD kE j0 q0 y0 w0 lo0 hi0 j1 q1 y1 w1 lo1 hi1 st (4 : Int32) o4 h0 hh n0 T1 _ (X1.more (by decide : 22 ≤ 27) (by decide : 141 ≤ 173)) eh1 N1 Z0 hk hR K0 Scs hcs Sd Sh Sl Sfm hfm Sde Sem Sel Mo Bs Ea ga sz_a Fm Fe Fs Aed Oed Xed ged sz_eD nad B0 B1 (by rw [show n + 1 = 4 by omega]; exact hsp)
 ·rcases Nat.decEq 4 n with cI | cI
  ·refine jN X0 hx (D 8 rfl) ?_ rfl
   refine aN X0 hx (D 9 rfl) ?_ rfl rfl
   refine zV X0 hx hZ hown hw 121 rfl 122 124 123 125 8 (rmLe l hw rb bb kb u n c_ cs Z0 Scs hcs Bs) e0 Bs.1 hml (D 10 rfl) pd20 (W := 1) (rest := [(.int 4)]) ?_ rfl rfl rfl rfl rfl (by decide) (lq rfl) rfl rfl rfl
   rintro T2 L2 v2 X2 ⟨rfl, N2q, eh2⟩
   have N2 := Fr.app N0 N2q
   refine gicmpNo X2 hx (D 11 rfl) (flt (nlN n 4 (by omega) (by omega) (by omega))).2.2.1 ?_
   refine jN X2 hx (D 12 rfl) ?_ rfl
   refine aN X2 hx (D 13 rfl) ?_ rfl rfl
   refine zV X2 hx hZ hown hw 121 rfl 122 124 123 125 8 (rmLe l hw rb bb kb u n c_ cs Z0 Scs hcs Bs) eh2 Bs.1 hml (D 14 rfl) pd20 (W := 1) (rest := [(.int 4)]) ?_ rfl rfl rfl rfl rfl (by decide) (lq rfl) rfl rfl rfl
   rintro T3 L3 v3 X3 ⟨rfl, N3q, eh3⟩
   have N3 := Fr.app N2 N3q
   refine gicmpNo X3 hx (D 15 rfl) (feq (neN 4 n (by omega) (by omega) (by omega))).1 ?_
   refine aN X3 hx (D 16 rfl) ?_ rfl rfl
   show Gt T3 m 29 _ [(.ref rb)]
   refine jN X3 hx (D 17 rfl) ?_ rfl
   refine zV X3 hx hZ hown hw 131 rfl 132 134 133 135 8 (rmCa l hw rb bb kb u n c_ 4 cs fm Z0 Scs hcs Sd Sh Sl Sfm hfm Bs (by omega)) eh3 Bs.1 hml (D 18 rfl) pd40 (W := 0) (rest := []) ?_ rfl rfl rfl rfl rfl (by decide) (lq rfl) rfl rfl rfl
   rintro T4 L4 v4 X4 ⟨rfl, N4q, eh4⟩
   have N4 := Fr.app N3 N4q
   show Gt T4 m 33 _ [(.int (c_ 4))]
   omega
  ·refine jN X0 hx (D 8 rfl) ?_ rfl
   refine aN X0 hx (D 9 rfl) ?_ rfl rfl
   refine zV X0 hx hZ hown hw 121 rfl 122 124 123 125 8 (rmLe l hw rb bb kb u n c_ cs Z0 Scs hcs Bs) e0 Bs.1 hml (D 10 rfl) pd20 (W := 1) (rest := [(.int 4)]) ?_ rfl rfl rfl rfl rfl (by decide) (lq rfl) rfl rfl rfl
   rintro T5 L5 v5 X5 ⟨rfl, N5q, eh5⟩
   have N5 := Fr.app N0 N5q
   refine gicmpNo X5 hx (D 11 rfl) (flt (nlN n 4 (by omega) (by omega) (by omega))).2.2.1 ?_
   refine jN X5 hx (D 12 rfl) ?_ rfl
   refine aN X5 hx (D 13 rfl) ?_ rfl rfl
   refine zV X5 hx hZ hown hw 121 rfl 122 124 123 125 8 (rmLe l hw rb bb kb u n c_ cs Z0 Scs hcs Bs) eh5 Bs.1 hml (D 14 rfl) pd20 (W := 1) (rest := [(.int 4)]) ?_ rfl rfl rfl rfl rfl (by decide) (lq rfl) rfl rfl rfl
   rintro T6 L6 v6 X6 ⟨rfl, N6q, eh6⟩
   have N6 := Fr.app N5 N6q
   refine gY X6 hx (pc := 25) (pc' := 39) (D 15 rfl) (teq (yeN 4 n (by omega) (by omega) (by omega))).1 ?_ (by decide) (by decide)
   show Gt T6 m 39 _ []
   exact nR4_2 Z a0 hw hx hby hlk hret hml hnm _ _ hS hown hZ rb bb kb u n c_ cs fm dE kD eL eM mO a mc eD kE j0 q0 y0 w0 lo0 hi0 j1 q1 y1 w1 lo1 hi1 st o4 h0 hh n0 T6 _ X6 eh6 N6 Z0 hk hR K0 Scs hcs Sd Sh Sl Sfm hfm Sde Sem Sel Mo Bs Ea ga sz_a Fm Fe Fs Aed Oed Xed ged sz_eD nad B0 B1 hsp h2k (by omega) (Or.inl cI)
theorem nR3_0 {p : Program} {l : Launch} {e : Env} {s : State} {m : MethodId} {args : Array Value} {below : List Frame} {meth : Method} {c : Code}  (Z : State) (a0 : Array Value) (hw : HW a0 Z) (hx : p.tables.exec = Jvm.exec) (hby : c.code = prog_12_method_3_code) (hlk : meth.locks = false) (hret : meth.sig.returnType = some (.object "java/util/List")) (hml : c.maxLocals = 5) (hnm : meth.name = "names") (vm0 : Vm) (kS0 : Nat) (hS : s.Since vm0 kS0) (hown : (s.setVm vm0).vm.findClass "com/example/engarce/engarce/NameList" = some m.cls) (hZ : Z.Warmed39 (s.setVm vm0).vm) (rb bb : Addr) (kb : ClassId) (u : Bool) (n : Nat) (c_ : Nat → Int32) (cs : Int32) (fm : Value) (dE : Addr) (kD : ClassId) (eL eM mO : Addr) (a : Addr) (mc : Int32) (st : Nat) (o4 : Option Addr) (h0 hh : Heap) (n0 : Nat) (T0 : State) (locs0 : List Loc) (X0 : Stand p l e (rM 9 29 190 140) (s.setVm vm0) m args below meth c T0 locs0 16 99) (e0 : T0.heap = hh) (N0 : Fr n0 locs0) (Z0 : n0 ≤ hh.size) (hk : kS0 ≤ hh.size) (hR : CHr Z ELs s.vm s.heap vm0 hh) (K0 : Keep h0 hh []) (Scs : S_0 Z hh (.int cs)) (hcs : ¬ cs = (0 : Int32)) (Sd : S_2 Z hh (.int 1)) (Sh : S_3 Z hh (.int 0)) (Sl : S_4 Z hh (.int 8)) (Sfm : S_1 Z hh fm) (hfm : fm.isRef = true) (Sde : S_5 Z hh (.ref dE)) (Ade : Arv Z hh dE kD (.object "java/lang/Object") 0 [] .null) (Sem : S_7 Z hh (.ref eM)) (Sel : S_6 Z hh (.ref eL)) (Mo : Mir Z "[Ljava/lang/Object;" mO) (Bs : Sb Z hh rb bb kb u n c_) (Ea : X_1 Z hh a) (ga : n0 ≤ a) (sz_a : h0.size ≤ a) (Fm : F_2 Z hh a (.int mc)) (Fe : F_3 Z hh a (.ref dE)) (Fs : F_4 Z hh a (.int 0)) (hsp : sp c_ n 3 = (st, [])) (h2k : 2 * 0 ≤ st) (hin : 3 ≤ n) (hq : 3 = n ∨ sp? (c_ 3) = true) :
  Goes p e below (EH Z ELs s (QNm Z rb bb kb u n c_ cs fm dE kD eL eM mO h0 n0) (rM 9 29 190 140).cells (rM 9 29 190 140).slots) (T0.setTop (mkF m 39 #[rv rb, rv a, iv (iN st), iv 3, (orf o4)] [])) := by
 have D := @db _ _ _ hby Dp12_3
 have hn4 := Bs.2.2.2.2.1
 have hst := sp_st hsp
 show Gt T0 m 39 _ []
 refine aN X0 hx (D 21 rfl) ?_ rfl rfl
 refine jN X0 hx (D 22 rfl) ?_ rfl
 refine jN X0 hx (D 23 rfl) ?_ rfl
 obtain ⟨cq1, kq1, qa1, qb1, qc1⟩ := isOf hZ e0 Bs.1
 obtain ⟨_, _, ⟨T1, L1, k1, n1⟩, -, X1, hS1, hg1, ⟨Lc1, hQ1, l1, y1, z1, hCr1⟩, st1⟩ := X0.virtualBackS hx (y := mN34) (z := mN34) hown (mvT hZ (hw 161 rfl)) (mvT hZ (hw 162 rfl)) (notFace_of_selects (args := #[]) (mvT hZ (hw 164 rfl))) (mvT hZ (hw 164 rfl)) (mvT hZ (hw 163 rfl)) (by decide) (backOfSH (W := 0) (rmSu l hw rb bb kb u n c_ st 3 cs fm Z0 Scs hcs Sd Sh Sl Sfm hfm Bs (by omega) (by omega)) hZ (hw 165 rfl) (hw 8 rfl) (by decide) (by decide) (hELs hw) hR.1) qa1 qc1 (g := (mkF m 42 #[rv rb, rv a, iv (iN st), iv 3, (orf o4)] [(.int 3), (.int (iN st)), (.ref rb)])) rfl hml.symm (Steps.refl _) (argsL := [(.int (iN st)), (.int 3)]) (rest := []) (lenOf pd37 rfl) rfl (by show 2 * 0 + _ ≤ _; exact Nat.le_of_eq rfl) (D 24 rfl) (fun _ _ => ⟨rfl, e0, (by decide : 16 + 3 ≤ 29), (by decide : 99 + 20 ≤ 190)⟩)
 dsimp only [Pt.U, Pt.locs, Pt.cells, Pt.slots] at X1 l1 y1 z1 st1 hQ1 hS1 hg1 hCr1
 subst l1 y1 z1
 obtain ⟨X1, hS, hZ, hown⟩ := rebS hS (by rw [e0]; exact hk) X1 hS1 hg1 hZ hown
 have hk := Nat.le_refl T1.heap.size
 have hR := hR.trans hCr1
 obtain ⟨r1, bb1, kB1, u1, rfl, N1q, K1, Sb1⟩ := hQ1
 have KK2 := K0.trans K1 all0
 have Z1 := lT Z0 K1.1
 have N1 := Fr.app N0 N1q
 refine Goes.sts st1 ?_
 have f3 := (Scs.kept K1 ns0)
 have f4 := (Sd.kept K1 ns0)
 have f5 := (Sh.kept K1 ns0)
 have f6 := (Sl.kept K1 ns0)
 obtain ⟨cq7, kq7, qa7, qb7, qc7⟩ := isOf hZ rfl Sb1.1
 obtain ⟨_, _, ⟨T7, L7, k7, n7⟩, -, X7, hS7, hg7, ⟨Lc7, hQ7, l7, y7, z7, hCr7⟩, st7⟩ := X1.virtualBackS hx (y := mN37) (z := mN37) hown (mvT hZ (hw 173 rfl)) (mvT hZ (hw 174 rfl)) (notFace_of_selects (args := #[]) (mvT hZ (hw 176 rfl))) (mvT hZ (hw 176 rfl)) (mvT hZ (hw 175 rfl)) (by decide) (backOfSH (W := 0) (rmTm l hw r1 bb1 kB1 u1 (3 - st) (fun i => c_ (st + i)) cs Z1 f3 hcs f4 f5 f6 Sb1) hZ (hw 177 rfl) (hw 8 rfl) (by decide) (by decide) (hELs hw) hR.1) qa7 qc7 (g := (mkF m 45 #[rv rb, rv a, iv (iN st), iv 3, (orf o4)] [(.ref r1)])) rfl hml.symm (Steps.refl _) (argsL := []) (rest := []) (lenOf pd38 rfl) rfl (by show 2 * 0 + _ ≤ _; exact Nat.le_of_eq rfl) (D 25 rfl) (fun _ _ => ⟨rfl, rfl, (by decide : 19 + 2 ≤ 29), (by decide : 119 + 12 ≤ 190)⟩)
 dsimp only [Pt.U, Pt.locs, Pt.cells, Pt.slots] at X7 l7 y7 z7 st7 hQ7 hS7 hg7 hCr7
 subst l7 y7 z7
 obtain ⟨X7, hS, hZ, hown⟩ := rebS hS hk X7 hS7 hg7 hZ hown
 have hk := Nat.le_refl T7.heap.size
 have hR := hR.trans hCr7
 obtain ⟨s7, e7, r7, bb7, kC7, u7, rfl, N7q, K7, tb7, Sb7⟩ := hQ7
 have KK8 := KK2.trans K7 all0
 have Z7 := lT Z1 K7.1
 have N7 := Fr.app N1 N7q
 refine Goes.sts st7 ?_
 show Gt T7 m 48 #[rv rb, rv a, iv (iN st), iv 3, (orf o4)] [(.ref r7)]
 have tb_ := id tb7
 obtain ⟨t1_, t2_, -⟩ := tb_
 rcases Nat.decEq (e7 - s7) 0 with cZ | cZ
 ·refine gastore X7 hx (D 26 rfl) rfl (l' := #[rv rb, rv a, iv (iN st), iv 3, rv r7]) (by cases o4 <;> rfl) ?_
  refine aW X7 hx (D 27 rfl) ?_ rfl rfl
  refine zV X7 hx hZ hown hw 31 rfl 32 34 33 35 8 (rmEm0 l hw r7 bb7 kC7 u7 (e7 - s7) (fun i => (fun i => c_ (st + i)) (s7 + i)) Z7 Sb7 cZ) rfl Sb7.1 hml (D 28 rfl) pd7 (W := 0) (rest := []) ?_ rfl rfl rfl rfl rfl (by decide) (lq rfl) rfl rfl rfl
  rintro T9 L9 v9 X9 ⟨rfl, N9q, eh9⟩
  have N9 := Fr.app N7 N9q
  refine gifNo X9 hx (D 29 rfl) (by decide) ?_
  refine aN X9 hx (D 30 rfl) ?_ rfl rfl
  refine aW X9 hx (D 31 rfl) ?_ rfl rfl
  have f10 := ((Ea.keep K1).keep K7)
  have f11 := ((Fm.keep K1 nin0).keep K7 nin0)
  have f12 := ((Fe.keep K1 nin0).keep K7 nin0)
  have f13 := ((Fs.keep K1 nin0).keep K7 nin0)
  have f14 := ((Sde.kept K1 ns0).kept K7 ns0)
  have f15 := ((Ade.keep K1 nin0).keep K7 nin0)
  have f17 := ((Ea.keep K1).keep K7)
  refine zI X9 hx hZ hown hw 203 rfl 204 (mvT hZ (hw 205 rfl)) 206 207 208 209 210 211 99 (rmA10 l hw a dE kD mc r7 Z7 f10 ga f11 f12 f13 f14 f15 (Ne.symm (kinNe f15.kin f10 (hw 98 rfl))) Sb7.1) eh9 f17 hml (D 32 rfl) pd39 (W := 0) (rest := []) ?_ rfl rfl rfl rfl rfl rfl rfl rfl (by decide) (lq rfl) rfl rfl rfl
  rintro T16 L16 v16 X16 ⟨bE16, kE16, rfl, N16q, K16, szq16, loq16, R16_0, R16_1, R16_2, VE16, OE16, XE16⟩
  have hk := lT hk K16.1
  have hR := hR.trans (CHr.keep K16 (sfS (Safe.exa hZ.alike f10 (by decide) (by decide)) sf0) hR.1)
  have KK18 := KK8.trans K16 (allS (Or.inr sz_a) all0)
  have sz_bE16 := lT KK8.1 szq16
  have Z16 := lT Z7 K16.1
  have N16 := Fr.app N9 N16q
  show Gt T16 m 66 _ [(.int 1)]
  refine Goes.st (fun tg kg => XT.pop X16.here hx rfl (D 33 rfl) rfl rfl kg) ?_
  refine jN X16 hx (D 34 rfl) ?_ rfl
  refine giconst X16 hx (D 35 rfl) ?_
  refine giadd X16 hx (D 36 rfl) ?_
  show Gt T16 m 70 #[rv rb, rv a, iv (iN st), iv 3, rv r7] [(.int ((3 : Int32) + (1 : Int32)))]
  rw [show ((3 : Int32) + (1 : Int32)) = (4 : Int32) from by decide]
  refine gistoreN X16 hx (D 37 rfl) (l' := #[rv rb, rv a, iv 4, iv 3, rv r7]) rfl ?_
  refine giinc X16 hx (D 38 rfl) rfl (l' := #[rv rb, rv a, iv 4, iv 4, rv r7]) rfl ?_
  refine gG X16 hx (pc := 74) (pc' := 12) (D 39 rfl) ?_ (by decide) (by decide)
  show Gt T16 m 12 _ []
  have f19 := (f10.keep K16)
  have f20 := (((Bs.1.keep K1).keep K7).keep K16)
  have f21 := (((Bs.keep K1 nb0).keep K7 nb0).keep K16 (bS (ninS (exaNe f20 f19 (by decide)) nin0) (bS (ninS (kinNe (((Bs.2.2.2.1.kin.keep K1).keep K7).keep K16) f19 (hw 98 rfl)) nin0) b0)))
  have f22 := ((f3.kept K7 ns0).kept K16 (nsS (Exa.nostat f10) ns0))
  have f23 := ((f4.kept K7 ns0).kept K16 (nsS (Exa.nostat f10) ns0))
  have f24 := ((f5.kept K7 ns0).kept K16 (nsS (Exa.nostat f10) ns0))
  have f25 := ((f6.kept K7 ns0).kept K16 (nsS (Exa.nostat f10) ns0))
  have f26 := (((Sfm.kept K1 ns0).kept K7 ns0).kept K16 (nsS (Exa.nostat f10) ns0))
  have f27 := (f14.kept K16 (nsS (Exa.nostat f10) ns0))
  have f28 := (((Sem.kept K1 ns0).kept K7 ns0).kept K16 (nsS (Exa.nostat f10) ns0))
  have f29 := (((Sel.kept K1 ns0).kept K7 ns0).kept K16 (nsS (Exa.nostat f10) ns0))
  have ne30 := neL f10.lt szq16
  have f31 := (Sb7.1.keep K16)
  have f32 := (Sb7.keep K16 (bS (ninS (exaNe f31 f19 (by decide)) nin0) (bS (ninS (kinNe (Sb7.2.2.2.1.kin.keep K16) f19 (hw 98 rfl)) nin0) b0)))
  exact nH4_1 Z a0 hw hx hby hlk hret hml hnm _ _ hS hown hZ rb bb kb u n c_ cs fm dE kD eL eM mO a ((mc + (1 : Int32))) bE16 kE16 r7 bb7 kC7 u7 ((st + s7)) ((st + e7)) 4 (some r7) h0 T16.heap n0 T16 _ (X16.more (by decide : 22 ≤ 22) (by decide : 141 ≤ 141)) rfl N16 Z16 hk hR KK18 f22 hcs f23 f24 f25 f26 hfm f27 f28 f29 Mo f21 f19 ga sz_a R16_0 R16_1 R16_2 VE16 OE16 XE16 loq16 sz_bE16 ne30 (Sb.cast f32 (by omega) (fun i hi => by show c_ (st + (s7 + i)) = c_ (st + s7 + i); rw [Nat.add_assoc])) (sp_some hsp hq hst (by decide) tb7 cZ) (by omega) (by omega)
 ·refine gastore X7 hx (D 26 rfl) rfl (l' := #[rv rb, rv a, iv (iN st), iv 3, rv r7]) (by cases o4 <;> rfl) ?_
  refine aW X7 hx (D 27 rfl) ?_ rfl rfl
  refine zV X7 hx hZ hown hw 31 rfl 32 34 33 35 8 (rmEm1 l hw r7 bb7 kC7 u7 (e7 - s7) (fun i => (fun i => c_ (st + i)) (s7 + i)) Z7 Sb7 cZ) rfl Sb7.1 hml (D 28 rfl) pd7 (W := 0) (rest := []) ?_ rfl rfl rfl rfl rfl (by decide) (lq rfl) rfl rfl rfl
  rintro T33 L33 v33 X33 ⟨rfl, N33q, eh33⟩
  have N33 := Fr.app N7 N33q
  refine gT X33 hx (pc := 55) (pc' := 67) (D 29 rfl) (by decide) ?_ (by decide) (by decide)
  refine jN X33 hx (D 34 rfl) ?_ rfl
  refine giconst X33 hx (D 35 rfl) ?_
  refine giadd X33 hx (D 36 rfl) ?_
  show Gt T33 m 70 _ [(.int ((3 : Int32) + (1 : Int32)))]
  rw [show ((3 : Int32) + (1 : Int32)) = (4 : Int32) from by decide]
  refine gistoreN X33 hx (D 37 rfl) (l' := #[rv rb, rv a, iv 4, iv 3, rv r7]) rfl ?_
  refine giinc X33 hx (D 38 rfl) rfl (l' := #[rv rb, rv a, iv 4, iv 4, rv r7]) rfl ?_
  refine gG X33 hx (pc := 74) (pc' := 12) (D 39 rfl) ?_ (by decide) (by decide)
  show Gt T33 m 12 _ []
  have f34 := ((Bs.keep K1 nb0).keep K7 nb0)
  have f35 := (f3.kept K7 ns0)
  have f36 := (f4.kept K7 ns0)
  have f37 := (f5.kept K7 ns0)
  have f38 := (f6.kept K7 ns0)
  have f39 := ((Sfm.kept K1 ns0).kept K7 ns0)
  have f40 := ((Sde.kept K1 ns0).kept K7 ns0)
  have f41 := ((Ade.keep K1 nin0).keep K7 nin0)
  have f42 := ((Sem.kept K1 ns0).kept K7 ns0)
  have f43 := ((Sel.kept K1 ns0).kept K7 ns0)
  have f44 := ((Ea.keep K1).keep K7)
  have f45 := ((Fm.keep K1 nin0).keep K7 nin0)
  have f46 := ((Fe.keep K1 nin0).keep K7 nin0)
  have f47 := ((Fs.keep K1 nin0).keep K7 nin0)
  exact nH4_0 Z a0 hw hx hby hlk hret hml hnm _ _ hS hown hZ rb bb kb u n c_ cs fm dE kD eL eM mO a mc 4 (some r7) h0 T7.heap n0 T33 _ (X33.more (by decide : 21 ≤ 21) (by decide : 131 ≤ 131)) eh33 N33 Z7 hk hR KK8 f35 hcs f36 f37 f38 f39 hfm f40 f41 f42 f43 Mo f34 f44 ga sz_a f45 f46 f47 (sp_none hsp hq hst tb7 cZ) (by omega) (by omega)
theorem pd41 : parseMethodDescriptor "(C)Z" = some ⟨[.char], some .boolean⟩ := by decide +kernel
theorem nH3_0 {p : Program} {l : Launch} {e : Env} {s : State} {m : MethodId} {args : Array Value} {below : List Frame} {meth : Method} {c : Code}  (Z : State) (a0 : Array Value) (hw : HW a0 Z) (hx : p.tables.exec = Jvm.exec) (hby : c.code = prog_12_method_3_code) (hlk : meth.locks = false) (hret : meth.sig.returnType = some (.object "java/util/List")) (hml : c.maxLocals = 5) (hnm : meth.name = "names") (vm0 : Vm) (kS0 : Nat) (hS : s.Since vm0 kS0) (hown : (s.setVm vm0).vm.findClass "com/example/engarce/engarce/NameList" = some m.cls) (hZ : Z.Warmed39 (s.setVm vm0).vm) (rb bb : Addr) (kb : ClassId) (u : Bool) (n : Nat) (c_ : Nat → Int32) (cs : Int32) (fm : Value) (dE : Addr) (kD : ClassId) (eL eM mO : Addr) (a : Addr) (mc : Int32) (st : Nat) (o4 : Option Addr) (h0 hh : Heap) (n0 : Nat) (T0 : State) (locs0 : List Loc) (X0 : Stand p l e (rM 9 29 190 140) (s.setVm vm0) m args below meth c T0 locs0 16 99) (e0 : T0.heap = hh) (N0 : Fr n0 locs0) (Z0 : n0 ≤ hh.size) (hk : kS0 ≤ hh.size) (hR : CHr Z ELs s.vm s.heap vm0 hh) (K0 : Keep h0 hh []) (Scs : S_0 Z hh (.int cs)) (hcs : ¬ cs = (0 : Int32)) (Sd : S_2 Z hh (.int 1)) (Sh : S_3 Z hh (.int 0)) (Sl : S_4 Z hh (.int 8)) (Sfm : S_1 Z hh fm) (hfm : fm.isRef = true) (Sde : S_5 Z hh (.ref dE)) (Ade : Arv Z hh dE kD (.object "java/lang/Object") 0 [] .null) (Sem : S_7 Z hh (.ref eM)) (Sel : S_6 Z hh (.ref eL)) (Mo : Mir Z "[Ljava/lang/Object;" mO) (Bs : Sb Z hh rb bb kb u n c_) (Ea : X_1 Z hh a) (ga : n0 ≤ a) (sz_a : h0.size ≤ a) (Fm : F_2 Z hh a (.int mc)) (Fe : F_3 Z hh a (.ref dE)) (Fs : F_4 Z hh a (.int 0)) (hsp : sp c_ n 3 = (st, [])) (h2k : 2 * 0 ≤ st) (hin : 3 ≤ n + 1) :
  Goes p e below (EH Z ELs s (QNm Z rb bb kb u n c_ cs fm dE kD eL eM mO h0 n0) (rM 9 29 190 140).cells (rM 9 29 190 140).slots) (T0.setTop (mkF m 12 #[rv rb, rv a, iv (iN st), iv 3, (orf o4)] [])) := by
 have D := @db _ _ _ hby Dp12_3
 have hn4 := Bs.2.2.2.2.1
 have hst := sp_st hsp
 show Gt T0 m 12 _ []
 rcases Nat.lt_or_ge n 3 with cX | cX
 ·refine jN X0 hx (D 8 rfl) ?_ rfl
  refine aN X0 hx (D 9 rfl) ?_ rfl rfl
  refine zV X0 hx hZ hown hw 121 rfl 122 124 123 125 8 (rmLe l hw rb bb kb u n c_ cs Z0 Scs hcs Bs) e0 Bs.1 hml (D 10 rfl) pd20 (W := 1) (rest := [(.int 3)]) ?_ rfl rfl rfl rfl rfl (by decide) (lq rfl) rfl rfl rfl
  rintro T1 L1 v1 X1 ⟨rfl, N1q, eh1⟩
  have N1 := Fr.app N0 N1q
  refine gY X1 hx (pc := 17) (pc' := 77) (D 11 rfl) (tlt (ylN n 3 (by omega) (by omega) (by omega))).2.2.1 ?_ (by decide) (by decide)
  show Gt T1 m 77 _ []
  exact nX0 Z a0 hw hx hby hlk hret hml hnm _ _ hS hown hZ rb bb kb u n c_ cs fm dE kD eL eM mO a mc st (3 : Int32) o4 h0 hh n0 T1 _ (X1.more (by decide : 16 ≤ 26) (by decide : 99 ≤ 163)) eh1 N1 Z0 hk hR K0 Scs hcs Sd Sh Sl Sfm hfm Sde Ade Sem Sel Mo Bs Ea ga sz_a Fm Fe Fs (by rw [show n + 1 = 3 by omega]; exact hsp)
 ·rcases Nat.decEq 3 n with cI | cI
  ·refine jN X0 hx (D 8 rfl) ?_ rfl
   refine aN X0 hx (D 9 rfl) ?_ rfl rfl
   refine zV X0 hx hZ hown hw 121 rfl 122 124 123 125 8 (rmLe l hw rb bb kb u n c_ cs Z0 Scs hcs Bs) e0 Bs.1 hml (D 10 rfl) pd20 (W := 1) (rest := [(.int 3)]) ?_ rfl rfl rfl rfl rfl (by decide) (lq rfl) rfl rfl rfl
   rintro T2 L2 v2 X2 ⟨rfl, N2q, eh2⟩
   have N2 := Fr.app N0 N2q
   refine gicmpNo X2 hx (D 11 rfl) (flt (nlN n 3 (by omega) (by omega) (by omega))).2.2.1 ?_
   refine jN X2 hx (D 12 rfl) ?_ rfl
   refine aN X2 hx (D 13 rfl) ?_ rfl rfl
   refine zV X2 hx hZ hown hw 121 rfl 122 124 123 125 8 (rmLe l hw rb bb kb u n c_ cs Z0 Scs hcs Bs) eh2 Bs.1 hml (D 14 rfl) pd20 (W := 1) (rest := [(.int 3)]) ?_ rfl rfl rfl rfl rfl (by decide) (lq rfl) rfl rfl rfl
   rintro T3 L3 v3 X3 ⟨rfl, N3q, eh3⟩
   have N3 := Fr.app N2 N3q
   refine gicmpNo X3 hx (D 15 rfl) (feq (neN 3 n (by omega) (by omega) (by omega))).1 ?_
   refine aN X3 hx (D 16 rfl) ?_ rfl rfl
   show Gt T3 m 29 _ [(.ref rb)]
   refine jN X3 hx (D 17 rfl) ?_ rfl
   refine zV X3 hx hZ hown hw 131 rfl 132 134 133 135 8 (rmCa l hw rb bb kb u n c_ 3 cs fm Z0 Scs hcs Sd Sh Sl Sfm hfm Bs (by omega)) eh3 Bs.1 hml (D 18 rfl) pd40 (W := 0) (rest := []) ?_ rfl rfl rfl rfl rfl (by decide) (lq rfl) rfl rfl rfl
   rintro T4 L4 v4 X4 ⟨rfl, N4q, eh4⟩
   have N4 := Fr.app N3 N4q
   show Gt T4 m 33 _ [(.int (c_ 3))]
   rcases (Bool.eq_false_or_eq_true (sp? (c_ 3))) with cS | cS
   ·refine zS X4 hx hZ hown hw 158 159 160 29 (rmIs1 l hw (c_ 3) Z0 cS) eh4 hml (D 19 rfl) pd41 (W := 0) (rest := []) ?_ rfl rfl rfl rfl (by decide) (lq rfl) rfl rfl rfl
    rintro T5 L5 v5 X5 ⟨rfl, N5q, eh5⟩
    have N5 := Fr.app N4 N5q
    refine gifNo X5 hx (D 20 rfl) (by decide) ?_
    show Gt T5 m 39 _ []
    exact nR3_0 Z a0 hw hx hby hlk hret hml hnm _ _ hS hown hZ rb bb kb u n c_ cs fm dE kD eL eM mO a mc st o4 h0 hh n0 T5 _ X5 eh5 N5 Z0 hk hR K0 Scs hcs Sd Sh Sl Sfm hfm Sde Ade Sem Sel Mo Bs Ea ga sz_a Fm Fe Fs hsp h2k (by omega) (Or.inr cS)
   ·refine zS X4 hx hZ hown hw 158 159 160 29 (rmIs0 l hw (c_ 3) Z0 cS) eh4 hml (D 19 rfl) pd41 (W := 0) (rest := []) ?_ rfl rfl rfl rfl (by decide) (lq rfl) rfl rfl rfl
    rintro T6 L6 v6 X6 ⟨rfl, N6q, eh6⟩
    have N6 := Fr.app N4 N6q
    refine gT X6 hx (pc := 36) (pc' := 71) (D 20 rfl) (by decide) ?_ (by decide) (by decide)
    refine giinc X6 hx (D 38 rfl) rfl (l' := #[rv rb, rv a, iv (iN st), iv 4, (orf o4)]) rfl ?_
    refine gG X6 hx (pc := 74) (pc' := 12) (D 39 rfl) ?_ (by decide) (by decide)
    show Gt T6 m 12 _ []
    exact nH4_0 Z a0 hw hx hby hlk hret hml hnm _ _ hS hown hZ rb bb kb u n c_ cs fm dE kD eL eM mO a mc st o4 h0 hh n0 T6 _ (X6.more (by decide : 16 ≤ 21) (by decide : 99 ≤ 131)) eh6 N6 Z0 hk hR K0 Scs hcs Sd Sh Sl Sfm hfm Sde Ade Sem Sel Mo Bs Ea ga sz_a Fm Fe Fs (sp_skip hsp (by omega) cS) h2k (by omega)
  ·refine jN X0 hx (D 8 rfl) ?_ rfl
   refine aN X0 hx (D 9 rfl) ?_ rfl rfl
   refine zV X0 hx hZ hown hw 121 rfl 122 124 123 125 8 (rmLe l hw rb bb kb u n c_ cs Z0 Scs hcs Bs) e0 Bs.1 hml (D 10 rfl) pd20 (W := 1) (rest := [(.int 3)]) ?_ rfl rfl rfl rfl rfl (by decide) (lq rfl) rfl rfl rfl
   rintro T7 L7 v7 X7 ⟨rfl, N7q, eh7⟩
   have N7 := Fr.app N0 N7q
   refine gicmpNo X7 hx (D 11 rfl) (flt (nlN n 3 (by omega) (by omega) (by omega))).2.2.1 ?_
   refine jN X7 hx (D 12 rfl) ?_ rfl
   refine aN X7 hx (D 13 rfl) ?_ rfl rfl
   refine zV X7 hx hZ hown hw 121 rfl 122 124 123 125 8 (rmLe l hw rb bb kb u n c_ cs Z0 Scs hcs Bs) eh7 Bs.1 hml (D 14 rfl) pd20 (W := 1) (rest := [(.int 3)]) ?_ rfl rfl rfl rfl rfl (by decide) (lq rfl) rfl rfl rfl
   rintro T8 L8 v8 X8 ⟨rfl, N8q, eh8⟩
   have N8 := Fr.app N7 N8q
   refine gY X8 hx (pc := 25) (pc' := 39) (D 15 rfl) (teq (yeN 3 n (by omega) (by omega) (by omega))).1 ?_ (by decide) (by decide)
   show Gt T8 m 39 _ []
   exact nR3_0 Z a0 hw hx hby hlk hret hml hnm _ _ hS hown hZ rb bb kb u n c_ cs fm dE kD eL eM mO a mc st o4 h0 hh n0 T8 _ X8 eh8 N8 Z0 hk hR K0 Scs hcs Sd Sh Sl Sfm hfm Sde Ade Sem Sel Mo Bs Ea ga sz_a Fm Fe Fs hsp h2k (by omega) (Or.inl cI)
theorem nR3_1 {p : Program} {l : Launch} {e : Env} {s : State} {m : MethodId} {args : Array Value} {below : List Frame} {meth : Method} {c : Code}  (Z : State) (a0 : Array Value) (hw : HW a0 Z) (hx : p.tables.exec = Jvm.exec) (hby : c.code = prog_12_method_3_code) (hlk : meth.locks = false) (hret : meth.sig.returnType = some (.object "java/util/List")) (hml : c.maxLocals = 5) (hnm : meth.name = "names") (vm0 : Vm) (kS0 : Nat) (hS : s.Since vm0 kS0) (hown : (s.setVm vm0).vm.findClass "com/example/engarce/engarce/NameList" = some m.cls) (hZ : Z.Warmed39 (s.setVm vm0).vm) (rb bb : Addr) (kb : ClassId) (u : Bool) (n : Nat) (c_ : Nat → Int32) (cs : Int32) (fm : Value) (dE : Addr) (kD : ClassId) (eL eM mO : Addr) (a : Addr) (mc : Int32) (eD : Addr) (kE : ClassId) (j0 q0 : Addr) (y0 : ClassId) (w0 : Bool) (lo0 hi0 : Nat) (st : Nat) (o4 : Option Addr) (h0 hh : Heap) (n0 : Nat) (T0 : State) (locs0 : List Loc) (X0 : Stand p l e (rM 9 29 190 140) (s.setVm vm0) m args below meth c T0 locs0 17 109) (e0 : T0.heap = hh) (N0 : Fr n0 locs0) (Z0 : n0 ≤ hh.size) (hk : kS0 ≤ hh.size) (hR : CHr Z ELs s.vm s.heap vm0 hh) (K0 : Keep h0 hh []) (Scs : S_0 Z hh (.int cs)) (hcs : ¬ cs = (0 : Int32)) (Sd : S_2 Z hh (.int 1)) (Sh : S_3 Z hh (.int 0)) (Sl : S_4 Z hh (.int 8)) (Sfm : S_1 Z hh fm) (hfm : fm.isRef = true) (Sde : S_5 Z hh (.ref dE)) (Sem : S_7 Z hh (.ref eM)) (Sel : S_6 Z hh (.ref eL)) (Mo : Mir Z "[Ljava/lang/Object;" mO) (Bs : Sb Z hh rb bb kb u n c_) (Ea : X_1 Z hh a) (ga : n0 ≤ a) (sz_a : h0.size ≤ a) (Fm : F_2 Z hh a (.int mc)) (Fe : F_3 Z hh a (.ref eD)) (Fs : F_4 Z hh a (.int 1)) (Aed : Arv Z hh eD kE (.object "java/lang/Object") 10 [(.ref j0), .null, .null, .null, .null, .null, .null, .null, .null, .null] .null) (Oed : Ovr Z kE "java/lang/Object") (Xed : X_2 Z hh eD) (ged : n0 ≤ eD) (sz_eD : h0.size ≤ eD) (nad : a ≠ eD) (B0 : Sb Z hh j0 q0 y0 w0 (hi0 - lo0) (fun i => c_ (lo0 + i))) (hsp : sp c_ n 3 = (st, [(lo0, hi0)])) (h2k : 2 * 1 ≤ st) (hin : 3 ≤ n) (hq : 3 = n ∨ sp? (c_ 3) = true) :
  Goes p e below (EH Z ELs s (QNm Z rb bb kb u n c_ cs fm dE kD eL eM mO h0 n0) (rM 9 29 190 140).cells (rM 9 29 190 140).slots) (T0.setTop (mkF m 39 #[rv rb, rv a, iv (iN st), iv 3, (orf o4)] [])) := by
 have D := @db _ _ _ hby Dp12_3
 have hn4 := Bs.2.2.2.2.1
 have hst := sp_st hsp
 show Gt T0 m 39 _ []
 refine aN X0 hx (D 21 rfl) ?_ rfl rfl
 refine jN X0 hx (D 22 rfl) ?_ rfl
 refine jN X0 hx (D 23 rfl) ?_ rfl
 obtain ⟨cq1, kq1, qa1, qb1, qc1⟩ := isOf hZ e0 Bs.1
 obtain ⟨_, _, ⟨T1, L1, k1, n1⟩, -, X1, hS1, hg1, ⟨Lc1, hQ1, l1, y1, z1, hCr1⟩, st1⟩ := X0.virtualBackS hx (y := mN34) (z := mN34) hown (mvT hZ (hw 161 rfl)) (mvT hZ (hw 162 rfl)) (notFace_of_selects (args := #[]) (mvT hZ (hw 164 rfl))) (mvT hZ (hw 164 rfl)) (mvT hZ (hw 163 rfl)) (by decide) (backOfSH (W := 0) (rmSu l hw rb bb kb u n c_ st 3 cs fm Z0 Scs hcs Sd Sh Sl Sfm hfm Bs (by omega) (by omega)) hZ (hw 165 rfl) (hw 8 rfl) (by decide) (by decide) (hELs hw) hR.1) qa1 qc1 (g := (mkF m 42 #[rv rb, rv a, iv (iN st), iv 3, (orf o4)] [(.int 3), (.int (iN st)), (.ref rb)])) rfl hml.symm (Steps.refl _) (argsL := [(.int (iN st)), (.int 3)]) (rest := []) (lenOf pd37 rfl) rfl (by show 2 * 0 + _ ≤ _; exact Nat.le_of_eq rfl) (D 24 rfl) (fun _ _ => ⟨rfl, e0, (by decide : 17 + 3 ≤ 29), (by decide : 109 + 20 ≤ 190)⟩)
 dsimp only [Pt.U, Pt.locs, Pt.cells, Pt.slots] at X1 l1 y1 z1 st1 hQ1 hS1 hg1 hCr1
 subst l1 y1 z1
 obtain ⟨X1, hS, hZ, hown⟩ := rebS hS (by rw [e0]; exact hk) X1 hS1 hg1 hZ hown
 have hk := Nat.le_refl T1.heap.size
 have hR := hR.trans hCr1
 obtain ⟨r1, bb1, kB1, u1, rfl, N1q, K1, Sb1⟩ := hQ1
 have KK2 := K0.trans K1 all0
 have Z1 := lT Z0 K1.1
 have N1 := Fr.app N0 N1q
 refine Goes.sts st1 ?_
 have f3 := (Scs.kept K1 ns0)
 have f4 := (Sd.kept K1 ns0)
 have f5 := (Sh.kept K1 ns0)
 have f6 := (Sl.kept K1 ns0)
 obtain ⟨cq7, kq7, qa7, qb7, qc7⟩ := isOf hZ rfl Sb1.1
 obtain ⟨_, _, ⟨T7, L7, k7, n7⟩, -, X7, hS7, hg7, ⟨Lc7, hQ7, l7, y7, z7, hCr7⟩, st7⟩ := X1.virtualBackS hx (y := mN37) (z := mN37) hown (mvT hZ (hw 173 rfl)) (mvT hZ (hw 174 rfl)) (notFace_of_selects (args := #[]) (mvT hZ (hw 176 rfl))) (mvT hZ (hw 176 rfl)) (mvT hZ (hw 175 rfl)) (by decide) (backOfSH (W := 0) (rmTm l hw r1 bb1 kB1 u1 (3 - st) (fun i => c_ (st + i)) cs Z1 f3 hcs f4 f5 f6 Sb1) hZ (hw 177 rfl) (hw 8 rfl) (by decide) (by decide) (hELs hw) hR.1) qa7 qc7 (g := (mkF m 45 #[rv rb, rv a, iv (iN st), iv 3, (orf o4)] [(.ref r1)])) rfl hml.symm (Steps.refl _) (argsL := []) (rest := []) (lenOf pd38 rfl) rfl (by show 2 * 0 + _ ≤ _; exact Nat.le_of_eq rfl) (D 25 rfl) (fun _ _ => ⟨rfl, rfl, (by decide : 20 + 2 ≤ 29), (by decide : 129 + 12 ≤ 190)⟩)
 dsimp only [Pt.U, Pt.locs, Pt.cells, Pt.slots] at X7 l7 y7 z7 st7 hQ7 hS7 hg7 hCr7
 subst l7 y7 z7
 obtain ⟨X7, hS, hZ, hown⟩ := rebS hS hk X7 hS7 hg7 hZ hown
 have hk := Nat.le_refl T7.heap.size
 have hR := hR.trans hCr7
 obtain ⟨s7, e7, r7, bb7, kC7, u7, rfl, N7q, K7, tb7, Sb7⟩ := hQ7
 have KK8 := KK2.trans K7 all0
 have Z7 := lT Z1 K7.1
 have N7 := Fr.app N1 N7q
 refine Goes.sts st7 ?_
 show Gt T7 m 48 #[rv rb, rv a, iv (iN st), iv 3, (orf o4)] [(.ref r7)]
 have tb_ := id tb7
 obtain ⟨t1_, t2_, -⟩ := tb_
 rcases Nat.decEq (e7 - s7) 0 with cZ | cZ
 ·refine gastore X7 hx (D 26 rfl) rfl (l' := #[rv rb, rv a, iv (iN st), iv 3, rv r7]) (by cases o4 <;> rfl) ?_
  refine aW X7 hx (D 27 rfl) ?_ rfl rfl
  refine zV X7 hx hZ hown hw 31 rfl 32 34 33 35 8 (rmEm0 l hw r7 bb7 kC7 u7 (e7 - s7) (fun i => (fun i => c_ (st + i)) (s7 + i)) Z7 Sb7 cZ) rfl Sb7.1 hml (D 28 rfl) pd7 (W := 0) (rest := []) ?_ rfl rfl rfl rfl rfl (by decide) (lq rfl) rfl rfl rfl
  rintro T9 L9 v9 X9 ⟨rfl, N9q, eh9⟩
  have N9 := Fr.app N7 N9q
  refine gifNo X9 hx (D 29 rfl) (by decide) ?_
  refine aN X9 hx (D 30 rfl) ?_ rfl rfl
  refine aW X9 hx (D 31 rfl) ?_ rfl rfl
  have f10 := ((Ea.keep K1).keep K7)
  have f11 := ((Fm.keep K1 nin0).keep K7 nin0)
  have f12 := ((Fe.keep K1 nin0).keep K7 nin0)
  have f13 := ((Fs.keep K1 nin0).keep K7 nin0)
  have f14 := ((Aed.keep K1 nin0).keep K7 nin0)
  have f15 := ((Xed.keep K1).keep K7)
  have f17 := ((Ea.keep K1).keep K7)
  refine zI X9 hx hZ hown hw 203 rfl 204 (mvT hZ (hw 205 rfl)) 206 207 208 209 210 211 99 (rmA11 l hw a eD kE mc j0 r7 Z7 f10 ga f11 f12 f13 f14 Oed ged nad Sb7.1) eh9 f17 hml (D 32 rfl) pd39 (W := 0) (rest := []) ?_ rfl rfl rfl rfl rfl rfl rfl rfl (by decide) (lq rfl) rfl rfl rfl
  rintro T16 L16 v16 X16 ⟨rfl, N16q, K16, R16_0, R16_1, R16_2, VE16⟩
  have hk := lT hk K16.1
  have hR := hR.trans (CHr.keep K16 (sfS (Safe.exa hZ.alike f10 (by decide) (by decide)) (sfS (Safe.exa hZ.alike f15 (by decide) (by decide)) sf0)) hR.1)
  have KK18 := KK8.trans K16 (allS (Or.inr sz_a) (allS (Or.inr sz_eD) all0))
  have Z16 := lT Z7 K16.1
  have N16 := Fr.app N9 N16q
  show Gt T16 m 66 _ [(.int 1)]
  refine Goes.st (fun tg kg => XT.pop X16.here hx rfl (D 33 rfl) rfl rfl kg) ?_
  refine jN X16 hx (D 34 rfl) ?_ rfl
  refine giconst X16 hx (D 35 rfl) ?_
  refine giadd X16 hx (D 36 rfl) ?_
  show Gt T16 m 70 #[rv rb, rv a, iv (iN st), iv 3, rv r7] [(.int ((3 : Int32) + (1 : Int32)))]
  rw [show ((3 : Int32) + (1 : Int32)) = (4 : Int32) from by decide]
  refine gistoreN X16 hx (D 37 rfl) (l' := #[rv rb, rv a, iv 4, iv 3, rv r7]) rfl ?_
  refine giinc X16 hx (D 38 rfl) rfl (l' := #[rv rb, rv a, iv 4, iv 4, rv r7]) rfl ?_
  refine gG X16 hx (pc := 74) (pc' := 12) (D 39 rfl) ?_ (by decide) (by decide)
  show Gt T16 m 12 _ []
  have f19 := (f10.keep K16)
  have f20 := (((Bs.1.keep K1).keep K7).keep K16)
  have f21 := (f15.keep K16)
  have f22 := (((Bs.keep K1 nb0).keep K7 nb0).keep K16 (bS (ninS (exaNe f20 f19 (by decide)) (ninS (exaNe f20 f21 (by decide)) nin0)) (bS (ninS (kinNe (((Bs.2.2.2.1.kin.keep K1).keep K7).keep K16) f19 (hw 98 rfl)) (ninS (kinTy (((Bs.2.2.2.1.kin.keep K1).keep K7).keep K16) VE16.kin (by decide)) nin0)) b0)))
  have f23 := ((f3.kept K7 ns0).kept K16 (nsS (Exa.nostat f10) (nsS (Exa.nostat f15) ns0)))
  have f24 := ((f4.kept K7 ns0).kept K16 (nsS (Exa.nostat f10) (nsS (Exa.nostat f15) ns0)))
  have f25 := ((f5.kept K7 ns0).kept K16 (nsS (Exa.nostat f10) (nsS (Exa.nostat f15) ns0)))
  have f26 := ((f6.kept K7 ns0).kept K16 (nsS (Exa.nostat f10) (nsS (Exa.nostat f15) ns0)))
  have f27 := (((Sfm.kept K1 ns0).kept K7 ns0).kept K16 (nsS (Exa.nostat f10) (nsS (Exa.nostat f15) ns0)))
  have f28 := (((Sde.kept K1 ns0).kept K7 ns0).kept K16 (nsS (Exa.nostat f10) (nsS (Exa.nostat f15) ns0)))
  have f29 := (((Sem.kept K1 ns0).kept K7 ns0).kept K16 (nsS (Exa.nostat f10) (nsS (Exa.nostat f15) ns0)))
  have f30 := (((Sel.kept K1 ns0).kept K7 ns0).kept K16 (nsS (Exa.nostat f10) (nsS (Exa.nostat f15) ns0)))
  have f31 := (((B0.1.keep K1).keep K7).keep K16)
  have f32 := (((B0.keep K1 nb0).keep K7 nb0).keep K16 (bS (ninS (exaNe f31 f19 (by decide)) (ninS (exaNe f31 f21 (by decide)) nin0)) (bS (ninS (kinNe (((B0.2.2.2.1.kin.keep K1).keep K7).keep K16) f19 (hw 98 rfl)) (ninS (kinTy (((B0.2.2.2.1.kin.keep K1).keep K7).keep K16) VE16.kin (by decide)) nin0)) b0)))
  have f33 := (Sb7.1.keep K16)
  have f34 := (Sb7.keep K16 (bS (ninS (exaNe f33 f19 (by decide)) (ninS (exaNe f33 f21 (by decide)) nin0)) (bS (ninS (kinNe (Sb7.2.2.2.1.kin.keep K16) f19 (hw 98 rfl)) (ninS (kinTy (Sb7.2.2.2.1.kin.keep K16) VE16.kin (by decide)) nin0)) b0)))
  exact nH4_2 Z a0 hw hx hby hlk hret hml hnm _ _ hS hown hZ rb bb kb u n c_ cs fm dE kD eL eM mO a ((mc + (1 : Int32))) eD kE j0 q0 y0 w0 lo0 hi0 r7 bb7 kC7 u7 ((st + s7)) ((st + e7)) 4 (some r7) h0 T16.heap n0 T16 _ (X16.more (by decide : 22 ≤ 22) (by decide : 141 ≤ 141)) rfl N16 Z16 hk hR KK18 f23 hcs f24 f25 f26 f27 hfm f28 f29 f30 Mo f22 f19 ga sz_a R16_0 R16_1 R16_2 VE16 Oed f21 ged sz_eD nad f32 (Sb.cast f34 (by omega) (fun i hi => by show c_ (st + (s7 + i)) = c_ (st + s7 + i); rw [Nat.add_assoc])) (sp_some hsp hq hst (by decide) tb7 cZ) (by omega) (by omega)
 ·refine gastore X7 hx (D 26 rfl) rfl (l' := #[rv rb, rv a, iv (iN st), iv 3, rv r7]) (by cases o4 <;> rfl) ?_
  refine aW X7 hx (D 27 rfl) ?_ rfl rfl
  refine zV X7 hx hZ hown hw 31 rfl 32 34 33 35 8 (rmEm1 l hw r7 bb7 kC7 u7 (e7 - s7) (fun i => (fun i => c_ (st + i)) (s7 + i)) Z7 Sb7 cZ) rfl Sb7.1 hml (D 28 rfl) pd7 (W := 0) (rest := []) ?_ rfl rfl rfl rfl rfl (by decide) (lq rfl) rfl rfl rfl
  rintro T35 L35 v35 X35 ⟨rfl, N35q, eh35⟩
  have N35 := Fr.app N7 N35q
  refine gT X35 hx (pc := 55) (pc' := 67) (D 29 rfl) (by decide) ?_ (by decide) (by decide)
  refine jN X35 hx (D 34 rfl) ?_ rfl
  refine giconst X35 hx (D 35 rfl) ?_
  refine giadd X35 hx (D 36 rfl) ?_
  show Gt T35 m 70 _ [(.int ((3 : Int32) + (1 : Int32)))]
  rw [show ((3 : Int32) + (1 : Int32)) = (4 : Int32) from by decide]
  refine gistoreN X35 hx (D 37 rfl) (l' := #[rv rb, rv a, iv 4, iv 3, rv r7]) rfl ?_
  refine giinc X35 hx (D 38 rfl) rfl (l' := #[rv rb, rv a, iv 4, iv 4, rv r7]) rfl ?_
  refine gG X35 hx (pc := 74) (pc' := 12) (D 39 rfl) ?_ (by decide) (by decide)
  show Gt T35 m 12 _ []
  have f36 := ((Bs.keep K1 nb0).keep K7 nb0)
  have f37 := (f3.kept K7 ns0)
  have f38 := (f4.kept K7 ns0)
  have f39 := (f5.kept K7 ns0)
  have f40 := (f6.kept K7 ns0)
  have f41 := ((Sfm.kept K1 ns0).kept K7 ns0)
  have f42 := ((Sde.kept K1 ns0).kept K7 ns0)
  have f43 := ((Sem.kept K1 ns0).kept K7 ns0)
  have f44 := ((Sel.kept K1 ns0).kept K7 ns0)
  have f45 := ((Ea.keep K1).keep K7)
  have f46 := ((Fm.keep K1 nin0).keep K7 nin0)
  have f47 := ((Fe.keep K1 nin0).keep K7 nin0)
  have f48 := ((Fs.keep K1 nin0).keep K7 nin0)
  have f49 := ((Aed.keep K1 nin0).keep K7 nin0)
  have f50 := ((Xed.keep K1).keep K7)
  have f51 := ((B0.keep K1 nb0).keep K7 nb0)
  exact nH4_1 Z a0 hw hx hby hlk hret hml hnm _ _ hS hown hZ rb bb kb u n c_ cs fm dE kD eL eM mO a mc eD kE j0 q0 y0 w0 lo0 hi0 4 (some r7) h0 T7.heap n0 T35 _ (X35.more (by decide : 22 ≤ 22) (by decide : 141 ≤ 141)) eh35 N35 Z7 hk hR KK8 f37 hcs f38 f39 f40 f41 hfm f42 f43 f44 Mo f36 f45 ga sz_a f46 f47 f48 f49 Oed f50 ged sz_eD nad f51 (sp_none hsp hq hst tb7 cZ) (by omega) (by omega)
theorem nH3_1 {p : Program} {l : Launch} {e : Env} {s : State} {m : MethodId} {args : Array Value} {below : List Frame} {meth : Method} {c : Code}  (Z : State) (a0 : Array Value) (hw : HW a0 Z) (hx : p.tables.exec = Jvm.exec) (hby : c.code = prog_12_method_3_code) (hlk : meth.locks = false) (hret : meth.sig.returnType = some (.object "java/util/List")) (hml : c.maxLocals = 5) (hnm : meth.name = "names") (vm0 : Vm) (kS0 : Nat) (hS : s.Since vm0 kS0) (hown : (s.setVm vm0).vm.findClass "com/example/engarce/engarce/NameList" = some m.cls) (hZ : Z.Warmed39 (s.setVm vm0).vm) (rb bb : Addr) (kb : ClassId) (u : Bool) (n : Nat) (c_ : Nat → Int32) (cs : Int32) (fm : Value) (dE : Addr) (kD : ClassId) (eL eM mO : Addr) (a : Addr) (mc : Int32) (eD : Addr) (kE : ClassId) (j0 q0 : Addr) (y0 : ClassId) (w0 : Bool) (lo0 hi0 : Nat) (st : Nat) (o4 : Option Addr) (h0 hh : Heap) (n0 : Nat) (T0 : State) (locs0 : List Loc) (X0 : Stand p l e (rM 9 29 190 140) (s.setVm vm0) m args below meth c T0 locs0 17 109) (e0 : T0.heap = hh) (N0 : Fr n0 locs0) (Z0 : n0 ≤ hh.size) (hk : kS0 ≤ hh.size) (hR : CHr Z ELs s.vm s.heap vm0 hh) (K0 : Keep h0 hh []) (Scs : S_0 Z hh (.int cs)) (hcs : ¬ cs = (0 : Int32)) (Sd : S_2 Z hh (.int 1)) (Sh : S_3 Z hh (.int 0)) (Sl : S_4 Z hh (.int 8)) (Sfm : S_1 Z hh fm) (hfm : fm.isRef = true) (Sde : S_5 Z hh (.ref dE)) (Sem : S_7 Z hh (.ref eM)) (Sel : S_6 Z hh (.ref eL)) (Mo : Mir Z "[Ljava/lang/Object;" mO) (Bs : Sb Z hh rb bb kb u n c_) (Ea : X_1 Z hh a) (ga : n0 ≤ a) (sz_a : h0.size ≤ a) (Fm : F_2 Z hh a (.int mc)) (Fe : F_3 Z hh a (.ref eD)) (Fs : F_4 Z hh a (.int 1)) (Aed : Arv Z hh eD kE (.object "java/lang/Object") 10 [(.ref j0), .null, .null, .null, .null, .null, .null, .null, .null, .null] .null) (Oed : Ovr Z kE "java/lang/Object") (Xed : X_2 Z hh eD) (ged : n0 ≤ eD) (sz_eD : h0.size ≤ eD) (nad : a ≠ eD) (B0 : Sb Z hh j0 q0 y0 w0 (hi0 - lo0) (fun i => c_ (lo0 + i))) (hsp : sp c_ n 3 = (st, [(lo0, hi0)])) (h2k : 2 * 1 ≤ st) (hin : 3 ≤ n + 1) :
  Goes p e below (EH Z ELs s (QNm Z rb bb kb u n c_ cs fm dE kD eL eM mO h0 n0) (rM 9 29 190 140).cells (rM 9 29 190 140).slots) (T0.setTop (mkF m 12 #[rv rb, rv a, iv (iN st), iv 3, (orf o4)] [])) := by
 have D := @db _ _ _ hby Dp12_3
 have hn4 := Bs.2.2.2.2.1
 have hst := sp_st hsp
 show Gt T0 m 12 _ []
 rcases Nat.lt_or_ge n 3 with cX | cX
 ·refine jN X0 hx (D 8 rfl) ?_ rfl
  refine aN X0 hx (D 9 rfl) ?_ rfl rfl
  refine zV X0 hx hZ hown hw 121 rfl 122 124 123 125 8 (rmLe l hw rb bb kb u n c_ cs Z0 Scs hcs Bs) e0 Bs.1 hml (D 10 rfl) pd20 (W := 1) (rest := [(.int 3)]) ?_ rfl rfl rfl rfl rfl (by decide) (lq rfl) rfl rfl rfl
  rintro T1 L1 v1 X1 ⟨rfl, N1q, eh1⟩
  have N1 := Fr.app N0 N1q
  refine gY X1 hx (pc := 17) (pc' := 77) (D 11 rfl) (tlt (ylN n 3 (by omega) (by omega) (by omega))).2.2.1 ?_ (by decide) (by decide)
  show Gt T1 m 77 _ []
  exact nX1 Z a0 hw hx hby hlk hret hml hnm _ _ hS hown hZ rb bb kb u n c_ cs fm dE kD eL eM mO a mc eD kE j0 q0 y0 w0 lo0 hi0 st (3 : Int32) o4 h0 hh n0 T1 _ (X1.more (by decide : 17 ≤ 27) (by decide : 109 ≤ 173)) eh1 N1 Z0 hk hR K0 Scs hcs Sd Sh Sl Sfm hfm Sde Sem Sel Mo Bs Ea ga sz_a Fm Fe Fs Aed Oed Xed ged sz_eD nad B0 (by rw [show n + 1 = 3 by omega]; exact hsp)
 ·rcases Nat.decEq 3 n with cI | cI
  ·refine jN X0 hx (D 8 rfl) ?_ rfl
   refine aN X0 hx (D 9 rfl) ?_ rfl rfl
   refine zV X0 hx hZ hown hw 121 rfl 122 124 123 125 8 (rmLe l hw rb bb kb u n c_ cs Z0 Scs hcs Bs) e0 Bs.1 hml (D 10 rfl) pd20 (W := 1) (rest := [(.int 3)]) ?_ rfl rfl rfl rfl rfl (by decide) (lq rfl) rfl rfl rfl
   rintro T2 L2 v2 X2 ⟨rfl, N2q, eh2⟩
   have N2 := Fr.app N0 N2q
   refine gicmpNo X2 hx (D 11 rfl) (flt (nlN n 3 (by omega) (by omega) (by omega))).2.2.1 ?_
   refine jN X2 hx (D 12 rfl) ?_ rfl
   refine aN X2 hx (D 13 rfl) ?_ rfl rfl
   refine zV X2 hx hZ hown hw 121 rfl 122 124 123 125 8 (rmLe l hw rb bb kb u n c_ cs Z0 Scs hcs Bs) eh2 Bs.1 hml (D 14 rfl) pd20 (W := 1) (rest := [(.int 3)]) ?_ rfl rfl rfl rfl rfl (by decide) (lq rfl) rfl rfl rfl
   rintro T3 L3 v3 X3 ⟨rfl, N3q, eh3⟩
   have N3 := Fr.app N2 N3q
   refine gicmpNo X3 hx (D 15 rfl) (feq (neN 3 n (by omega) (by omega) (by omega))).1 ?_
   refine aN X3 hx (D 16 rfl) ?_ rfl rfl
   show Gt T3 m 29 _ [(.ref rb)]
   refine jN X3 hx (D 17 rfl) ?_ rfl
   refine zV X3 hx hZ hown hw 131 rfl 132 134 133 135 8 (rmCa l hw rb bb kb u n c_ 3 cs fm Z0 Scs hcs Sd Sh Sl Sfm hfm Bs (by omega)) eh3 Bs.1 hml (D 18 rfl) pd40 (W := 0) (rest := []) ?_ rfl rfl rfl rfl rfl (by decide) (lq rfl) rfl rfl rfl
   rintro T4 L4 v4 X4 ⟨rfl, N4q, eh4⟩
   have N4 := Fr.app N3 N4q
   show Gt T4 m 33 _ [(.int (c_ 3))]
   rcases (Bool.eq_false_or_eq_true (sp? (c_ 3))) with cS | cS
   ·refine zS X4 hx hZ hown hw 158 159 160 29 (rmIs1 l hw (c_ 3) Z0 cS) eh4 hml (D 19 rfl) pd41 (W := 0) (rest := []) ?_ rfl rfl rfl rfl (by decide) (lq rfl) rfl rfl rfl
    rintro T5 L5 v5 X5 ⟨rfl, N5q, eh5⟩
    have N5 := Fr.app N4 N5q
    refine gifNo X5 hx (D 20 rfl) (by decide) ?_
    show Gt T5 m 39 _ []
    exact nR3_1 Z a0 hw hx hby hlk hret hml hnm _ _ hS hown hZ rb bb kb u n c_ cs fm dE kD eL eM mO a mc eD kE j0 q0 y0 w0 lo0 hi0 st o4 h0 hh n0 T5 _ X5 eh5 N5 Z0 hk hR K0 Scs hcs Sd Sh Sl Sfm hfm Sde Sem Sel Mo Bs Ea ga sz_a Fm Fe Fs Aed Oed Xed ged sz_eD nad B0 hsp h2k (by omega) (Or.inr cS)
   ·refine zS X4 hx hZ hown hw 158 159 160 29 (rmIs0 l hw (c_ 3) Z0 cS) eh4 hml (D 19 rfl) pd41 (W := 0) (rest := []) ?_ rfl rfl rfl rfl (by decide) (lq rfl) rfl rfl rfl
    rintro T6 L6 v6 X6 ⟨rfl, N6q, eh6⟩
    have N6 := Fr.app N4 N6q
    refine gT X6 hx (pc := 36) (pc' := 71) (D 20 rfl) (by decide) ?_ (by decide) (by decide)
    refine giinc X6 hx (D 38 rfl) rfl (l' := #[rv rb, rv a, iv (iN st), iv 4, (orf o4)]) rfl ?_
    refine gG X6 hx (pc := 74) (pc' := 12) (D 39 rfl) ?_ (by decide) (by decide)
    show Gt T6 m 12 _ []
    exact nH4_1 Z a0 hw hx hby hlk hret hml hnm _ _ hS hown hZ rb bb kb u n c_ cs fm dE kD eL eM mO a mc eD kE j0 q0 y0 w0 lo0 hi0 st o4 h0 hh n0 T6 _ (X6.more (by decide : 17 ≤ 22) (by decide : 109 ≤ 141)) eh6 N6 Z0 hk hR K0 Scs hcs Sd Sh Sl Sfm hfm Sde Sem Sel Mo Bs Ea ga sz_a Fm Fe Fs Aed Oed Xed ged sz_eD nad B0 (sp_skip hsp (by omega) cS) h2k (by omega)
  ·refine jN X0 hx (D 8 rfl) ?_ rfl
   refine aN X0 hx (D 9 rfl) ?_ rfl rfl
   refine zV X0 hx hZ hown hw 121 rfl 122 124 123 125 8 (rmLe l hw rb bb kb u n c_ cs Z0 Scs hcs Bs) e0 Bs.1 hml (D 10 rfl) pd20 (W := 1) (rest := [(.int 3)]) ?_ rfl rfl rfl rfl rfl (by decide) (lq rfl) rfl rfl rfl
   rintro T7 L7 v7 X7 ⟨rfl, N7q, eh7⟩
   have N7 := Fr.app N0 N7q
   refine gicmpNo X7 hx (D 11 rfl) (flt (nlN n 3 (by omega) (by omega) (by omega))).2.2.1 ?_
   refine jN X7 hx (D 12 rfl) ?_ rfl
   refine aN X7 hx (D 13 rfl) ?_ rfl rfl
   refine zV X7 hx hZ hown hw 121 rfl 122 124 123 125 8 (rmLe l hw rb bb kb u n c_ cs Z0 Scs hcs Bs) eh7 Bs.1 hml (D 14 rfl) pd20 (W := 1) (rest := [(.int 3)]) ?_ rfl rfl rfl rfl rfl (by decide) (lq rfl) rfl rfl rfl
   rintro T8 L8 v8 X8 ⟨rfl, N8q, eh8⟩
   have N8 := Fr.app N7 N8q
   refine gY X8 hx (pc := 25) (pc' := 39) (D 15 rfl) (teq (yeN 3 n (by omega) (by omega) (by omega))).1 ?_ (by decide) (by decide)
   show Gt T8 m 39 _ []
   exact nR3_1 Z a0 hw hx hby hlk hret hml hnm _ _ hS hown hZ rb bb kb u n c_ cs fm dE kD eL eM mO a mc eD kE j0 q0 y0 w0 lo0 hi0 st o4 h0 hh n0 T8 _ X8 eh8 N8 Z0 hk hR K0 Scs hcs Sd Sh Sl Sfm hfm Sde Sem Sel Mo Bs Ea ga sz_a Fm Fe Fs Aed Oed Xed ged sz_eD nad B0 hsp h2k (by omega) (Or.inl cI)
theorem nR2_0 {p : Program} {l : Launch} {e : Env} {s : State} {m : MethodId} {args : Array Value} {below : List Frame} {meth : Method} {c : Code}  (Z : State) (a0 : Array Value) (hw : HW a0 Z) (hx : p.tables.exec = Jvm.exec) (hby : c.code = prog_12_method_3_code) (hlk : meth.locks = false) (hret : meth.sig.returnType = some (.object "java/util/List")) (hml : c.maxLocals = 5) (hnm : meth.name = "names") (vm0 : Vm) (kS0 : Nat) (hS : s.Since vm0 kS0) (hown : (s.setVm vm0).vm.findClass "com/example/engarce/engarce/NameList" = some m.cls) (hZ : Z.Warmed39 (s.setVm vm0).vm) (rb bb : Addr) (kb : ClassId) (u : Bool) (n : Nat) (c_ : Nat → Int32) (cs : Int32) (fm : Value) (dE : Addr) (kD : ClassId) (eL eM mO : Addr) (a : Addr) (mc : Int32) (st : Nat) (o4 : Option Addr) (h0 hh : Heap) (n0 : Nat) (T0 : State) (locs0 : List Loc) (X0 : Stand p l e (rM 9 29 190 140) (s.setVm vm0) m args below meth c T0 locs0 11 67) (e0 : T0.heap = hh) (N0 : Fr n0 locs0) (Z0 : n0 ≤ hh.size) (hk : kS0 ≤ hh.size) (hR : CHr Z ELs s.vm s.heap vm0 hh) (K0 : Keep h0 hh []) (Scs : S_0 Z hh (.int cs)) (hcs : ¬ cs = (0 : Int32)) (Sd : S_2 Z hh (.int 1)) (Sh : S_3 Z hh (.int 0)) (Sl : S_4 Z hh (.int 8)) (Sfm : S_1 Z hh fm) (hfm : fm.isRef = true) (Sde : S_5 Z hh (.ref dE)) (Ade : Arv Z hh dE kD (.object "java/lang/Object") 0 [] .null) (Sem : S_7 Z hh (.ref eM)) (Sel : S_6 Z hh (.ref eL)) (Mo : Mir Z "[Ljava/lang/Object;" mO) (Bs : Sb Z hh rb bb kb u n c_) (Ea : X_1 Z hh a) (ga : n0 ≤ a) (sz_a : h0.size ≤ a) (Fm : F_2 Z hh a (.int mc)) (Fe : F_3 Z hh a (.ref dE)) (Fs : F_4 Z hh a (.int 0)) (hsp : sp c_ n 2 = (st, [])) (h2k : 2 * 0 ≤ st) (hin : 2 ≤ n) (hq : 2 = n ∨ sp? (c_ 2) = true) :
  Goes p e below (EH Z ELs s (QNm Z rb bb kb u n c_ cs fm dE kD eL eM mO h0 n0) (rM 9 29 190 140).cells (rM 9 29 190 140).slots) (T0.setTop (mkF m 39 #[rv rb, rv a, iv (iN st), iv 2, (orf o4)] [])) := by
 have D := @db _ _ _ hby Dp12_3
 have hn4 := Bs.2.2.2.2.1
 have hst := sp_st hsp
 show Gt T0 m 39 _ []
 refine aN X0 hx (D 21 rfl) ?_ rfl rfl
 refine jN X0 hx (D 22 rfl) ?_ rfl
 refine jN X0 hx (D 23 rfl) ?_ rfl
 obtain ⟨cq1, kq1, qa1, qb1, qc1⟩ := isOf hZ e0 Bs.1
 obtain ⟨_, _, ⟨T1, L1, k1, n1⟩, -, X1, hS1, hg1, ⟨Lc1, hQ1, l1, y1, z1, hCr1⟩, st1⟩ := X0.virtualBackS hx (y := mN34) (z := mN34) hown (mvT hZ (hw 161 rfl)) (mvT hZ (hw 162 rfl)) (notFace_of_selects (args := #[]) (mvT hZ (hw 164 rfl))) (mvT hZ (hw 164 rfl)) (mvT hZ (hw 163 rfl)) (by decide) (backOfSH (W := 0) (rmSu l hw rb bb kb u n c_ st 2 cs fm Z0 Scs hcs Sd Sh Sl Sfm hfm Bs (by omega) (by omega)) hZ (hw 165 rfl) (hw 8 rfl) (by decide) (by decide) (hELs hw) hR.1) qa1 qc1 (g := (mkF m 42 #[rv rb, rv a, iv (iN st), iv 2, (orf o4)] [(.int 2), (.int (iN st)), (.ref rb)])) rfl hml.symm (Steps.refl _) (argsL := [(.int (iN st)), (.int 2)]) (rest := []) (lenOf pd37 rfl) rfl (by show 2 * 0 + _ ≤ _; exact Nat.le_of_eq rfl) (D 24 rfl) (fun _ _ => ⟨rfl, e0, (by decide : 11 + 3 ≤ 29), (by decide : 67 + 20 ≤ 190)⟩)
 dsimp only [Pt.U, Pt.locs, Pt.cells, Pt.slots] at X1 l1 y1 z1 st1 hQ1 hS1 hg1 hCr1
 subst l1 y1 z1
 obtain ⟨X1, hS, hZ, hown⟩ := rebS hS (by rw [e0]; exact hk) X1 hS1 hg1 hZ hown
 have hk := Nat.le_refl T1.heap.size
 have hR := hR.trans hCr1
 obtain ⟨r1, bb1, kB1, u1, rfl, N1q, K1, Sb1⟩ := hQ1
 have KK2 := K0.trans K1 all0
 have Z1 := lT Z0 K1.1
 have N1 := Fr.app N0 N1q
 refine Goes.sts st1 ?_
 have f3 := (Scs.kept K1 ns0)
 have f4 := (Sd.kept K1 ns0)
 have f5 := (Sh.kept K1 ns0)
 have f6 := (Sl.kept K1 ns0)
 obtain ⟨cq7, kq7, qa7, qb7, qc7⟩ := isOf hZ rfl Sb1.1
 obtain ⟨_, _, ⟨T7, L7, k7, n7⟩, -, X7, hS7, hg7, ⟨Lc7, hQ7, l7, y7, z7, hCr7⟩, st7⟩ := X1.virtualBackS hx (y := mN37) (z := mN37) hown (mvT hZ (hw 173 rfl)) (mvT hZ (hw 174 rfl)) (notFace_of_selects (args := #[]) (mvT hZ (hw 176 rfl))) (mvT hZ (hw 176 rfl)) (mvT hZ (hw 175 rfl)) (by decide) (backOfSH (W := 0) (rmTm l hw r1 bb1 kB1 u1 (2 - st) (fun i => c_ (st + i)) cs Z1 f3 hcs f4 f5 f6 Sb1) hZ (hw 177 rfl) (hw 8 rfl) (by decide) (by decide) (hELs hw) hR.1) qa7 qc7 (g := (mkF m 45 #[rv rb, rv a, iv (iN st), iv 2, (orf o4)] [(.ref r1)])) rfl hml.symm (Steps.refl _) (argsL := []) (rest := []) (lenOf pd38 rfl) rfl (by show 2 * 0 + _ ≤ _; exact Nat.le_of_eq rfl) (D 25 rfl) (fun _ _ => ⟨rfl, rfl, (by decide : 14 + 2 ≤ 29), (by decide : 87 + 12 ≤ 190)⟩)
 dsimp only [Pt.U, Pt.locs, Pt.cells, Pt.slots] at X7 l7 y7 z7 st7 hQ7 hS7 hg7 hCr7
 subst l7 y7 z7
 obtain ⟨X7, hS, hZ, hown⟩ := rebS hS hk X7 hS7 hg7 hZ hown
 have hk := Nat.le_refl T7.heap.size
 have hR := hR.trans hCr7
 obtain ⟨s7, e7, r7, bb7, kC7, u7, rfl, N7q, K7, tb7, Sb7⟩ := hQ7
 have KK8 := KK2.trans K7 all0
 have Z7 := lT Z1 K7.1
 have N7 := Fr.app N1 N7q
 refine Goes.sts st7 ?_
 show Gt T7 m 48 #[rv rb, rv a, iv (iN st), iv 2, (orf o4)] [(.ref r7)]
 have tb_ := id tb7
 obtain ⟨t1_, t2_, -⟩ := tb_
 rcases Nat.decEq (e7 - s7) 0 with cZ | cZ
 ·refine gastore X7 hx (D 26 rfl) rfl (l' := #[rv rb, rv a, iv (iN st), iv 2, rv r7]) (by cases o4 <;> rfl) ?_
  refine aW X7 hx (D 27 rfl) ?_ rfl rfl
  refine zV X7 hx hZ hown hw 31 rfl 32 34 33 35 8 (rmEm0 l hw r7 bb7 kC7 u7 (e7 - s7) (fun i => (fun i => c_ (st + i)) (s7 + i)) Z7 Sb7 cZ) rfl Sb7.1 hml (D 28 rfl) pd7 (W := 0) (rest := []) ?_ rfl rfl rfl rfl rfl (by decide) (lq rfl) rfl rfl rfl
  rintro T9 L9 v9 X9 ⟨rfl, N9q, eh9⟩
  have N9 := Fr.app N7 N9q
  refine gifNo X9 hx (D 29 rfl) (by decide) ?_
  refine aN X9 hx (D 30 rfl) ?_ rfl rfl
  refine aW X9 hx (D 31 rfl) ?_ rfl rfl
  have f10 := ((Ea.keep K1).keep K7)
  have f11 := ((Fm.keep K1 nin0).keep K7 nin0)
  have f12 := ((Fe.keep K1 nin0).keep K7 nin0)
  have f13 := ((Fs.keep K1 nin0).keep K7 nin0)
  have f14 := ((Sde.kept K1 ns0).kept K7 ns0)
  have f15 := ((Ade.keep K1 nin0).keep K7 nin0)
  have f17 := ((Ea.keep K1).keep K7)
  refine zI X9 hx hZ hown hw 203 rfl 204 (mvT hZ (hw 205 rfl)) 206 207 208 209 210 211 99 (rmA10 l hw a dE kD mc r7 Z7 f10 ga f11 f12 f13 f14 f15 (Ne.symm (kinNe f15.kin f10 (hw 98 rfl))) Sb7.1) eh9 f17 hml (D 32 rfl) pd39 (W := 0) (rest := []) ?_ rfl rfl rfl rfl rfl rfl rfl rfl (by decide) (lq rfl) rfl rfl rfl
  rintro T16 L16 v16 X16 ⟨bE16, kE16, rfl, N16q, K16, szq16, loq16, R16_0, R16_1, R16_2, VE16, OE16, XE16⟩
  have hk := lT hk K16.1
  have hR := hR.trans (CHr.keep K16 (sfS (Safe.exa hZ.alike f10 (by decide) (by decide)) sf0) hR.1)
  have KK18 := KK8.trans K16 (allS (Or.inr sz_a) all0)
  have sz_bE16 := lT KK8.1 szq16
  have Z16 := lT Z7 K16.1
  have N16 := Fr.app N9 N16q
  show Gt T16 m 66 _ [(.int 1)]
  refine Goes.st (fun tg kg => XT.pop X16.here hx rfl (D 33 rfl) rfl rfl kg) ?_
  refine jN X16 hx (D 34 rfl) ?_ rfl
  refine giconst X16 hx (D 35 rfl) ?_
  refine giadd X16 hx (D 36 rfl) ?_
  show Gt T16 m 70 #[rv rb, rv a, iv (iN st), iv 2, rv r7] [(.int ((2 : Int32) + (1 : Int32)))]
  rw [show ((2 : Int32) + (1 : Int32)) = (3 : Int32) from by decide]
  refine gistoreN X16 hx (D 37 rfl) (l' := #[rv rb, rv a, iv 3, iv 2, rv r7]) rfl ?_
  refine giinc X16 hx (D 38 rfl) rfl (l' := #[rv rb, rv a, iv 3, iv 3, rv r7]) rfl ?_
  refine gG X16 hx (pc := 74) (pc' := 12) (D 39 rfl) ?_ (by decide) (by decide)
  show Gt T16 m 12 _ []
  have f19 := (f10.keep K16)
  have f20 := (((Bs.1.keep K1).keep K7).keep K16)
  have f21 := (((Bs.keep K1 nb0).keep K7 nb0).keep K16 (bS (ninS (exaNe f20 f19 (by decide)) nin0) (bS (ninS (kinNe (((Bs.2.2.2.1.kin.keep K1).keep K7).keep K16) f19 (hw 98 rfl)) nin0) b0)))
  have f22 := ((f3.kept K7 ns0).kept K16 (nsS (Exa.nostat f10) ns0))
  have f23 := ((f4.kept K7 ns0).kept K16 (nsS (Exa.nostat f10) ns0))
  have f24 := ((f5.kept K7 ns0).kept K16 (nsS (Exa.nostat f10) ns0))
  have f25 := ((f6.kept K7 ns0).kept K16 (nsS (Exa.nostat f10) ns0))
  have f26 := (((Sfm.kept K1 ns0).kept K7 ns0).kept K16 (nsS (Exa.nostat f10) ns0))
  have f27 := (f14.kept K16 (nsS (Exa.nostat f10) ns0))
  have f28 := (((Sem.kept K1 ns0).kept K7 ns0).kept K16 (nsS (Exa.nostat f10) ns0))
  have f29 := (((Sel.kept K1 ns0).kept K7 ns0).kept K16 (nsS (Exa.nostat f10) ns0))
  have ne30 := neL f10.lt szq16
  have f31 := (Sb7.1.keep K16)
  have f32 := (Sb7.keep K16 (bS (ninS (exaNe f31 f19 (by decide)) nin0) (bS (ninS (kinNe (Sb7.2.2.2.1.kin.keep K16) f19 (hw 98 rfl)) nin0) b0)))
  exact nH3_1 Z a0 hw hx hby hlk hret hml hnm _ _ hS hown hZ rb bb kb u n c_ cs fm dE kD eL eM mO a ((mc + (1 : Int32))) bE16 kE16 r7 bb7 kC7 u7 ((st + s7)) ((st + e7)) 3 (some r7) h0 T16.heap n0 T16 _ (X16.more (by decide : 17 ≤ 17) (by decide : 109 ≤ 109)) rfl N16 Z16 hk hR KK18 f22 hcs f23 f24 f25 f26 hfm f27 f28 f29 Mo f21 f19 ga sz_a R16_0 R16_1 R16_2 VE16 OE16 XE16 loq16 sz_bE16 ne30 (Sb.cast f32 (by omega) (fun i hi => by show c_ (st + (s7 + i)) = c_ (st + s7 + i); rw [Nat.add_assoc])) (sp_some hsp hq hst (by decide) tb7 cZ) (by omega) (by omega)
 ·refine gastore X7 hx (D 26 rfl) rfl (l' := #[rv rb, rv a, iv (iN st), iv 2, rv r7]) (by cases o4 <;> rfl) ?_
  refine aW X7 hx (D 27 rfl) ?_ rfl rfl
  refine zV X7 hx hZ hown hw 31 rfl 32 34 33 35 8 (rmEm1 l hw r7 bb7 kC7 u7 (e7 - s7) (fun i => (fun i => c_ (st + i)) (s7 + i)) Z7 Sb7 cZ) rfl Sb7.1 hml (D 28 rfl) pd7 (W := 0) (rest := []) ?_ rfl rfl rfl rfl rfl (by decide) (lq rfl) rfl rfl rfl
  rintro T33 L33 v33 X33 ⟨rfl, N33q, eh33⟩
  have N33 := Fr.app N7 N33q
  refine gT X33 hx (pc := 55) (pc' := 67) (D 29 rfl) (by decide) ?_ (by decide) (by decide)
  refine jN X33 hx (D 34 rfl) ?_ rfl
  refine giconst X33 hx (D 35 rfl) ?_
  refine giadd X33 hx (D 36 rfl) ?_
  show Gt T33 m 70 _ [(.int ((2 : Int32) + (1 : Int32)))]
  rw [show ((2 : Int32) + (1 : Int32)) = (3 : Int32) from by decide]
  refine gistoreN X33 hx (D 37 rfl) (l' := #[rv rb, rv a, iv 3, iv 2, rv r7]) rfl ?_
  refine giinc X33 hx (D 38 rfl) rfl (l' := #[rv rb, rv a, iv 3, iv 3, rv r7]) rfl ?_
  refine gG X33 hx (pc := 74) (pc' := 12) (D 39 rfl) ?_ (by decide) (by decide)
  show Gt T33 m 12 _ []
  have f34 := ((Bs.keep K1 nb0).keep K7 nb0)
  have f35 := (f3.kept K7 ns0)
  have f36 := (f4.kept K7 ns0)
  have f37 := (f5.kept K7 ns0)
  have f38 := (f6.kept K7 ns0)
  have f39 := ((Sfm.kept K1 ns0).kept K7 ns0)
  have f40 := ((Sde.kept K1 ns0).kept K7 ns0)
  have f41 := ((Ade.keep K1 nin0).keep K7 nin0)
  have f42 := ((Sem.kept K1 ns0).kept K7 ns0)
  have f43 := ((Sel.kept K1 ns0).kept K7 ns0)
  have f44 := ((Ea.keep K1).keep K7)
  have f45 := ((Fm.keep K1 nin0).keep K7 nin0)
  have f46 := ((Fe.keep K1 nin0).keep K7 nin0)
  have f47 := ((Fs.keep K1 nin0).keep K7 nin0)
  exact nH3_0 Z a0 hw hx hby hlk hret hml hnm _ _ hS hown hZ rb bb kb u n c_ cs fm dE kD eL eM mO a mc 3 (some r7) h0 T7.heap n0 T33 _ (X33.more (by decide : 16 ≤ 16) (by decide : 99 ≤ 99)) eh33 N33 Z7 hk hR KK8 f35 hcs f36 f37 f38 f39 hfm f40 f41 f42 f43 Mo f34 f44 ga sz_a f45 f46 f47 (sp_none hsp hq hst tb7 cZ) (by omega) (by omega)
theorem nH2_0 {p : Program} {l : Launch} {e : Env} {s : State} {m : MethodId} {args : Array Value} {below : List Frame} {meth : Method} {c : Code}  (Z : State) (a0 : Array Value) (hw : HW a0 Z) (hx : p.tables.exec = Jvm.exec) (hby : c.code = prog_12_method_3_code) (hlk : meth.locks = false) (hret : meth.sig.returnType = some (.object "java/util/List")) (hml : c.maxLocals = 5) (hnm : meth.name = "names") (vm0 : Vm) (kS0 : Nat) (hS : s.Since vm0 kS0) (hown : (s.setVm vm0).vm.findClass "com/example/engarce/engarce/NameList" = some m.cls) (hZ : Z.Warmed39 (s.setVm vm0).vm) (rb bb : Addr) (kb : ClassId) (u : Bool) (n : Nat) (c_ : Nat → Int32) (cs : Int32) (fm : Value) (dE : Addr) (kD : ClassId) (eL eM mO : Addr) (a : Addr) (mc : Int32) (st : Nat) (o4 : Option Addr) (h0 hh : Heap) (n0 : Nat) (T0 : State) (locs0 : List Loc) (X0 : Stand p l e (rM 9 29 190 140) (s.setVm vm0) m args below meth c T0 locs0 11 67) (e0 : T0.heap = hh) (N0 : Fr n0 locs0) (Z0 : n0 ≤ hh.size) (hk : kS0 ≤ hh.size) (hR : CHr Z ELs s.vm s.heap vm0 hh) (K0 : Keep h0 hh []) (Scs : S_0 Z hh (.int cs)) (hcs : ¬ cs = (0 : Int32)) (Sd : S_2 Z hh (.int 1)) (Sh : S_3 Z hh (.int 0)) (Sl : S_4 Z hh (.int 8)) (Sfm : S_1 Z hh fm) (hfm : fm.isRef = true) (Sde : S_5 Z hh (.ref dE)) (Ade : Arv Z hh dE kD (.object "java/lang/Object") 0 [] .null) (Sem : S_7 Z hh (.ref eM)) (Sel : S_6 Z hh (.ref eL)) (Mo : Mir Z "[Ljava/lang/Object;" mO) (Bs : Sb Z hh rb bb kb u n c_) (Ea : X_1 Z hh a) (ga : n0 ≤ a) (sz_a : h0.size ≤ a) (Fm : F_2 Z hh a (.int mc)) (Fe : F_3 Z hh a (.ref dE)) (Fs : F_4 Z hh a (.int 0)) (hsp : sp c_ n 2 = (st, [])) (h2k : 2 * 0 ≤ st) (hin : 2 ≤ n + 1) :
  Goes p e below (EH Z ELs s (QNm Z rb bb kb u n c_ cs fm dE kD eL eM mO h0 n0) (rM 9 29 190 140).cells (rM 9 29 190 140).slots) (T0.setTop (mkF m 12 #[rv rb, rv a, iv (iN st), iv 2, (orf o4)] [])) := by
 have D := @db _ _ _ hby Dp12_3
 have hn4 := Bs.2.2.2.2.1
 have hst := sp_st hsp
 show Gt T0 m 12 _ []
 rcases Nat.lt_or_ge n 2 with cX | cX
 ·refine jN X0 hx (D 8 rfl) ?_ rfl
  refine aN X0 hx (D 9 rfl) ?_ rfl rfl
  refine zV X0 hx hZ hown hw 121 rfl 122 124 123 125 8 (rmLe l hw rb bb kb u n c_ cs Z0 Scs hcs Bs) e0 Bs.1 hml (D 10 rfl) pd20 (W := 1) (rest := [(.int 2)]) ?_ rfl rfl rfl rfl rfl (by decide) (lq rfl) rfl rfl rfl
  rintro T1 L1 v1 X1 ⟨rfl, N1q, eh1⟩
  have N1 := Fr.app N0 N1q
  refine gY X1 hx (pc := 17) (pc' := 77) (D 11 rfl) (tlt (ylN n 2 (by omega) (by omega) (by omega))).2.2.1 ?_ (by decide) (by decide)
  show Gt T1 m 77 _ []
  exact nX0 Z a0 hw hx hby hlk hret hml hnm _ _ hS hown hZ rb bb kb u n c_ cs fm dE kD eL eM mO a mc st (2 : Int32) o4 h0 hh n0 T1 _ (X1.more (by decide : 11 ≤ 26) (by decide : 67 ≤ 163)) eh1 N1 Z0 hk hR K0 Scs hcs Sd Sh Sl Sfm hfm Sde Ade Sem Sel Mo Bs Ea ga sz_a Fm Fe Fs (by rw [show n + 1 = 2 by omega]; exact hsp)
 ·rcases Nat.decEq 2 n with cI | cI
  ·refine jN X0 hx (D 8 rfl) ?_ rfl
   refine aN X0 hx (D 9 rfl) ?_ rfl rfl
   refine zV X0 hx hZ hown hw 121 rfl 122 124 123 125 8 (rmLe l hw rb bb kb u n c_ cs Z0 Scs hcs Bs) e0 Bs.1 hml (D 10 rfl) pd20 (W := 1) (rest := [(.int 2)]) ?_ rfl rfl rfl rfl rfl (by decide) (lq rfl) rfl rfl rfl
   rintro T2 L2 v2 X2 ⟨rfl, N2q, eh2⟩
   have N2 := Fr.app N0 N2q
   refine gicmpNo X2 hx (D 11 rfl) (flt (nlN n 2 (by omega) (by omega) (by omega))).2.2.1 ?_
   refine jN X2 hx (D 12 rfl) ?_ rfl
   refine aN X2 hx (D 13 rfl) ?_ rfl rfl
   refine zV X2 hx hZ hown hw 121 rfl 122 124 123 125 8 (rmLe l hw rb bb kb u n c_ cs Z0 Scs hcs Bs) eh2 Bs.1 hml (D 14 rfl) pd20 (W := 1) (rest := [(.int 2)]) ?_ rfl rfl rfl rfl rfl (by decide) (lq rfl) rfl rfl rfl
   rintro T3 L3 v3 X3 ⟨rfl, N3q, eh3⟩
   have N3 := Fr.app N2 N3q
   refine gicmpNo X3 hx (D 15 rfl) (feq (neN 2 n (by omega) (by omega) (by omega))).1 ?_
   refine aN X3 hx (D 16 rfl) ?_ rfl rfl
   show Gt T3 m 29 _ [(.ref rb)]
   refine jN X3 hx (D 17 rfl) ?_ rfl
   refine zV X3 hx hZ hown hw 131 rfl 132 134 133 135 8 (rmCa l hw rb bb kb u n c_ 2 cs fm Z0 Scs hcs Sd Sh Sl Sfm hfm Bs (by omega)) eh3 Bs.1 hml (D 18 rfl) pd40 (W := 0) (rest := []) ?_ rfl rfl rfl rfl rfl (by decide) (lq rfl) rfl rfl rfl
   rintro T4 L4 v4 X4 ⟨rfl, N4q, eh4⟩
   have N4 := Fr.app N3 N4q
   show Gt T4 m 33 _ [(.int (c_ 2))]
   rcases (Bool.eq_false_or_eq_true (sp? (c_ 2))) with cS | cS
   ·refine zS X4 hx hZ hown hw 158 159 160 29 (rmIs1 l hw (c_ 2) Z0 cS) eh4 hml (D 19 rfl) pd41 (W := 0) (rest := []) ?_ rfl rfl rfl rfl (by decide) (lq rfl) rfl rfl rfl
    rintro T5 L5 v5 X5 ⟨rfl, N5q, eh5⟩
    have N5 := Fr.app N4 N5q
    refine gifNo X5 hx (D 20 rfl) (by decide) ?_
    show Gt T5 m 39 _ []
    exact nR2_0 Z a0 hw hx hby hlk hret hml hnm _ _ hS hown hZ rb bb kb u n c_ cs fm dE kD eL eM mO a mc st o4 h0 hh n0 T5 _ X5 eh5 N5 Z0 hk hR K0 Scs hcs Sd Sh Sl Sfm hfm Sde Ade Sem Sel Mo Bs Ea ga sz_a Fm Fe Fs hsp h2k (by omega) (Or.inr cS)
   ·refine zS X4 hx hZ hown hw 158 159 160 29 (rmIs0 l hw (c_ 2) Z0 cS) eh4 hml (D 19 rfl) pd41 (W := 0) (rest := []) ?_ rfl rfl rfl rfl (by decide) (lq rfl) rfl rfl rfl
    rintro T6 L6 v6 X6 ⟨rfl, N6q, eh6⟩
    have N6 := Fr.app N4 N6q
    refine gT X6 hx (pc := 36) (pc' := 71) (D 20 rfl) (by decide) ?_ (by decide) (by decide)
    refine giinc X6 hx (D 38 rfl) rfl (l' := #[rv rb, rv a, iv (iN st), iv 3, (orf o4)]) rfl ?_
    refine gG X6 hx (pc := 74) (pc' := 12) (D 39 rfl) ?_ (by decide) (by decide)
    show Gt T6 m 12 _ []
    exact nH3_0 Z a0 hw hx hby hlk hret hml hnm _ _ hS hown hZ rb bb kb u n c_ cs fm dE kD eL eM mO a mc st o4 h0 hh n0 T6 _ (X6.more (by decide : 11 ≤ 16) (by decide : 67 ≤ 99)) eh6 N6 Z0 hk hR K0 Scs hcs Sd Sh Sl Sfm hfm Sde Ade Sem Sel Mo Bs Ea ga sz_a Fm Fe Fs (sp_skip hsp (by omega) cS) h2k (by omega)
  ·refine jN X0 hx (D 8 rfl) ?_ rfl
   refine aN X0 hx (D 9 rfl) ?_ rfl rfl
   refine zV X0 hx hZ hown hw 121 rfl 122 124 123 125 8 (rmLe l hw rb bb kb u n c_ cs Z0 Scs hcs Bs) e0 Bs.1 hml (D 10 rfl) pd20 (W := 1) (rest := [(.int 2)]) ?_ rfl rfl rfl rfl rfl (by decide) (lq rfl) rfl rfl rfl
   rintro T7 L7 v7 X7 ⟨rfl, N7q, eh7⟩
   have N7 := Fr.app N0 N7q
   refine gicmpNo X7 hx (D 11 rfl) (flt (nlN n 2 (by omega) (by omega) (by omega))).2.2.1 ?_
   refine jN X7 hx (D 12 rfl) ?_ rfl
   refine aN X7 hx (D 13 rfl) ?_ rfl rfl
   refine zV X7 hx hZ hown hw 121 rfl 122 124 123 125 8 (rmLe l hw rb bb kb u n c_ cs Z0 Scs hcs Bs) eh7 Bs.1 hml (D 14 rfl) pd20 (W := 1) (rest := [(.int 2)]) ?_ rfl rfl rfl rfl rfl (by decide) (lq rfl) rfl rfl rfl
   rintro T8 L8 v8 X8 ⟨rfl, N8q, eh8⟩
   have N8 := Fr.app N7 N8q
   refine gY X8 hx (pc := 25) (pc' := 39) (D 15 rfl) (teq (yeN 2 n (by omega) (by omega) (by omega))).1 ?_ (by decide) (by decide)
   show Gt T8 m 39 _ []
   exact nR2_0 Z a0 hw hx hby hlk hret hml hnm _ _ hS hown hZ rb bb kb u n c_ cs fm dE kD eL eM mO a mc st o4 h0 hh n0 T8 _ X8 eh8 N8 Z0 hk hR K0 Scs hcs Sd Sh Sl Sfm hfm Sde Ade Sem Sel Mo Bs Ea ga sz_a Fm Fe Fs hsp h2k (by omega) (Or.inl cI)
theorem nR2_1 {p : Program} {l : Launch} {e : Env} {s : State} {m : MethodId} {args : Array Value} {below : List Frame} {meth : Method} {c : Code}  (Z : State) (a0 : Array Value) (hw : HW a0 Z) (hx : p.tables.exec = Jvm.exec) (hby : c.code = prog_12_method_3_code) (hlk : meth.locks = false) (hret : meth.sig.returnType = some (.object "java/util/List")) (hml : c.maxLocals = 5) (hnm : meth.name = "names") (vm0 : Vm) (kS0 : Nat) (hS : s.Since vm0 kS0) (hown : (s.setVm vm0).vm.findClass "com/example/engarce/engarce/NameList" = some m.cls) (hZ : Z.Warmed39 (s.setVm vm0).vm) (rb bb : Addr) (kb : ClassId) (u : Bool) (n : Nat) (c_ : Nat → Int32) (cs : Int32) (fm : Value) (dE : Addr) (kD : ClassId) (eL eM mO : Addr) (a : Addr) (mc : Int32) (eD : Addr) (kE : ClassId) (j0 q0 : Addr) (y0 : ClassId) (w0 : Bool) (lo0 hi0 : Nat) (st : Nat) (o4 : Option Addr) (h0 hh : Heap) (n0 : Nat) (T0 : State) (locs0 : List Loc) (X0 : Stand p l e (rM 9 29 190 140) (s.setVm vm0) m args below meth c T0 locs0 12 77) (e0 : T0.heap = hh) (N0 : Fr n0 locs0) (Z0 : n0 ≤ hh.size) (hk : kS0 ≤ hh.size) (hR : CHr Z ELs s.vm s.heap vm0 hh) (K0 : Keep h0 hh []) (Scs : S_0 Z hh (.int cs)) (hcs : ¬ cs = (0 : Int32)) (Sd : S_2 Z hh (.int 1)) (Sh : S_3 Z hh (.int 0)) (Sl : S_4 Z hh (.int 8)) (Sfm : S_1 Z hh fm) (hfm : fm.isRef = true) (Sde : S_5 Z hh (.ref dE)) (Sem : S_7 Z hh (.ref eM)) (Sel : S_6 Z hh (.ref eL)) (Mo : Mir Z "[Ljava/lang/Object;" mO) (Bs : Sb Z hh rb bb kb u n c_) (Ea : X_1 Z hh a) (ga : n0 ≤ a) (sz_a : h0.size ≤ a) (Fm : F_2 Z hh a (.int mc)) (Fe : F_3 Z hh a (.ref eD)) (Fs : F_4 Z hh a (.int 1)) (Aed : Arv Z hh eD kE (.object "java/lang/Object") 10 [(.ref j0), .null, .null, .null, .null, .null, .null, .null, .null, .null] .null) (Oed : Ovr Z kE "java/lang/Object") (Xed : X_2 Z hh eD) (ged : n0 ≤ eD) (sz_eD : h0.size ≤ eD) (nad : a ≠ eD) (B0 : Sb Z hh j0 q0 y0 w0 (hi0 - lo0) (fun i => c_ (lo0 + i))) (hsp : sp c_ n 2 = (st, [(lo0, hi0)])) (h2k : 2 * 1 ≤ st) (hin : 2 ≤ n) (hq : 2 = n ∨ sp? (c_ 2) = true) :
  Goes p e below (EH Z ELs s (QNm Z rb bb kb u n c_ cs fm dE kD eL eM mO h0 n0) (rM 9 29 190 140).cells (rM 9 29 190 140).slots) (T0.setTop (mkF m 39 #[rv rb, rv a, iv (iN st), iv 2, (orf o4)] [])) := by
 have D := @db _ _ _ hby Dp12_3
 have hn4 := Bs.2.2.2.2.1
 have hst := sp_st hsp
 show Gt T0 m 39 _ []
 refine aN X0 hx (D 21 rfl) ?_ rfl rfl
 refine jN X0 hx (D 22 rfl) ?_ rfl
 refine jN X0 hx (D 23 rfl) ?_ rfl
 obtain ⟨cq1, kq1, qa1, qb1, qc1⟩ := isOf hZ e0 Bs.1
 obtain ⟨_, _, ⟨T1, L1, k1, n1⟩, -, X1, hS1, hg1, ⟨Lc1, hQ1, l1, y1, z1, hCr1⟩, st1⟩ := X0.virtualBackS hx (y := mN34) (z := mN34) hown (mvT hZ (hw 161 rfl)) (mvT hZ (hw 162 rfl)) (notFace_of_selects (args := #[]) (mvT hZ (hw 164 rfl))) (mvT hZ (hw 164 rfl)) (mvT hZ (hw 163 rfl)) (by decide) (backOfSH (W := 0) (rmSu l hw rb bb kb u n c_ st 2 cs fm Z0 Scs hcs Sd Sh Sl Sfm hfm Bs (by omega) (by omega)) hZ (hw 165 rfl) (hw 8 rfl) (by decide) (by decide) (hELs hw) hR.1) qa1 qc1 (g := (mkF m 42 #[rv rb, rv a, iv (iN st), iv 2, (orf o4)] [(.int 2), (.int (iN st)), (.ref rb)])) rfl hml.symm (Steps.refl _) (argsL := [(.int (iN st)), (.int 2)]) (rest := []) (lenOf pd37 rfl) rfl (by show 2 * 0 + _ ≤ _; exact Nat.le_of_eq rfl) (D 24 rfl) (fun _ _ => ⟨rfl, e0, (by decide : 12 + 3 ≤ 29), (by decide : 77 + 20 ≤ 190)⟩)
 dsimp only [Pt.U, Pt.locs, Pt.cells, Pt.slots] at X1 l1 y1 z1 st1 hQ1 hS1 hg1 hCr1
 subst l1 y1 z1
 obtain ⟨X1, hS, hZ, hown⟩ := rebS hS (by rw [e0]; exact hk) X1 hS1 hg1 hZ hown
 have hk := Nat.le_refl T1.heap.size
 have hR := hR.trans hCr1
 obtain ⟨r1, bb1, kB1, u1, rfl, N1q, K1, Sb1⟩ := hQ1
 have KK2 := K0.trans K1 all0
 have Z1 := lT Z0 K1.1
 have N1 := Fr.app N0 N1q
 refine Goes.sts st1 ?_
 have f3 := (Scs.kept K1 ns0)
 have f4 := (Sd.kept K1 ns0)
 have f5 := (Sh.kept K1 ns0)
 have f6 := (Sl.kept K1 ns0)
 obtain ⟨cq7, kq7, qa7, qb7, qc7⟩ := isOf hZ rfl Sb1.1
 obtain ⟨_, _, ⟨T7, L7, k7, n7⟩, -, X7, hS7, hg7, ⟨Lc7, hQ7, l7, y7, z7, hCr7⟩, st7⟩ := X1.virtualBackS hx (y := mN37) (z := mN37) hown (mvT hZ (hw 173 rfl)) (mvT hZ (hw 174 rfl)) (notFace_of_selects (args := #[]) (mvT hZ (hw 176 rfl))) (mvT hZ (hw 176 rfl)) (mvT hZ (hw 175 rfl)) (by decide) (backOfSH (W := 0) (rmTm l hw r1 bb1 kB1 u1 (2 - st) (fun i => c_ (st + i)) cs Z1 f3 hcs f4 f5 f6 Sb1) hZ (hw 177 rfl) (hw 8 rfl) (by decide) (by decide) (hELs hw) hR.1) qa7 qc7 (g := (mkF m 45 #[rv rb, rv a, iv (iN st), iv 2, (orf o4)] [(.ref r1)])) rfl hml.symm (Steps.refl _) (argsL := []) (rest := []) (lenOf pd38 rfl) rfl (by show 2 * 0 + _ ≤ _; exact Nat.le_of_eq rfl) (D 25 rfl) (fun _ _ => ⟨rfl, rfl, (by decide : 15 + 2 ≤ 29), (by decide : 97 + 12 ≤ 190)⟩)
 dsimp only [Pt.U, Pt.locs, Pt.cells, Pt.slots] at X7 l7 y7 z7 st7 hQ7 hS7 hg7 hCr7
 subst l7 y7 z7
 obtain ⟨X7, hS, hZ, hown⟩ := rebS hS hk X7 hS7 hg7 hZ hown
 have hk := Nat.le_refl T7.heap.size
 have hR := hR.trans hCr7
 obtain ⟨s7, e7, r7, bb7, kC7, u7, rfl, N7q, K7, tb7, Sb7⟩ := hQ7
 have KK8 := KK2.trans K7 all0
 have Z7 := lT Z1 K7.1
 have N7 := Fr.app N1 N7q
 refine Goes.sts st7 ?_
 show Gt T7 m 48 #[rv rb, rv a, iv (iN st), iv 2, (orf o4)] [(.ref r7)]
 have tb_ := id tb7
 obtain ⟨t1_, t2_, -⟩ := tb_
 rcases Nat.decEq (e7 - s7) 0 with cZ | cZ
 ·omega
 ·refine gastore X7 hx (D 26 rfl) rfl (l' := #[rv rb, rv a, iv (iN st), iv 2, rv r7]) (by cases o4 <;> rfl) ?_
  refine aW X7 hx (D 27 rfl) ?_ rfl rfl
  refine zV X7 hx hZ hown hw 31 rfl 32 34 33 35 8 (rmEm1 l hw r7 bb7 kC7 u7 (e7 - s7) (fun i => (fun i => c_ (st + i)) (s7 + i)) Z7 Sb7 cZ) rfl Sb7.1 hml (D 28 rfl) pd7 (W := 0) (rest := []) ?_ rfl rfl rfl rfl rfl (by decide) (lq rfl) rfl rfl rfl
  rintro T9 L9 v9 X9 ⟨rfl, N9q, eh9⟩
  have N9 := Fr.app N7 N9q
  refine gT X9 hx (pc := 55) (pc' := 67) (D 29 rfl) (by decide) ?_ (by decide) (by decide)
  refine jN X9 hx (D 34 rfl) ?_ rfl
  refine giconst X9 hx (D 35 rfl) ?_
  refine giadd X9 hx (D 36 rfl) ?_
  show Gt T9 m 70 _ [(.int ((2 : Int32) + (1 : Int32)))]
  rw [show ((2 : Int32) + (1 : Int32)) = (3 : Int32) from by decide]
  refine gistoreN X9 hx (D 37 rfl) (l' := #[rv rb, rv a, iv 3, iv 2, rv r7]) rfl ?_
  refine giinc X9 hx (D 38 rfl) rfl (l' := #[rv rb, rv a, iv 3, iv 3, rv r7]) rfl ?_
  refine gG X9 hx (pc := 74) (pc' := 12) (D 39 rfl) ?_ (by decide) (by decide)
  show Gt T9 m 12 _ []
  have f10 := ((Bs.keep K1 nb0).keep K7 nb0)
  have f11 := (f3.kept K7 ns0)
  have f12 := (f4.kept K7 ns0)
  have f13 := (f5.kept K7 ns0)
  have f14 := (f6.kept K7 ns0)
  have f15 := ((Sfm.kept K1 ns0).kept K7 ns0)
  have f16 := ((Sde.kept K1 ns0).kept K7 ns0)
  have f17 := ((Sem.kept K1 ns0).kept K7 ns0)
  have f18 := ((Sel.kept K1 ns0).kept K7 ns0)
  have f19 := ((Ea.keep K1).keep K7)
  have f20 := ((Fm.keep K1 nin0).keep K7 nin0)
  have f21 := ((Fe.keep K1 nin0).keep K7 nin0)
  have f22 := ((Fs.keep K1 nin0).keep K7 nin0)
  have f23 := ((Aed.keep K1 nin0).keep K7 nin0)
  have f24 := ((Xed.keep K1).keep K7)
  have f25 := ((B0.keep K1 nb0).keep K7 nb0)
  exact nH3_1 Z a0 hw hx hby hlk hret hml hnm _ _ hS hown hZ rb bb kb u n c_ cs fm dE kD eL eM mO a mc eD kE j0 q0 y0 w0 lo0 hi0 3 (some r7) h0 T7.heap n0 T9 _ (X9.more (by decide : 17 ≤ 17) (by decide : 109 ≤ 109)) eh9 N9 Z7 hk hR KK8 f11 hcs f12 f13 f14 f15 hfm f16 f17 f18 Mo f10 f19 ga sz_a f20 f21 f22 f23 Oed f24 ged sz_eD nad f25 (sp_none hsp hq hst tb7 cZ) (by omega) (by omega)
theorem nH2_1 {p : Program} {l : Launch} {e : Env} {s : State} {m : MethodId} {args : Array Value} {below : List Frame} {meth : Method} {c : Code}  (Z : State) (a0 : Array Value) (hw : HW a0 Z) (hx : p.tables.exec = Jvm.exec) (hby : c.code = prog_12_method_3_code) (hlk : meth.locks = false) (hret : meth.sig.returnType = some (.object "java/util/List")) (hml : c.maxLocals = 5) (hnm : meth.name = "names") (vm0 : Vm) (kS0 : Nat) (hS : s.Since vm0 kS0) (hown : (s.setVm vm0).vm.findClass "com/example/engarce/engarce/NameList" = some m.cls) (hZ : Z.Warmed39 (s.setVm vm0).vm) (rb bb : Addr) (kb : ClassId) (u : Bool) (n : Nat) (c_ : Nat → Int32) (cs : Int32) (fm : Value) (dE : Addr) (kD : ClassId) (eL eM mO : Addr) (a : Addr) (mc : Int32) (eD : Addr) (kE : ClassId) (j0 q0 : Addr) (y0 : ClassId) (w0 : Bool) (lo0 hi0 : Nat) (st : Nat) (o4 : Option Addr) (h0 hh : Heap) (n0 : Nat) (T0 : State) (locs0 : List Loc) (X0 : Stand p l e (rM 9 29 190 140) (s.setVm vm0) m args below meth c T0 locs0 12 77) (e0 : T0.heap = hh) (N0 : Fr n0 locs0) (Z0 : n0 ≤ hh.size) (hk : kS0 ≤ hh.size) (hR : CHr Z ELs s.vm s.heap vm0 hh) (K0 : Keep h0 hh []) (Scs : S_0 Z hh (.int cs)) (hcs : ¬ cs = (0 : Int32)) (Sd : S_2 Z hh (.int 1)) (Sh : S_3 Z hh (.int 0)) (Sl : S_4 Z hh (.int 8)) (Sfm : S_1 Z hh fm) (hfm : fm.isRef = true) (Sde : S_5 Z hh (.ref dE)) (Sem : S_7 Z hh (.ref eM)) (Sel : S_6 Z hh (.ref eL)) (Mo : Mir Z "[Ljava/lang/Object;" mO) (Bs : Sb Z hh rb bb kb u n c_) (Ea : X_1 Z hh a) (ga : n0 ≤ a) (sz_a : h0.size ≤ a) (Fm : F_2 Z hh a (.int mc)) (Fe : F_3 Z hh a (.ref eD)) (Fs : F_4 Z hh a (.int 1)) (Aed : Arv Z hh eD kE (.object "java/lang/Object") 10 [(.ref j0), .null, .null, .null, .null, .null, .null, .null, .null, .null] .null) (Oed : Ovr Z kE "java/lang/Object") (Xed : X_2 Z hh eD) (ged : n0 ≤ eD) (sz_eD : h0.size ≤ eD) (nad : a ≠ eD) (B0 : Sb Z hh j0 q0 y0 w0 (hi0 - lo0) (fun i => c_ (lo0 + i))) (hsp : sp c_ n 2 = (st, [(lo0, hi0)])) (h2k : 2 * 1 ≤ st) (hin : 2 ≤ n + 1) :
  Goes p e below (EH Z ELs s (QNm Z rb bb kb u n c_ cs fm dE kD eL eM mO h0 n0) (rM 9 29 190 140).cells (rM 9 29 190 140).slots) (T0.setTop (mkF m 12 #[rv rb, rv a, iv (iN st), iv 2, (orf o4)] [])) := by
 have D := @db _ _ _ hby Dp12_3
 have hn4 := Bs.2.2.2.2.1
 have hst := sp_st hsp
 show Gt T0 m 12 _ []
 rcases Nat.lt_or_ge n 2 with cX | cX
 ·refine jN X0 hx (D 8 rfl) ?_ rfl
  refine aN X0 hx (D 9 rfl) ?_ rfl rfl
  refine zV X0 hx hZ hown hw 121 rfl 122 124 123 125 8 (rmLe l hw rb bb kb u n c_ cs Z0 Scs hcs Bs) e0 Bs.1 hml (D 10 rfl) pd20 (W := 1) (rest := [(.int 2)]) ?_ rfl rfl rfl rfl rfl (by decide) (lq rfl) rfl rfl rfl
  rintro T1 L1 v1 X1 ⟨rfl, N1q, eh1⟩
  have N1 := Fr.app N0 N1q
  refine gY X1 hx (pc := 17) (pc' := 77) (D 11 rfl) (tlt (ylN n 2 (by omega) (by omega) (by omega))).2.2.1 ?_ (by decide) (by decide)
  show Gt T1 m 77 _ []
  exact nX1 Z a0 hw hx hby hlk hret hml hnm _ _ hS hown hZ rb bb kb u n c_ cs fm dE kD eL eM mO a mc eD kE j0 q0 y0 w0 lo0 hi0 st (2 : Int32) o4 h0 hh n0 T1 _ (X1.more (by decide : 12 ≤ 27) (by decide : 77 ≤ 173)) eh1 N1 Z0 hk hR K0 Scs hcs Sd Sh Sl Sfm hfm Sde Sem Sel Mo Bs Ea ga sz_a Fm Fe Fs Aed Oed Xed ged sz_eD nad B0 (by rw [show n + 1 = 2 by omega]; exact hsp)
 ·rcases Nat.decEq 2 n with cI | cI
  ·refine jN X0 hx (D 8 rfl) ?_ rfl
   refine aN X0 hx (D 9 rfl) ?_ rfl rfl
   refine zV X0 hx hZ hown hw 121 rfl 122 124 123 125 8 (rmLe l hw rb bb kb u n c_ cs Z0 Scs hcs Bs) e0 Bs.1 hml (D 10 rfl) pd20 (W := 1) (rest := [(.int 2)]) ?_ rfl rfl rfl rfl rfl (by decide) (lq rfl) rfl rfl rfl
   rintro T2 L2 v2 X2 ⟨rfl, N2q, eh2⟩
   have N2 := Fr.app N0 N2q
   refine gicmpNo X2 hx (D 11 rfl) (flt (nlN n 2 (by omega) (by omega) (by omega))).2.2.1 ?_
   refine jN X2 hx (D 12 rfl) ?_ rfl
   refine aN X2 hx (D 13 rfl) ?_ rfl rfl
   refine zV X2 hx hZ hown hw 121 rfl 122 124 123 125 8 (rmLe l hw rb bb kb u n c_ cs Z0 Scs hcs Bs) eh2 Bs.1 hml (D 14 rfl) pd20 (W := 1) (rest := [(.int 2)]) ?_ rfl rfl rfl rfl rfl (by decide) (lq rfl) rfl rfl rfl
   rintro T3 L3 v3 X3 ⟨rfl, N3q, eh3⟩
   have N3 := Fr.app N2 N3q
   refine gicmpNo X3 hx (D 15 rfl) (feq (neN 2 n (by omega) (by omega) (by omega))).1 ?_
   refine aN X3 hx (D 16 rfl) ?_ rfl rfl
   show Gt T3 m 29 _ [(.ref rb)]
   refine jN X3 hx (D 17 rfl) ?_ rfl
   refine zV X3 hx hZ hown hw 131 rfl 132 134 133 135 8 (rmCa l hw rb bb kb u n c_ 2 cs fm Z0 Scs hcs Sd Sh Sl Sfm hfm Bs (by omega)) eh3 Bs.1 hml (D 18 rfl) pd40 (W := 0) (rest := []) ?_ rfl rfl rfl rfl rfl (by decide) (lq rfl) rfl rfl rfl
   rintro T4 L4 v4 X4 ⟨rfl, N4q, eh4⟩
   have N4 := Fr.app N3 N4q
   show Gt T4 m 33 _ [(.int (c_ 2))]
   rcases (Bool.eq_false_or_eq_true (sp? (c_ 2))) with cS | cS
   ·refine zS X4 hx hZ hown hw 158 159 160 29 (rmIs1 l hw (c_ 2) Z0 cS) eh4 hml (D 19 rfl) pd41 (W := 0) (rest := []) ?_ rfl rfl rfl rfl (by decide) (lq rfl) rfl rfl rfl
    rintro T5 L5 v5 X5 ⟨rfl, N5q, eh5⟩
    have N5 := Fr.app N4 N5q
    refine gifNo X5 hx (D 20 rfl) (by decide) ?_
    show Gt T5 m 39 _ []
    exact nR2_1 Z a0 hw hx hby hlk hret hml hnm _ _ hS hown hZ rb bb kb u n c_ cs fm dE kD eL eM mO a mc eD kE j0 q0 y0 w0 lo0 hi0 st o4 h0 hh n0 T5 _ X5 eh5 N5 Z0 hk hR K0 Scs hcs Sd Sh Sl Sfm hfm Sde Sem Sel Mo Bs Ea ga sz_a Fm Fe Fs Aed Oed Xed ged sz_eD nad B0 hsp h2k (by omega) (Or.inr cS)
   ·refine zS X4 hx hZ hown hw 158 159 160 29 (rmIs0 l hw (c_ 2) Z0 cS) eh4 hml (D 19 rfl) pd41 (W := 0) (rest := []) ?_ rfl rfl rfl rfl (by decide) (lq rfl) rfl rfl rfl
    rintro T6 L6 v6 X6 ⟨rfl, N6q, eh6⟩
    have N6 := Fr.app N4 N6q
    refine gT X6 hx (pc := 36) (pc' := 71) (D 20 rfl) (by decide) ?_ (by decide) (by decide)
    refine giinc X6 hx (D 38 rfl) rfl (l' := #[rv rb, rv a, iv (iN st), iv 3, (orf o4)]) rfl ?_
    refine gG X6 hx (pc := 74) (pc' := 12) (D 39 rfl) ?_ (by decide) (by decide)
    show Gt T6 m 12 _ []
    exact nH3_1 Z a0 hw hx hby hlk hret hml hnm _ _ hS hown hZ rb bb kb u n c_ cs fm dE kD eL eM mO a mc eD kE j0 q0 y0 w0 lo0 hi0 st o4 h0 hh n0 T6 _ (X6.more (by decide : 12 ≤ 17) (by decide : 77 ≤ 109)) eh6 N6 Z0 hk hR K0 Scs hcs Sd Sh Sl Sfm hfm Sde Sem Sel Mo Bs Ea ga sz_a Fm Fe Fs Aed Oed Xed ged sz_eD nad B0 (sp_skip hsp (by omega) cS) h2k (by omega)
  ·refine jN X0 hx (D 8 rfl) ?_ rfl
   refine aN X0 hx (D 9 rfl) ?_ rfl rfl
   refine zV X0 hx hZ hown hw 121 rfl 122 124 123 125 8 (rmLe l hw rb bb kb u n c_ cs Z0 Scs hcs Bs) e0 Bs.1 hml (D 10 rfl) pd20 (W := 1) (rest := [(.int 2)]) ?_ rfl rfl rfl rfl rfl (by decide) (lq rfl) rfl rfl rfl
   rintro T7 L7 v7 X7 ⟨rfl, N7q, eh7⟩
   have N7 := Fr.app N0 N7q
   refine gicmpNo X7 hx (D 11 rfl) (flt (nlN n 2 (by omega) (by omega) (by omega))).2.2.1 ?_
   refine jN X7 hx (D 12 rfl) ?_ rfl
   refine aN X7 hx (D 13 rfl) ?_ rfl rfl
   refine zV X7 hx hZ hown hw 121 rfl 122 124 123 125 8 (rmLe l hw rb bb kb u n c_ cs Z0 Scs hcs Bs) eh7 Bs.1 hml (D 14 rfl) pd20 (W := 1) (rest := [(.int 2)]) ?_ rfl rfl rfl rfl rfl (by decide) (lq rfl) rfl rfl rfl
   rintro T8 L8 v8 X8 ⟨rfl, N8q, eh8⟩
   have N8 := Fr.app N7 N8q
   refine gY X8 hx (pc := 25) (pc' := 39) (D 15 rfl) (teq (yeN 2 n (by omega) (by omega) (by omega))).1 ?_ (by decide) (by decide)
   show Gt T8 m 39 _ []
   exact nR2_1 Z a0 hw hx hby hlk hret hml hnm _ _ hS hown hZ rb bb kb u n c_ cs fm dE kD eL eM mO a mc eD kE j0 q0 y0 w0 lo0 hi0 st o4 h0 hh n0 T8 _ X8 eh8 N8 Z0 hk hR K0 Scs hcs Sd Sh Sl Sfm hfm Sde Sem Sel Mo Bs Ea ga sz_a Fm Fe Fs Aed Oed Xed ged sz_eD nad B0 hsp h2k (by omega) (Or.inl cI)
theorem nR1_0 {p : Program} {l : Launch} {e : Env} {s : State} {m : MethodId} {args : Array Value} {below : List Frame} {meth : Method} {c : Code}  (Z : State) (a0 : Array Value) (hw : HW a0 Z) (hx : p.tables.exec = Jvm.exec) (hby : c.code = prog_12_method_3_code) (hlk : meth.locks = false) (hret : meth.sig.returnType = some (.object "java/util/List")) (hml : c.maxLocals = 5) (hnm : meth.name = "names") (vm0 : Vm) (kS0 : Nat) (hS : s.Since vm0 kS0) (hown : (s.setVm vm0).vm.findClass "com/example/engarce/engarce/NameList" = some m.cls) (hZ : Z.Warmed39 (s.setVm vm0).vm) (rb bb : Addr) (kb : ClassId) (u : Bool) (n : Nat) (c_ : Nat → Int32) (cs : Int32) (fm : Value) (dE : Addr) (kD : ClassId) (eL eM mO : Addr) (a : Addr) (mc : Int32) (st : Nat) (o4 : Option Addr) (h0 hh : Heap) (n0 : Nat) (T0 : State) (locs0 : List Loc) (X0 : Stand p l e (rM 9 29 190 140) (s.setVm vm0) m args below meth c T0 locs0 6 35) (e0 : T0.heap = hh) (N0 : Fr n0 locs0) (Z0 : n0 ≤ hh.size) (hk : kS0 ≤ hh.size) (hR : CHr Z ELs s.vm s.heap vm0 hh) (K0 : Keep h0 hh []) (Scs : S_0 Z hh (.int cs)) (hcs : ¬ cs = (0 : Int32)) (Sd : S_2 Z hh (.int 1)) (Sh : S_3 Z hh (.int 0)) (Sl : S_4 Z hh (.int 8)) (Sfm : S_1 Z hh fm) (hfm : fm.isRef = true) (Sde : S_5 Z hh (.ref dE)) (Ade : Arv Z hh dE kD (.object "java/lang/Object") 0 [] .null) (Sem : S_7 Z hh (.ref eM)) (Sel : S_6 Z hh (.ref eL)) (Mo : Mir Z "[Ljava/lang/Object;" mO) (Bs : Sb Z hh rb bb kb u n c_) (Ea : X_1 Z hh a) (ga : n0 ≤ a) (sz_a : h0.size ≤ a) (Fm : F_2 Z hh a (.int mc)) (Fe : F_3 Z hh a (.ref dE)) (Fs : F_4 Z hh a (.int 0)) (hsp : sp c_ n 1 = (st, [])) (h2k : 2 * 0 ≤ st) (hin : 1 ≤ n) (hq : 1 = n ∨ sp? (c_ 1) = true) :
  Goes p e below (EH Z ELs s (QNm Z rb bb kb u n c_ cs fm dE kD eL eM mO h0 n0) (rM 9 29 190 140).cells (rM 9 29 190 140).slots) (T0.setTop (mkF m 39 #[rv rb, rv a, iv (iN st), iv 1, (orf o4)] [])) := by
 have D := @db _ _ _ hby Dp12_3
 have hn4 := Bs.2.2.2.2.1
 have hst := sp_st hsp
 show Gt T0 m 39 _ []
 refine aN X0 hx (D 21 rfl) ?_ rfl rfl
 refine jN X0 hx (D 22 rfl) ?_ rfl
 refine jN X0 hx (D 23 rfl) ?_ rfl
 obtain ⟨cq1, kq1, qa1, qb1, qc1⟩ := isOf hZ e0 Bs.1
 obtain ⟨_, _, ⟨T1, L1, k1, n1⟩, -, X1, hS1, hg1, ⟨Lc1, hQ1, l1, y1, z1, hCr1⟩, st1⟩ := X0.virtualBackS hx (y := mN34) (z := mN34) hown (mvT hZ (hw 161 rfl)) (mvT hZ (hw 162 rfl)) (notFace_of_selects (args := #[]) (mvT hZ (hw 164 rfl))) (mvT hZ (hw 164 rfl)) (mvT hZ (hw 163 rfl)) (by decide) (backOfSH (W := 0) (rmSu l hw rb bb kb u n c_ st 1 cs fm Z0 Scs hcs Sd Sh Sl Sfm hfm Bs (by omega) (by omega)) hZ (hw 165 rfl) (hw 8 rfl) (by decide) (by decide) (hELs hw) hR.1) qa1 qc1 (g := (mkF m 42 #[rv rb, rv a, iv (iN st), iv 1, (orf o4)] [(.int 1), (.int (iN st)), (.ref rb)])) rfl hml.symm (Steps.refl _) (argsL := [(.int (iN st)), (.int 1)]) (rest := []) (lenOf pd37 rfl) rfl (by show 2 * 0 + _ ≤ _; exact Nat.le_of_eq rfl) (D 24 rfl) (fun _ _ => ⟨rfl, e0, (by decide : 6 + 3 ≤ 29), (by decide : 35 + 20 ≤ 190)⟩)
 dsimp only [Pt.U, Pt.locs, Pt.cells, Pt.slots] at X1 l1 y1 z1 st1 hQ1 hS1 hg1 hCr1
 subst l1 y1 z1
 obtain ⟨X1, hS, hZ, hown⟩ := rebS hS (by rw [e0]; exact hk) X1 hS1 hg1 hZ hown
 have hk := Nat.le_refl T1.heap.size
 have hR := hR.trans hCr1
 obtain ⟨r1, bb1, kB1, u1, rfl, N1q, K1, Sb1⟩ := hQ1
 have KK2 := K0.trans K1 all0
 have Z1 := lT Z0 K1.1
 have N1 := Fr.app N0 N1q
 refine Goes.sts st1 ?_
 have f3 := (Scs.kept K1 ns0)
 have f4 := (Sd.kept K1 ns0)
 have f5 := (Sh.kept K1 ns0)
 have f6 := (Sl.kept K1 ns0)
 obtain ⟨cq7, kq7, qa7, qb7, qc7⟩ := isOf hZ rfl Sb1.1
 obtain ⟨_, _, ⟨T7, L7, k7, n7⟩, -, X7, hS7, hg7, ⟨Lc7, hQ7, l7, y7, z7, hCr7⟩, st7⟩ := X1.virtualBackS hx (y := mN37) (z := mN37) hown (mvT hZ (hw 173 rfl)) (mvT hZ (hw 174 rfl)) (notFace_of_selects (args := #[]) (mvT hZ (hw 176 rfl))) (mvT hZ (hw 176 rfl)) (mvT hZ (hw 175 rfl)) (by decide) (backOfSH (W := 0) (rmTm l hw r1 bb1 kB1 u1 (1 - st) (fun i => c_ (st + i)) cs Z1 f3 hcs f4 f5 f6 Sb1) hZ (hw 177 rfl) (hw 8 rfl) (by decide) (by decide) (hELs hw) hR.1) qa7 qc7 (g := (mkF m 45 #[rv rb, rv a, iv (iN st), iv 1, (orf o4)] [(.ref r1)])) rfl hml.symm (Steps.refl _) (argsL := []) (rest := []) (lenOf pd38 rfl) rfl (by show 2 * 0 + _ ≤ _; exact Nat.le_of_eq rfl) (D 25 rfl) (fun _ _ => ⟨rfl, rfl, (by decide : 9 + 2 ≤ 29), (by decide : 55 + 12 ≤ 190)⟩)
 dsimp only [Pt.U, Pt.locs, Pt.cells, Pt.slots] at X7 l7 y7 z7 st7 hQ7 hS7 hg7 hCr7
 subst l7 y7 z7
 obtain ⟨X7, hS, hZ, hown⟩ := rebS hS hk X7 hS7 hg7 hZ hown
 have hk := Nat.le_refl T7.heap.size
 have hR := hR.trans hCr7
 obtain ⟨s7, e7, r7, bb7, kC7, u7, rfl, N7q, K7, tb7, Sb7⟩ := hQ7
 have KK8 := KK2.trans K7 all0
 have Z7 := lT Z1 K7.1
 have N7 := Fr.app N1 N7q
 refine Goes.sts st7 ?_
 show Gt T7 m 48 #[rv rb, rv a, iv (iN st), iv 1, (orf o4)] [(.ref r7)]
 have tb_ := id tb7
 obtain ⟨t1_, t2_, -⟩ := tb_
 rcases Nat.decEq (e7 - s7) 0 with cZ | cZ
 ·refine gastore X7 hx (D 26 rfl) rfl (l' := #[rv rb, rv a, iv (iN st), iv 1, rv r7]) (by cases o4 <;> rfl) ?_
  refine aW X7 hx (D 27 rfl) ?_ rfl rfl
  refine zV X7 hx hZ hown hw 31 rfl 32 34 33 35 8 (rmEm0 l hw r7 bb7 kC7 u7 (e7 - s7) (fun i => (fun i => c_ (st + i)) (s7 + i)) Z7 Sb7 cZ) rfl Sb7.1 hml (D 28 rfl) pd7 (W := 0) (rest := []) ?_ rfl rfl rfl rfl rfl (by decide) (lq rfl) rfl rfl rfl
  rintro T9 L9 v9 X9 ⟨rfl, N9q, eh9⟩
  have N9 := Fr.app N7 N9q
  refine gifNo X9 hx (D 29 rfl) (by decide) ?_
  refine aN X9 hx (D 30 rfl) ?_ rfl rfl
  refine aW X9 hx (D 31 rfl) ?_ rfl rfl
  have f10 := ((Ea.keep K1).keep K7)
  have f11 := ((Fm.keep K1 nin0).keep K7 nin0)
  have f12 := ((Fe.keep K1 nin0).keep K7 nin0)
  have f13 := ((Fs.keep K1 nin0).keep K7 nin0)
  have f14 := ((Sde.kept K1 ns0).kept K7 ns0)
  have f15 := ((Ade.keep K1 nin0).keep K7 nin0)
  have f17 := ((Ea.keep K1).keep K7)
  refine zI X9 hx hZ hown hw 203 rfl 204 (mvT hZ (hw 205 rfl)) 206 207 208 209 210 211 99 (rmA10 l hw a dE kD mc r7 Z7 f10 ga f11 f12 f13 f14 f15 (Ne.symm (kinNe f15.kin f10 (hw 98 rfl))) Sb7.1) eh9 f17 hml (D 32 rfl) pd39 (W := 0) (rest := []) ?_ rfl rfl rfl rfl rfl rfl rfl rfl (by decide) (lq rfl) rfl rfl rfl
  rintro T16 L16 v16 X16 ⟨bE16, kE16, rfl, N16q, K16, szq16, loq16, R16_0, R16_1, R16_2, VE16, OE16, XE16⟩
  have hk := lT hk K16.1
  have hR := hR.trans (CHr.keep K16 (sfS (Safe.exa hZ.alike f10 (by decide) (by decide)) sf0) hR.1)
  have KK18 := KK8.trans K16 (allS (Or.inr sz_a) all0)
  have sz_bE16 := lT KK8.1 szq16
  have Z16 := lT Z7 K16.1
  have N16 := Fr.app N9 N16q
  show Gt T16 m 66 _ [(.int 1)]
  refine Goes.st (fun tg kg => XT.pop X16.here hx rfl (D 33 rfl) rfl rfl kg) ?_
  refine jN X16 hx (D 34 rfl) ?_ rfl
  refine giconst X16 hx (D 35 rfl) ?_
  refine giadd X16 hx (D 36 rfl) ?_
  show Gt T16 m 70 #[rv rb, rv a, iv (iN st), iv 1, rv r7] [(.int ((1 : Int32) + (1 : Int32)))]
  rw [show ((1 : Int32) + (1 : Int32)) = (2 : Int32) from by decide]
  refine gistoreN X16 hx (D 37 rfl) (l' := #[rv rb, rv a, iv 2, iv 1, rv r7]) rfl ?_
  refine giinc X16 hx (D 38 rfl) rfl (l' := #[rv rb, rv a, iv 2, iv 2, rv r7]) rfl ?_
  refine gG X16 hx (pc := 74) (pc' := 12) (D 39 rfl) ?_ (by decide) (by decide)
  show Gt T16 m 12 _ []
  have f19 := (f10.keep K16)
  have f20 := (((Bs.1.keep K1).keep K7).keep K16)
  have f21 := (((Bs.keep K1 nb0).keep K7 nb0).keep K16 (bS (ninS (exaNe f20 f19 (by decide)) nin0) (bS (ninS (kinNe (((Bs.2.2.2.1.kin.keep K1).keep K7).keep K16) f19 (hw 98 rfl)) nin0) b0)))
  have f22 := ((f3.kept K7 ns0).kept K16 (nsS (Exa.nostat f10) ns0))
  have f23 := ((f4.kept K7 ns0).kept K16 (nsS (Exa.nostat f10) ns0))
  have f24 := ((f5.kept K7 ns0).kept K16 (nsS (Exa.nostat f10) ns0))
  have f25 := ((f6.kept K7 ns0).kept K16 (nsS (Exa.nostat f10) ns0))
  have f26 := (((Sfm.kept K1 ns0).kept K7 ns0).kept K16 (nsS (Exa.nostat f10) ns0))
  have f27 := (f14.kept K16 (nsS (Exa.nostat f10) ns0))
  have f28 := (((Sem.kept K1 ns0).kept K7 ns0).kept K16 (nsS (Exa.nostat f10) ns0))
  have f29 := (((Sel.kept K1 ns0).kept K7 ns0).kept K16 (nsS (Exa.nostat f10) ns0))
  have ne30 := neL f10.lt szq16
  have f31 := (Sb7.1.keep K16)
  have f32 := (Sb7.keep K16 (bS (ninS (exaNe f31 f19 (by decide)) nin0) (bS (ninS (kinNe (Sb7.2.2.2.1.kin.keep K16) f19 (hw 98 rfl)) nin0) b0)))
  exact nH2_1 Z a0 hw hx hby hlk hret hml hnm _ _ hS hown hZ rb bb kb u n c_ cs fm dE kD eL eM mO a ((mc + (1 : Int32))) bE16 kE16 r7 bb7 kC7 u7 ((st + s7)) ((st + e7)) 2 (some r7) h0 T16.heap n0 T16 _ (X16.more (by decide : 12 ≤ 12) (by decide : 77 ≤ 77)) rfl N16 Z16 hk hR KK18 f22 hcs f23 f24 f25 f26 hfm f27 f28 f29 Mo f21 f19 ga sz_a R16_0 R16_1 R16_2 VE16 OE16 XE16 loq16 sz_bE16 ne30 (Sb.cast f32 (by omega) (fun i hi => by show c_ (st + (s7 + i)) = c_ (st + s7 + i); rw [Nat.add_assoc])) (sp_some hsp hq hst (by decide) tb7 cZ) (by omega) (by omega)
 ·refine gastore X7 hx (D 26 rfl) rfl (l' := #[rv rb, rv a, iv (iN st), iv 1, rv r7]) (by cases o4 <;> rfl) ?_
  refine aW X7 hx (D 27 rfl) ?_ rfl rfl
  refine zV X7 hx hZ hown hw 31 rfl 32 34 33 35 8 (rmEm1 l hw r7 bb7 kC7 u7 (e7 - s7) (fun i => (fun i => c_ (st + i)) (s7 + i)) Z7 Sb7 cZ) rfl Sb7.1 hml (D 28 rfl) pd7 (W := 0) (rest := []) ?_ rfl rfl rfl rfl rfl (by decide) (lq rfl) rfl rfl rfl
  rintro T33 L33 v33 X33 ⟨rfl, N33q, eh33⟩
  have N33 := Fr.app N7 N33q
  refine gT X33 hx (pc := 55) (pc' := 67) (D 29 rfl) (by decide) ?_ (by decide) (by decide)
  refine jN X33 hx (D 34 rfl) ?_ rfl
  refine giconst X33 hx (D 35 rfl) ?_
  refine giadd X33 hx (D 36 rfl) ?_
  show Gt T33 m 70 _ [(.int ((1 : Int32) + (1 : Int32)))]
  rw [show ((1 : Int32) + (1 : Int32)) = (2 : Int32) from by decide]
  refine gistoreN X33 hx (D 37 rfl) (l' := #[rv rb, rv a, iv 2, iv 1, rv r7]) rfl ?_
  refine giinc X33 hx (D 38 rfl) rfl (l' := #[rv rb, rv a, iv 2, iv 2, rv r7]) rfl ?_
  refine gG X33 hx (pc := 74) (pc' := 12) (D 39 rfl) ?_ (by decide) (by decide)
  show Gt T33 m 12 _ []
  have f34 := ((Bs.keep K1 nb0).keep K7 nb0)
  have f35 := (f3.kept K7 ns0)
  have f36 := (f4.kept K7 ns0)
  have f37 := (f5.kept K7 ns0)
  have f38 := (f6.kept K7 ns0)
  have f39 := ((Sfm.kept K1 ns0).kept K7 ns0)
  have f40 := ((Sde.kept K1 ns0).kept K7 ns0)
  have f41 := ((Ade.keep K1 nin0).keep K7 nin0)
  have f42 := ((Sem.kept K1 ns0).kept K7 ns0)
  have f43 := ((Sel.kept K1 ns0).kept K7 ns0)
  have f44 := ((Ea.keep K1).keep K7)
  have f45 := ((Fm.keep K1 nin0).keep K7 nin0)
  have f46 := ((Fe.keep K1 nin0).keep K7 nin0)
  have f47 := ((Fs.keep K1 nin0).keep K7 nin0)
  exact nH2_0 Z a0 hw hx hby hlk hret hml hnm _ _ hS hown hZ rb bb kb u n c_ cs fm dE kD eL eM mO a mc 2 (some r7) h0 T7.heap n0 T33 _ (X33.more (by decide : 11 ≤ 11) (by decide : 67 ≤ 67)) eh33 N33 Z7 hk hR KK8 f35 hcs f36 f37 f38 f39 hfm f40 f41 f42 f43 Mo f34 f44 ga sz_a f45 f46 f47 (sp_none hsp hq hst tb7 cZ) (by omega) (by omega)
theorem nH1_0 {p : Program} {l : Launch} {e : Env} {s : State} {m : MethodId} {args : Array Value} {below : List Frame} {meth : Method} {c : Code}  (Z : State) (a0 : Array Value) (hw : HW a0 Z) (hx : p.tables.exec = Jvm.exec) (hby : c.code = prog_12_method_3_code) (hlk : meth.locks = false) (hret : meth.sig.returnType = some (.object "java/util/List")) (hml : c.maxLocals = 5) (hnm : meth.name = "names") (vm0 : Vm) (kS0 : Nat) (hS : s.Since vm0 kS0) (hown : (s.setVm vm0).vm.findClass "com/example/engarce/engarce/NameList" = some m.cls) (hZ : Z.Warmed39 (s.setVm vm0).vm) (rb bb : Addr) (kb : ClassId) (u : Bool) (n : Nat) (c_ : Nat → Int32) (cs : Int32) (fm : Value) (dE : Addr) (kD : ClassId) (eL eM mO : Addr) (a : Addr) (mc : Int32) (st : Nat) (o4 : Option Addr) (h0 hh : Heap) (n0 : Nat) (T0 : State) (locs0 : List Loc) (X0 : Stand p l e (rM 9 29 190 140) (s.setVm vm0) m args below meth c T0 locs0 6 35) (e0 : T0.heap = hh) (N0 : Fr n0 locs0) (Z0 : n0 ≤ hh.size) (hk : kS0 ≤ hh.size) (hR : CHr Z ELs s.vm s.heap vm0 hh) (K0 : Keep h0 hh []) (Scs : S_0 Z hh (.int cs)) (hcs : ¬ cs = (0 : Int32)) (Sd : S_2 Z hh (.int 1)) (Sh : S_3 Z hh (.int 0)) (Sl : S_4 Z hh (.int 8)) (Sfm : S_1 Z hh fm) (hfm : fm.isRef = true) (Sde : S_5 Z hh (.ref dE)) (Ade : Arv Z hh dE kD (.object "java/lang/Object") 0 [] .null) (Sem : S_7 Z hh (.ref eM)) (Sel : S_6 Z hh (.ref eL)) (Mo : Mir Z "[Ljava/lang/Object;" mO) (Bs : Sb Z hh rb bb kb u n c_) (Ea : X_1 Z hh a) (ga : n0 ≤ a) (sz_a : h0.size ≤ a) (Fm : F_2 Z hh a (.int mc)) (Fe : F_3 Z hh a (.ref dE)) (Fs : F_4 Z hh a (.int 0)) (hsp : sp c_ n 1 = (st, [])) (h2k : 2 * 0 ≤ st) (hin : 1 ≤ n + 1) :
  Goes p e below (EH Z ELs s (QNm Z rb bb kb u n c_ cs fm dE kD eL eM mO h0 n0) (rM 9 29 190 140).cells (rM 9 29 190 140).slots) (T0.setTop (mkF m 12 #[rv rb, rv a, iv (iN st), iv 1, (orf o4)] [])) := by
 have D := @db _ _ _ hby Dp12_3
 have hn4 := Bs.2.2.2.2.1
 have hst := sp_st hsp
 show Gt T0 m 12 _ []
 rcases Nat.lt_or_ge n 1 with cX | cX
 ·refine jN X0 hx (D 8 rfl) ?_ rfl
  refine aN X0 hx (D 9 rfl) ?_ rfl rfl
  refine zV X0 hx hZ hown hw 121 rfl 122 124 123 125 8 (rmLe l hw rb bb kb u n c_ cs Z0 Scs hcs Bs) e0 Bs.1 hml (D 10 rfl) pd20 (W := 1) (rest := [(.int 1)]) ?_ rfl rfl rfl rfl rfl (by decide) (lq rfl) rfl rfl rfl
  rintro T1 L1 v1 X1 ⟨rfl, N1q, eh1⟩
  have N1 := Fr.app N0 N1q
  refine gY X1 hx (pc := 17) (pc' := 77) (D 11 rfl) (tlt (ylN n 1 (by omega) (by omega) (by omega))).2.2.1 ?_ (by decide) (by decide)
  show Gt T1 m 77 _ []
  exact nX0 Z a0 hw hx hby hlk hret hml hnm _ _ hS hown hZ rb bb kb u n c_ cs fm dE kD eL eM mO a mc st (1 : Int32) o4 h0 hh n0 T1 _ (X1.more (by decide : 6 ≤ 26) (by decide : 35 ≤ 163)) eh1 N1 Z0 hk hR K0 Scs hcs Sd Sh Sl Sfm hfm Sde Ade Sem Sel Mo Bs Ea ga sz_a Fm Fe Fs (by rw [show n + 1 = 1 by omega]; exact hsp)
 ·rcases Nat.decEq 1 n with cI | cI
  ·refine jN X0 hx (D 8 rfl) ?_ rfl
   refine aN X0 hx (D 9 rfl) ?_ rfl rfl
   refine zV X0 hx hZ hown hw 121 rfl 122 124 123 125 8 (rmLe l hw rb bb kb u n c_ cs Z0 Scs hcs Bs) e0 Bs.1 hml (D 10 rfl) pd20 (W := 1) (rest := [(.int 1)]) ?_ rfl rfl rfl rfl rfl (by decide) (lq rfl) rfl rfl rfl
   rintro T2 L2 v2 X2 ⟨rfl, N2q, eh2⟩
   have N2 := Fr.app N0 N2q
   refine gicmpNo X2 hx (D 11 rfl) (flt (nlN n 1 (by omega) (by omega) (by omega))).2.2.1 ?_
   refine jN X2 hx (D 12 rfl) ?_ rfl
   refine aN X2 hx (D 13 rfl) ?_ rfl rfl
   refine zV X2 hx hZ hown hw 121 rfl 122 124 123 125 8 (rmLe l hw rb bb kb u n c_ cs Z0 Scs hcs Bs) eh2 Bs.1 hml (D 14 rfl) pd20 (W := 1) (rest := [(.int 1)]) ?_ rfl rfl rfl rfl rfl (by decide) (lq rfl) rfl rfl rfl
   rintro T3 L3 v3 X3 ⟨rfl, N3q, eh3⟩
   have N3 := Fr.app N2 N3q
   refine gicmpNo X3 hx (D 15 rfl) (feq (neN 1 n (by omega) (by omega) (by omega))).1 ?_
   refine aN X3 hx (D 16 rfl) ?_ rfl rfl
   show Gt T3 m 29 _ [(.ref rb)]
   refine jN X3 hx (D 17 rfl) ?_ rfl
   refine zV X3 hx hZ hown hw 131 rfl 132 134 133 135 8 (rmCa l hw rb bb kb u n c_ 1 cs fm Z0 Scs hcs Sd Sh Sl Sfm hfm Bs (by omega)) eh3 Bs.1 hml (D 18 rfl) pd40 (W := 0) (rest := []) ?_ rfl rfl rfl rfl rfl (by decide) (lq rfl) rfl rfl rfl
   rintro T4 L4 v4 X4 ⟨rfl, N4q, eh4⟩
   have N4 := Fr.app N3 N4q
   show Gt T4 m 33 _ [(.int (c_ 1))]
   rcases (Bool.eq_false_or_eq_true (sp? (c_ 1))) with cS | cS
   ·refine zS X4 hx hZ hown hw 158 159 160 29 (rmIs1 l hw (c_ 1) Z0 cS) eh4 hml (D 19 rfl) pd41 (W := 0) (rest := []) ?_ rfl rfl rfl rfl (by decide) (lq rfl) rfl rfl rfl
    rintro T5 L5 v5 X5 ⟨rfl, N5q, eh5⟩
    have N5 := Fr.app N4 N5q
    refine gifNo X5 hx (D 20 rfl) (by decide) ?_
    show Gt T5 m 39 _ []
    exact nR1_0 Z a0 hw hx hby hlk hret hml hnm _ _ hS hown hZ rb bb kb u n c_ cs fm dE kD eL eM mO a mc st o4 h0 hh n0 T5 _ X5 eh5 N5 Z0 hk hR K0 Scs hcs Sd Sh Sl Sfm hfm Sde Ade Sem Sel Mo Bs Ea ga sz_a Fm Fe Fs hsp h2k (by omega) (Or.inr cS)
   ·refine zS X4 hx hZ hown hw 158 159 160 29 (rmIs0 l hw (c_ 1) Z0 cS) eh4 hml (D 19 rfl) pd41 (W := 0) (rest := []) ?_ rfl rfl rfl rfl (by decide) (lq rfl) rfl rfl rfl
    rintro T6 L6 v6 X6 ⟨rfl, N6q, eh6⟩
    have N6 := Fr.app N4 N6q
    refine gT X6 hx (pc := 36) (pc' := 71) (D 20 rfl) (by decide) ?_ (by decide) (by decide)
    refine giinc X6 hx (D 38 rfl) rfl (l' := #[rv rb, rv a, iv (iN st), iv 2, (orf o4)]) rfl ?_
    refine gG X6 hx (pc := 74) (pc' := 12) (D 39 rfl) ?_ (by decide) (by decide)
    show Gt T6 m 12 _ []
    exact nH2_0 Z a0 hw hx hby hlk hret hml hnm _ _ hS hown hZ rb bb kb u n c_ cs fm dE kD eL eM mO a mc st o4 h0 hh n0 T6 _ (X6.more (by decide : 6 ≤ 11) (by decide : 35 ≤ 67)) eh6 N6 Z0 hk hR K0 Scs hcs Sd Sh Sl Sfm hfm Sde Ade Sem Sel Mo Bs Ea ga sz_a Fm Fe Fs (sp_skip hsp (by omega) cS) h2k (by omega)
  ·refine jN X0 hx (D 8 rfl) ?_ rfl
   refine aN X0 hx (D 9 rfl) ?_ rfl rfl
   refine zV X0 hx hZ hown hw 121 rfl 122 124 123 125 8 (rmLe l hw rb bb kb u n c_ cs Z0 Scs hcs Bs) e0 Bs.1 hml (D 10 rfl) pd20 (W := 1) (rest := [(.int 1)]) ?_ rfl rfl rfl rfl rfl (by decide) (lq rfl) rfl rfl rfl
   rintro T7 L7 v7 X7 ⟨rfl, N7q, eh7⟩
   have N7 := Fr.app N0 N7q
   refine gicmpNo X7 hx (D 11 rfl) (flt (nlN n 1 (by omega) (by omega) (by omega))).2.2.1 ?_
   refine jN X7 hx (D 12 rfl) ?_ rfl
   refine aN X7 hx (D 13 rfl) ?_ rfl rfl
   refine zV X7 hx hZ hown hw 121 rfl 122 124 123 125 8 (rmLe l hw rb bb kb u n c_ cs Z0 Scs hcs Bs) eh7 Bs.1 hml (D 14 rfl) pd20 (W := 1) (rest := [(.int 1)]) ?_ rfl rfl rfl rfl rfl (by decide) (lq rfl) rfl rfl rfl
   rintro T8 L8 v8 X8 ⟨rfl, N8q, eh8⟩
   have N8 := Fr.app N7 N8q
   refine gY X8 hx (pc := 25) (pc' := 39) (D 15 rfl) (teq (yeN 1 n (by omega) (by omega) (by omega))).1 ?_ (by decide) (by decide)
   show Gt T8 m 39 _ []
   exact nR1_0 Z a0 hw hx hby hlk hret hml hnm _ _ hS hown hZ rb bb kb u n c_ cs fm dE kD eL eM mO a mc st o4 h0 hh n0 T8 _ X8 eh8 N8 Z0 hk hR K0 Scs hcs Sd Sh Sl Sfm hfm Sde Ade Sem Sel Mo Bs Ea ga sz_a Fm Fe Fs hsp h2k (by omega) (Or.inl cI)
theorem nR0_0 {p : Program} {l : Launch} {e : Env} {s : State} {m : MethodId} {args : Array Value} {below : List Frame} {meth : Method} {c : Code}  (Z : State) (a0 : Array Value) (hw : HW a0 Z) (hx : p.tables.exec = Jvm.exec) (hby : c.code = prog_12_method_3_code) (hlk : meth.locks = false) (hret : meth.sig.returnType = some (.object "java/util/List")) (hml : c.maxLocals = 5) (hnm : meth.name = "names") (vm0 : Vm) (kS0 : Nat) (hS : s.Since vm0 kS0) (hown : (s.setVm vm0).vm.findClass "com/example/engarce/engarce/NameList" = some m.cls) (hZ : Z.Warmed39 (s.setVm vm0).vm) (rb bb : Addr) (kb : ClassId) (u : Bool) (n : Nat) (c_ : Nat → Int32) (cs : Int32) (fm : Value) (dE : Addr) (kD : ClassId) (eL eM mO : Addr) (a : Addr) (mc : Int32) (st : Nat) (o4 : Option Addr) (h0 hh : Heap) (n0 : Nat) (T0 : State) (locs0 : List Loc) (X0 : Stand p l e (rM 9 29 190 140) (s.setVm vm0) m args below meth c T0 locs0 1 3) (e0 : T0.heap = hh) (N0 : Fr n0 locs0) (Z0 : n0 ≤ hh.size) (hk : kS0 ≤ hh.size) (hR : CHr Z ELs s.vm s.heap vm0 hh) (K0 : Keep h0 hh []) (Scs : S_0 Z hh (.int cs)) (hcs : ¬ cs = (0 : Int32)) (Sd : S_2 Z hh (.int 1)) (Sh : S_3 Z hh (.int 0)) (Sl : S_4 Z hh (.int 8)) (Sfm : S_1 Z hh fm) (hfm : fm.isRef = true) (Sde : S_5 Z hh (.ref dE)) (Ade : Arv Z hh dE kD (.object "java/lang/Object") 0 [] .null) (Sem : S_7 Z hh (.ref eM)) (Sel : S_6 Z hh (.ref eL)) (Mo : Mir Z "[Ljava/lang/Object;" mO) (Bs : Sb Z hh rb bb kb u n c_) (Ea : X_1 Z hh a) (ga : n0 ≤ a) (sz_a : h0.size ≤ a) (Fm : F_2 Z hh a (.int mc)) (Fe : F_3 Z hh a (.ref dE)) (Fs : F_4 Z hh a (.int 0)) (hsp : sp c_ n 0 = (st, [])) (h2k : 2 * 0 ≤ st) (hin : 0 ≤ n) (hq : 0 = n ∨ sp? (c_ 0) = true) :
  Goes p e below (EH Z ELs s (QNm Z rb bb kb u n c_ cs fm dE kD eL eM mO h0 n0) (rM 9 29 190 140).cells (rM 9 29 190 140).slots) (T0.setTop (mkF m 39 #[rv rb, rv a, iv (iN st), iv 0, (orf o4)] [])) := by
 have D := @db _ _ _ hby Dp12_3
 have hn4 := Bs.2.2.2.2.1
 have hst := sp_st hsp
 show Gt T0 m 39 _ []
 refine aN X0 hx (D 21 rfl) ?_ rfl rfl
 refine jN X0 hx (D 22 rfl) ?_ rfl
 refine jN X0 hx (D 23 rfl) ?_ rfl
 obtain ⟨cq1, kq1, qa1, qb1, qc1⟩ := isOf hZ e0 Bs.1
 obtain ⟨_, _, ⟨T1, L1, k1, n1⟩, -, X1, hS1, hg1, ⟨Lc1, hQ1, l1, y1, z1, hCr1⟩, st1⟩ := X0.virtualBackS hx (y := mN34) (z := mN34) hown (mvT hZ (hw 161 rfl)) (mvT hZ (hw 162 rfl)) (notFace_of_selects (args := #[]) (mvT hZ (hw 164 rfl))) (mvT hZ (hw 164 rfl)) (mvT hZ (hw 163 rfl)) (by decide) (backOfSH (W := 0) (rmSu l hw rb bb kb u n c_ st 0 cs fm Z0 Scs hcs Sd Sh Sl Sfm hfm Bs (by omega) (by omega)) hZ (hw 165 rfl) (hw 8 rfl) (by decide) (by decide) (hELs hw) hR.1) qa1 qc1 (g := (mkF m 42 #[rv rb, rv a, iv (iN st), iv 0, (orf o4)] [(.int 0), (.int (iN st)), (.ref rb)])) rfl hml.symm (Steps.refl _) (argsL := [(.int (iN st)), (.int 0)]) (rest := []) (lenOf pd37 rfl) rfl (by show 2 * 0 + _ ≤ _; exact Nat.le_of_eq rfl) (D 24 rfl) (fun _ _ => ⟨rfl, e0, (by decide : 1 + 3 ≤ 29), (by decide : 3 + 20 ≤ 190)⟩)
 dsimp only [Pt.U, Pt.locs, Pt.cells, Pt.slots] at X1 l1 y1 z1 st1 hQ1 hS1 hg1 hCr1
 subst l1 y1 z1
 obtain ⟨X1, hS, hZ, hown⟩ := rebS hS (by rw [e0]; exact hk) X1 hS1 hg1 hZ hown
 have hk := Nat.le_refl T1.heap.size
 have hR := hR.trans hCr1
 obtain ⟨r1, bb1, kB1, u1, rfl, N1q, K1, Sb1⟩ := hQ1
 have KK2 := K0.trans K1 all0
 have Z1 := lT Z0 K1.1
 have N1 := Fr.app N0 N1q
 refine Goes.sts st1 ?_
 have f3 := (Scs.kept K1 ns0)
 have f4 := (Sd.kept K1 ns0)
 have f5 := (Sh.kept K1 ns0)
 have f6 := (Sl.kept K1 ns0)
 obtain ⟨cq7, kq7, qa7, qb7, qc7⟩ := isOf hZ rfl Sb1.1
 obtain ⟨_, _, ⟨T7, L7, k7, n7⟩, -, X7, hS7, hg7, ⟨Lc7, hQ7, l7, y7, z7, hCr7⟩, st7⟩ := X1.virtualBackS hx (y := mN37) (z := mN37) hown (mvT hZ (hw 173 rfl)) (mvT hZ (hw 174 rfl)) (notFace_of_selects (args := #[]) (mvT hZ (hw 176 rfl))) (mvT hZ (hw 176 rfl)) (mvT hZ (hw 175 rfl)) (by decide) (backOfSH (W := 0) (rmTm l hw r1 bb1 kB1 u1 (0 - st) (fun i => c_ (st + i)) cs Z1 f3 hcs f4 f5 f6 Sb1) hZ (hw 177 rfl) (hw 8 rfl) (by decide) (by decide) (hELs hw) hR.1) qa7 qc7 (g := (mkF m 45 #[rv rb, rv a, iv (iN st), iv 0, (orf o4)] [(.ref r1)])) rfl hml.symm (Steps.refl _) (argsL := []) (rest := []) (lenOf pd38 rfl) rfl (by show 2 * 0 + _ ≤ _; exact Nat.le_of_eq rfl) (D 25 rfl) (fun _ _ => ⟨rfl, rfl, (by decide : 4 + 2 ≤ 29), (by decide : 23 + 12 ≤ 190)⟩)
 dsimp only [Pt.U, Pt.locs, Pt.cells, Pt.slots] at X7 l7 y7 z7 st7 hQ7 hS7 hg7 hCr7
 subst l7 y7 z7
 obtain ⟨X7, hS, hZ, hown⟩ := rebS hS hk X7 hS7 hg7 hZ hown
 have hk := Nat.le_refl T7.heap.size
 have hR := hR.trans hCr7
 obtain ⟨s7, e7, r7, bb7, kC7, u7, rfl, N7q, K7, tb7, Sb7⟩ := hQ7
 have KK8 := KK2.trans K7 all0
 have Z7 := lT Z1 K7.1
 have N7 := Fr.app N1 N7q
 refine Goes.sts st7 ?_
 show Gt T7 m 48 #[rv rb, rv a, iv (iN st), iv 0, (orf o4)] [(.ref r7)]
 have tb_ := id tb7
 obtain ⟨t1_, t2_, -⟩ := tb_
 rcases Nat.decEq (e7 - s7) 0 with cZ | cZ
 ·omega
 ·refine gastore X7 hx (D 26 rfl) rfl (l' := #[rv rb, rv a, iv (iN st), iv 0, rv r7]) (by cases o4 <;> rfl) ?_
  refine aW X7 hx (D 27 rfl) ?_ rfl rfl
  refine zV X7 hx hZ hown hw 31 rfl 32 34 33 35 8 (rmEm1 l hw r7 bb7 kC7 u7 (e7 - s7) (fun i => (fun i => c_ (st + i)) (s7 + i)) Z7 Sb7 cZ) rfl Sb7.1 hml (D 28 rfl) pd7 (W := 0) (rest := []) ?_ rfl rfl rfl rfl rfl (by decide) (lq rfl) rfl rfl rfl
  rintro T9 L9 v9 X9 ⟨rfl, N9q, eh9⟩
  have N9 := Fr.app N7 N9q
  refine gT X9 hx (pc := 55) (pc' := 67) (D 29 rfl) (by decide) ?_ (by decide) (by decide)
  refine jN X9 hx (D 34 rfl) ?_ rfl
  refine giconst X9 hx (D 35 rfl) ?_
  refine giadd X9 hx (D 36 rfl) ?_
  show Gt T9 m 70 _ [(.int ((0 : Int32) + (1 : Int32)))]
  rw [show ((0 : Int32) + (1 : Int32)) = (1 : Int32) from by decide]
  refine gistoreN X9 hx (D 37 rfl) (l' := #[rv rb, rv a, iv 1, iv 0, rv r7]) rfl ?_
  refine giinc X9 hx (D 38 rfl) rfl (l' := #[rv rb, rv a, iv 1, iv 1, rv r7]) rfl ?_
  refine gG X9 hx (pc := 74) (pc' := 12) (D 39 rfl) ?_ (by decide) (by decide)
  show Gt T9 m 12 _ []
  have f10 := ((Bs.keep K1 nb0).keep K7 nb0)
  have f11 := (f3.kept K7 ns0)
  have f12 := (f4.kept K7 ns0)
  have f13 := (f5.kept K7 ns0)
  have f14 := (f6.kept K7 ns0)
  have f15 := ((Sfm.kept K1 ns0).kept K7 ns0)
  have f16 := ((Sde.kept K1 ns0).kept K7 ns0)
  have f17 := ((Ade.keep K1 nin0).keep K7 nin0)
  have f18 := ((Sem.kept K1 ns0).kept K7 ns0)
  have f19 := ((Sel.kept K1 ns0).kept K7 ns0)
  have f20 := ((Ea.keep K1).keep K7)
  have f21 := ((Fm.keep K1 nin0).keep K7 nin0)
  have f22 := ((Fe.keep K1 nin0).keep K7 nin0)
  have f23 := ((Fs.keep K1 nin0).keep K7 nin0)
  exact nH1_0 Z a0 hw hx hby hlk hret hml hnm _ _ hS hown hZ rb bb kb u n c_ cs fm dE kD eL eM mO a mc 1 (some r7) h0 T7.heap n0 T9 _ (X9.more (by decide : 6 ≤ 6) (by decide : 35 ≤ 35)) eh9 N9 Z7 hk hR KK8 f11 hcs f12 f13 f14 f15 hfm f16 f17 f18 f19 Mo f10 f20 ga sz_a f21 f22 f23 (sp_none hsp hq hst tb7 cZ) (by omega) (by omega)
theorem nH0_0 {p : Program} {l : Launch} {e : Env} {s : State} {m : MethodId} {args : Array Value} {below : List Frame} {meth : Method} {c : Code}  (Z : State) (a0 : Array Value) (hw : HW a0 Z) (hx : p.tables.exec = Jvm.exec) (hby : c.code = prog_12_method_3_code) (hlk : meth.locks = false) (hret : meth.sig.returnType = some (.object "java/util/List")) (hml : c.maxLocals = 5) (hnm : meth.name = "names") (vm0 : Vm) (kS0 : Nat) (hS : s.Since vm0 kS0) (hown : (s.setVm vm0).vm.findClass "com/example/engarce/engarce/NameList" = some m.cls) (hZ : Z.Warmed39 (s.setVm vm0).vm) (rb bb : Addr) (kb : ClassId) (u : Bool) (n : Nat) (c_ : Nat → Int32) (cs : Int32) (fm : Value) (dE : Addr) (kD : ClassId) (eL eM mO : Addr) (a : Addr) (mc : Int32) (st : Nat) (o4 : Option Addr) (h0 hh : Heap) (n0 : Nat) (T0 : State) (locs0 : List Loc) (X0 : Stand p l e (rM 9 29 190 140) (s.setVm vm0) m args below meth c T0 locs0 1 3) (e0 : T0.heap = hh) (N0 : Fr n0 locs0) (Z0 : n0 ≤ hh.size) (hk : kS0 ≤ hh.size) (hR : CHr Z ELs s.vm s.heap vm0 hh) (K0 : Keep h0 hh []) (Scs : S_0 Z hh (.int cs)) (hcs : ¬ cs = (0 : Int32)) (Sd : S_2 Z hh (.int 1)) (Sh : S_3 Z hh (.int 0)) (Sl : S_4 Z hh (.int 8)) (Sfm : S_1 Z hh fm) (hfm : fm.isRef = true) (Sde : S_5 Z hh (.ref dE)) (Ade : Arv Z hh dE kD (.object "java/lang/Object") 0 [] .null) (Sem : S_7 Z hh (.ref eM)) (Sel : S_6 Z hh (.ref eL)) (Mo : Mir Z "[Ljava/lang/Object;" mO) (Bs : Sb Z hh rb bb kb u n c_) (Ea : X_1 Z hh a) (ga : n0 ≤ a) (sz_a : h0.size ≤ a) (Fm : F_2 Z hh a (.int mc)) (Fe : F_3 Z hh a (.ref dE)) (Fs : F_4 Z hh a (.int 0)) (hsp : sp c_ n 0 = (st, [])) (h2k : 2 * 0 ≤ st) (hin : 0 ≤ n + 1) :
  Goes p e below (EH Z ELs s (QNm Z rb bb kb u n c_ cs fm dE kD eL eM mO h0 n0) (rM 9 29 190 140).cells (rM 9 29 190 140).slots) (T0.setTop (mkF m 12 #[rv rb, rv a, iv (iN st), iv 0, (orf o4)] [])) := by
 have D := @db _ _ _ hby Dp12_3
 have hn4 := Bs.2.2.2.2.1
 have hst := sp_st hsp
 show Gt T0 m 12 _ []
 rcases Nat.lt_or_ge n 0 with cX | cX
 ·omega
 ·rcases Nat.decEq 0 n with cI | cI
  ·refine jN X0 hx (D 8 rfl) ?_ rfl
   refine aN X0 hx (D 9 rfl) ?_ rfl rfl
   refine zV X0 hx hZ hown hw 121 rfl 122 124 123 125 8 (rmLe l hw rb bb kb u n c_ cs Z0 Scs hcs Bs) e0 Bs.1 hml (D 10 rfl) pd20 (W := 1) (rest := [(.int 0)]) ?_ rfl rfl rfl rfl rfl (by decide) (lq rfl) rfl rfl rfl
   rintro T1 L1 v1 X1 ⟨rfl, N1q, eh1⟩
   have N1 := Fr.app N0 N1q
   refine gicmpNo X1 hx (D 11 rfl) (flt (nlN n 0 (by omega) (by omega) (by omega))).2.2.1 ?_
   refine jN X1 hx (D 12 rfl) ?_ rfl
   refine aN X1 hx (D 13 rfl) ?_ rfl rfl
   refine zV X1 hx hZ hown hw 121 rfl 122 124 123 125 8 (rmLe l hw rb bb kb u n c_ cs Z0 Scs hcs Bs) eh1 Bs.1 hml (D 14 rfl) pd20 (W := 1) (rest := [(.int 0)]) ?_ rfl rfl rfl rfl rfl (by decide) (lq rfl) rfl rfl rfl
   rintro T2 L2 v2 X2 ⟨rfl, N2q, eh2⟩
   have N2 := Fr.app N1 N2q
   refine gicmpNo X2 hx (D 15 rfl) (feq (neN 0 n (by omega) (by omega) (by omega))).1 ?_
   refine aN X2 hx (D 16 rfl) ?_ rfl rfl
   show Gt T2 m 29 _ [(.ref rb)]
   refine jN X2 hx (D 17 rfl) ?_ rfl
   refine zV X2 hx hZ hown hw 131 rfl 132 134 133 135 8 (rmCa l hw rb bb kb u n c_ 0 cs fm Z0 Scs hcs Sd Sh Sl Sfm hfm Bs (by omega)) eh2 Bs.1 hml (D 18 rfl) pd40 (W := 0) (rest := []) ?_ rfl rfl rfl rfl rfl (by decide) (lq rfl) rfl rfl rfl
   rintro T3 L3 v3 X3 ⟨rfl, N3q, eh3⟩
   have N3 := Fr.app N2 N3q
   show Gt T3 m 33 _ [(.int (c_ 0))]
   rcases (Bool.eq_false_or_eq_true (sp? (c_ 0))) with cS | cS
   ·refine zS X3 hx hZ hown hw 158 159 160 29 (rmIs1 l hw (c_ 0) Z0 cS) eh3 hml (D 19 rfl) pd41 (W := 0) (rest := []) ?_ rfl rfl rfl rfl (by decide) (lq rfl) rfl rfl rfl
    rintro T4 L4 v4 X4 ⟨rfl, N4q, eh4⟩
    have N4 := Fr.app N3 N4q
    refine gifNo X4 hx (D 20 rfl) (by decide) ?_
    show Gt T4 m 39 _ []
    exact nR0_0 Z a0 hw hx hby hlk hret hml hnm _ _ hS hown hZ rb bb kb u n c_ cs fm dE kD eL eM mO a mc st o4 h0 hh n0 T4 _ X4 eh4 N4 Z0 hk hR K0 Scs hcs Sd Sh Sl Sfm hfm Sde Ade Sem Sel Mo Bs Ea ga sz_a Fm Fe Fs hsp h2k (by omega) (Or.inr cS)
   ·refine zS X3 hx hZ hown hw 158 159 160 29 (rmIs0 l hw (c_ 0) Z0 cS) eh3 hml (D 19 rfl) pd41 (W := 0) (rest := []) ?_ rfl rfl rfl rfl (by decide) (lq rfl) rfl rfl rfl
    rintro T5 L5 v5 X5 ⟨rfl, N5q, eh5⟩
    have N5 := Fr.app N3 N5q
    refine gT X5 hx (pc := 36) (pc' := 71) (D 20 rfl) (by decide) ?_ (by decide) (by decide)
    refine giinc X5 hx (D 38 rfl) rfl (l' := #[rv rb, rv a, iv (iN st), iv 1, (orf o4)]) rfl ?_
    refine gG X5 hx (pc := 74) (pc' := 12) (D 39 rfl) ?_ (by decide) (by decide)
    show Gt T5 m 12 _ []
    exact nH1_0 Z a0 hw hx hby hlk hret hml hnm _ _ hS hown hZ rb bb kb u n c_ cs fm dE kD eL eM mO a mc st o4 h0 hh n0 T5 _ (X5.more (by decide : 1 ≤ 6) (by decide : 3 ≤ 35)) eh5 N5 Z0 hk hR K0 Scs hcs Sd Sh Sl Sfm hfm Sde Ade Sem Sel Mo Bs Ea ga sz_a Fm Fe Fs (sp_skip hsp (by omega) cS) h2k (by omega)
  ·refine jN X0 hx (D 8 rfl) ?_ rfl
   refine aN X0 hx (D 9 rfl) ?_ rfl rfl
   refine zV X0 hx hZ hown hw 121 rfl 122 124 123 125 8 (rmLe l hw rb bb kb u n c_ cs Z0 Scs hcs Bs) e0 Bs.1 hml (D 10 rfl) pd20 (W := 1) (rest := [(.int 0)]) ?_ rfl rfl rfl rfl rfl (by decide) (lq rfl) rfl rfl rfl
   rintro T6 L6 v6 X6 ⟨rfl, N6q, eh6⟩
   have N6 := Fr.app N0 N6q
   refine gicmpNo X6 hx (D 11 rfl) (flt (nlN n 0 (by omega) (by omega) (by omega))).2.2.1 ?_
   refine jN X6 hx (D 12 rfl) ?_ rfl
   refine aN X6 hx (D 13 rfl) ?_ rfl rfl
   refine zV X6 hx hZ hown hw 121 rfl 122 124 123 125 8 (rmLe l hw rb bb kb u n c_ cs Z0 Scs hcs Bs) eh6 Bs.1 hml (D 14 rfl) pd20 (W := 1) (rest := [(.int 0)]) ?_ rfl rfl rfl rfl rfl (by decide) (lq rfl) rfl rfl rfl
   rintro T7 L7 v7 X7 ⟨rfl, N7q, eh7⟩
   have N7 := Fr.app N6 N7q
   refine gY X7 hx (pc := 25) (pc' := 39) (D 15 rfl) (teq (yeN 0 n (by omega) (by omega) (by omega))).1 ?_ (by decide) (by decide)
   show Gt T7 m 39 _ []
   exact nR0_0 Z a0 hw hx hby hlk hret hml hnm _ _ hS hown hZ rb bb kb u n c_ cs fm dE kD eL eM mO a mc st o4 h0 hh n0 T7 _ X7 eh7 N7 Z0 hk hR K0 Scs hcs Sd Sh Sl Sfm hfm Sde Ade Sem Sel Mo Bs Ea ga sz_a Fm Fe Fs hsp h2k (by omega) (Or.inl cI)
theorem rmNm (hw : HW a0 Z) (rb bb : Addr) (kb : ClassId) (u : Bool) (n : Nat) (c_ : Nat → Int32) (cs : Int32) (fm : Value) (dE : Addr) (kD : ClassId) (eL eM mO : Addr) (Z0 : n0 ≤ h0.size) (Scs : S_0 Z h0 (.int cs)) (hcs : ¬ cs = (0 : Int32)) (Sd : S_2 Z h0 (.int 1)) (Sh : S_3 Z h0 (.int 0)) (Sl : S_4 Z h0 (.int 8)) (Sfm : S_1 Z h0 fm) (hfm : fm.isRef = true) (Sde : S_5 Z h0 (.ref dE)) (Ade : Arv Z h0 dE kD (.object "java/lang/Object") 0 [] .null) (Sem : S_7 Z h0 (.ref eM)) (Sel : S_6 Z h0 (.ref eL)) (Mo : Mir Z "[Ljava/lang/Object;" mO) (Bs : Sb Z h0 rb bb kb u n c_) :
  QMh l Z ELs mN61 prog_12_method_3_code 5 (some (.object "java/util/List")) ws (rM 9 29 190 140) #[(.ref rb)] h0 (QNm Z rb bb kb u n c_ cs fm dE kD eL eM mO h0 n0) := by
 refine bodyH (pfn pn14) (Ls := #[rv rb, .unset, .unset, .unset, .unset]) (fun _ => rfl) ?_
 intro p e s m below meth c s₁ hx hby hlk hret hml hown hnm hZ hh hR X0 e0 hS
 have hk : 0 ≤ h0.size := Nat.zero_le _
 have D := @db _ _ _ hby Dp12_3
 have K0 : Keep h0 h0 [] := Keep.refl _ _
 have hn4 := Bs.2.2.2.2.1
 show Gt s₁ m 0 _ []
 obtain ⟨T1, h1, X1, e1, E1, A1, D1, -, st1⟩ := newO X0 hx hZ hown (hw 97 rfl) (hw 98 rfl) (hw 99 rfl) e0 (g := (mkF m 0 #[rv rb, .unset, .unset, .unset, .unset] [])) rfl (D 0 rfl) (by decide) (by decide)
 obtain ⟨b1, g1⟩ : ∃ z, z = h0.size := ⟨_, rfl⟩
 rw [← g1] at A1 D1 st1
 have lo_b1 := loB Z0 g1
 have sz_b1 := loB K0.1 g1
 refine Goes.st st1 ?_
 have hk := lT hk E1.1
 have hR := hR.trans (CHr.ext E1 hR.1)
 have KK2 := K0.ext E1
 have Z1 := lT Z0 E1.1
 have F1_modCount : F_2 Z h1 b1 (.int 0) := D1 (Or.inl (hw 117 rfl)) (ty := .int) (by decide)
 have F1_elementData : F_3 Z h1 b1 .null := D1 (Or.inl (hw 120 rfl)) (ty := (.array (.object "java/lang/Object"))) (by decide)
 have F1_size : F_4 Z h1 b1 (.int 0) := D1 (Or.inl (hw 215 rfl)) (ty := .int) (by decide)
 refine gdup X1 hx (D 1 rfl) rfl ?_
 have f3 := (Sde.ext E1)
 refine zC X1 hx hZ hown hw 100 101 102 99 (rmAi l hw b1 dE Z1 A1 lo_b1 F1_modCount F1_elementData F1_size f3) e1 hml (D 2 rfl) pd25 (W := 1) (rest := [(.ref b1)]) ?_ rfl rfl rfl rfl (by decide) (lq rfl) rfl rfl rfl
 rintro T4 L4 v4 X4 ⟨rfl, N4q, K4, R4_0, R4_1, R4_2⟩
 have hk := lT hk K4.1
 have hR := hR.trans (CHr.keep K4 (sfS (Safe.exa hZ.alike A1 (by decide) (by decide)) sf0) hR.1)
 have KK5 := KK2.trans K4 (allS (Or.inr sz_b1) all0)
 have Z4 := lT Z1 K4.1
 have N4 := Fr.app (Fr.nil n0) N4q
 refine gastoreN X4 hx (D 3 rfl) rfl (l' := #[rv rb, rv b1, .unset, .unset, .unset]) rfl ?_
 refine giconst X4 hx (D 4 rfl) ?_
 refine gistoreN X4 hx (D 5 rfl) (l' := #[rv rb, rv b1, iv 0, .unset, .unset]) rfl ?_
 refine giconst X4 hx (D 6 rfl) ?_
 refine gistoreN X4 hx (D 7 rfl) (l' := #[rv rb, rv b1, iv 0, iv 0, .unset]) rfl ?_
 show Gt T4 m 12 _ []
 have f6 := (Bs.keep KK5 (bS nin0 (bS nin0 b0)))
 have f7 := ((Scs.ext E1).kept K4 (nsS (Exa.nostat A1) ns0))
 have f8 := ((Sd.ext E1).kept K4 (nsS (Exa.nostat A1) ns0))
 have f9 := ((Sh.ext E1).kept K4 (nsS (Exa.nostat A1) ns0))
 have f10 := ((Sl.ext E1).kept K4 (nsS (Exa.nostat A1) ns0))
 have f11 := ((Sfm.ext E1).kept K4 (nsS (Exa.nostat A1) ns0))
 have f12 := (f3.kept K4 (nsS (Exa.nostat A1) ns0))
 have f13 := (Ade.keep KK5 nin0)
 have f14 := ((Sem.ext E1).kept K4 (nsS (Exa.nostat A1) ns0))
 have f15 := ((Sel.ext E1).kept K4 (nsS (Exa.nostat A1) ns0))
 have f16 := (A1.keep K4)
 exact nH0_0 Z a0 hw hx hby hlk hret hml hnm _ _ hS hown hZ rb bb kb u n c_ cs fm dE kD eL eM mO b1 ((0 : Int32)) 0 none h0 T4.heap n0 T4 _ X4 rfl N4 Z4 hk (by rw [hh]; exact hR) KK5 f7 hcs f8 f9 f10 f11 hfm f12 f13 f14 f15 Mo f6 f16 lo_b1 sz_b1 R4_0 R4_1 R4_2 (by rfl) (by decide) (by omega)
theorem sp_zero {Z : State} {h : Heap} {eL eM : Addr} (c : Nat → Int32) : Res Z h c eL eM eL (sp c 0 (0 + 1)).2 := by
 have e : sp c 0 (0 + 1) = (1, []) := by
  rw [sp, if_pos (Or.inl rfl)]
  show (1, if fk c 0 0 < lk c (fk c 0 0) 0 then _ else ([] : List (Nat × Nat))) = _
  rw [fk_blank (fun j q r => absurd r (by omega))]
  unfold lk; rw [if_pos (Nat.le_refl _), if_neg (by omega)]
 rw [e]; exact rfl
theorem Dp12_2 : ∀ q ∈ ([(0, .aload_n 0, 1), (1, .invokevirtual 7, 3), (4, .ifCond .eq 9, 3), (7, .invokestatic 13, 3), (10, .goto 7, 3), (13, .aload_n 0, 1), (14, .invokestatic 19, 3), (17, .areturn, 1)] : List (Nat × Instr × Nat)), decode prog_12_method_2_code q.1 = .ok (q.2.1, q.2.2) := by decide +kernel
theorem pd42 : parseMethodDescriptor "(Ljava/lang/String;)Ljava/util/List;" = some ⟨[(.object "java/lang/String")], some (.object "java/util/List")⟩ := by decide +kernel
def QSp (Z : State) (rb bb : Addr) (kb : ClassId) (u : Bool) (n : Nat) (c_ : Nat → Int32) (cs : Int32) (fm : Value) (dE : Addr) (kD : ClassId) (eL eM mO : Addr) (h0 : Heap) (n0 : Nat) (v : Option Value) (h : Heap) (L : List Loc) : Prop := ∃ (r : Addr), v = some (.ref r) ∧ Fr n0 L ∧ Keep h0 h [] ∧ Res Z h c_ eL eM r (sp c_ n (n + 1)).2
theorem rmSp (hw : HW a0 Z) (rb bb : Addr) (kb : ClassId) (u : Bool) (n : Nat) (c_ : Nat → Int32) (cs : Int32) (fm : Value) (dE : Addr) (kD : ClassId) (eL eM mO : Addr) (Z0 : n0 ≤ h0.size) (Scs : S_0 Z h0 (.int cs)) (hcs : ¬ cs = (0 : Int32)) (Sd : S_2 Z h0 (.int 1)) (Sh : S_3 Z h0 (.int 0)) (Sl : S_4 Z h0 (.int 8)) (Sfm : S_1 Z h0 fm) (hfm : fm.isRef = true) (Sde : S_5 Z h0 (.ref dE)) (Ade : Arv Z h0 dE kD (.object "java/lang/Object") 0 [] .null) (Sem : S_7 Z h0 (.ref eM)) (Sel : S_6 Z h0 (.ref eL)) (Mo : Mir Z "[Ljava/lang/Object;" mO) (Bs : Sb Z h0 rb bb kb u n c_) :
  QMh l Z ELs mN62 prog_12_method_2_code 1 (some (.object "java/util/List")) ws (rM 10 29 190 156) #[(.ref rb)] h0 (QSp Z rb bb kb u n c_ cs fm dE kD eL eM mO h0 n0) := by
 refine bodyH (pfn pn14) (Ls := #[rv rb]) (fun _ => rfl) ?_
 intro p e s m below meth c s₁ hx hby hlk hret hml hown hnm hZ hh hR X0 e0 hS
 have hk : 0 ≤ h0.size := Nat.zero_le _
 have D := @db _ _ _ hby Dp12_2
 have K0 : Keep h0 h0 [] := Keep.refl _ _
 rcases Nat.decEq n 0 with cZ | cZ
 ·show Gt s₁ m 0 _ []
  refine aN X0 hx (D 0 rfl) ?_ rfl rfl
  refine zV X0 hx hZ hown hw 31 rfl 32 34 33 35 8 (rmEm0 l hw rb bb kb u n c_ Z0 Bs cZ) e0 Bs.1 hml (D 1 rfl) pd7 (W := 0) (rest := []) ?_ rfl rfl rfl rfl rfl (by decide) (lq rfl) rfl rfl rfl
  rintro T1 L1 v1 X1 ⟨rfl, N1q, eh1⟩
  have N1 := Fr.app (Fr.nil n0) N1q
  refine gT X1 hx (pc := 4) (pc' := 13) (D 2 rfl) (by decide) ?_ (by decide) (by decide)
  refine aN X1 hx (D 5 rfl) ?_ rfl rfl
  obtain ⟨_, _, ⟨T2, L2, k2, n2⟩, -, X2, hS2, hg2, ⟨Lc2, hQ2, l2, y2, z2, hCr2⟩, st2⟩ := callSS X1 hx (y := mN61) hown (mvT hZ (hw 94 rfl)) (mvT hZ (hw 95 rfl)) (mvT hZ (hw 29 rfl)) (mvT hZ (hw 96 rfl)) (by decide) (backOfSH (W := 0) (rmNm l hw rb bb kb u n c_ cs fm dE kD eL eM mO Z0 Scs hcs Sd Sh Sl Sfm hfm Sde Ade Sem Sel Mo Bs) hZ (hw 96 rfl) (hw 29 rfl) (by decide) (by decide) (hELs hw) hR.1) (g := (mkF m 14 #[rv rb] [(.ref rb)])) rfl hml.symm (argsL := [(.ref rb)]) (rest := []) (lenOf pd42 rfl) rfl (by show 2 * 0 + _ ≤ _; exact Nat.le_of_eq rfl) (D 6 rfl) (fun _ _ => ⟨rfl, eh1, (by decide : 0 + 29 ≤ 29), (by decide : 0 + 190 ≤ 190)⟩)
  dsimp only [Pt.U, Pt.locs, Pt.cells, Pt.slots] at X2 l2 y2 z2 st2 hQ2 hS2 hg2 hCr2
  subst l2 y2 z2
  obtain ⟨X2, hS, hZ, hown⟩ := rebS hS (by rw [eh1]; exact hk) X2 hS2 hg2 hZ hown
  have hk := Nat.le_refl T2.heap.size
  have hR := hR.trans hCr2
  obtain ⟨r2, rfl, N2q, K2, Rs2⟩ := hQ2
  have KK3 := K0.trans K2 all0
  have Z2 := lT Z0 K2.1
  have N2 := Fr.app N1 N2q
  refine Goes.sts st2 ?_
  refine Goes.retA X2 hx hret rfl rfl rfl (D 7 rfl) (lvH X2 hlk hS hk hZ (hELs hw) rfl (by rw [hh]; exact hR) (vsome hret) ?_ (by decide) (by decide))
  exact ⟨r2, rfl, N2, KK3, Rs2⟩
 ·show Gt s₁ m 0 _ []
  refine aN X0 hx (D 0 rfl) ?_ rfl rfl
  refine zV X0 hx hZ hown hw 31 rfl 32 34 33 35 8 (rmEm1 l hw rb bb kb u n c_ Z0 Bs cZ) e0 Bs.1 hml (D 1 rfl) pd7 (W := 0) (rest := []) ?_ rfl rfl rfl rfl rfl (by decide) (lq rfl) rfl rfl rfl
  rintro T4 L4 v4 X4 ⟨rfl, N4q, eh4⟩
  have N4 := Fr.app (Fr.nil n0) N4q
  refine gifNo X4 hx (D 2 rfl) (by decide) ?_
  refine zS X4 hx hZ hown hw 36 37 39 38 (rmLo l hw eL Z0 Sel) eh4 hml (D 3 rfl) pd34 (W := 0) (rest := []) ?_ rfl rfl rfl rfl (by decide) (lq rfl) rfl rfl rfl
  rintro T5 L5 v5 X5 ⟨rfl, N5q, eh5⟩
  have N5 := Fr.app N4 N5q
  refine gG X5 hx (pc := 10) (pc' := 17) (D 4 rfl) ?_ (by decide) (by decide)
  refine Goes.retA X5 hx hret rfl rfl rfl (D 7 rfl) (lvH X5 hlk hS (by rw [eh5]; exact hk) hZ (hELs hw) eh5 (by rw [hh]; exact hR) (vsome hret) ?_ (by decide) (by decide))
  rw [eh5]
  exact ⟨eL, rfl, N5, K0, by rw [cZ]; exact sp_zero c_⟩
theorem Dmethod_2 : ∀ q ∈ ([(0, .iload_n 0, 1), (1, .bipush 7, 2), (3, .iand, 1), (4, .istore_n 1, 1), (5, .iload_n 1, 1), (6, .ifCond .ne 6, 3), (9, .bipush 44, 2), (11, .ireturn, 1), (12, .iload_n 1, 1), (13, .iconst 1, 1), (14, .if_icmp .ne 6, 3), (17, .bipush 59, 2), (19, .ireturn, 1), (20, .iload_n 1, 1), (21, .iconst 2, 1), (22, .if_icmp .ne 6, 3), (25, .bipush 32, 2), (27, .ireturn, 1), (28, .iload_n 1, 1), (29, .iconst 3, 1), (30, .if_icmp .ne 6, 3), (33, .bipush 9, 2), (35, .ireturn, 1), (36, .iload_n 1, 1), (37, .iconst 4, 1), (38, .if_icmp .ne 7, 3), (41, .sipush 8195, 3), (44, .ireturn, 1), (45, .iload_n 1, 1), (46, .iconst 5, 1), (47, .if_icmp .ne 6, 3), (50, .bipush 97, 2), (52, .ireturn, 1), (53, .iload_n 0, 1), (54, .iconst 3, 1), (55, .iushr, 1), (56, .sipush 255, 3), (59, .iand, 1), (60, .i2c, 1), (61, .ireturn, 1)] : List (Nat × Instr × Nat)), decode method_2_code q.1 = .ok (q.2.1, q.2.2) := by decide +kernel
theorem pn15 : plainName "com/example/engarce/engarce/NameListSplitPinLaw" = true := by first | (simp [plainName, overriddenIn]; done) | decide +kernel
def QPk (Z : State) (xx : Int32) (h0 : Heap) (n0 : Nat) (v : Option Value) (h : Heap) (L : List Loc) : Prop := ∃ ch : Int32, v = some (.int ch) ∧ Fr n0 L ∧ h = h0 ∧ 0 ≤ ch.toInt ∧ ch.toInt < 65536
theorem rmPk (hw : HW a0 Z) (xx : Int32) (Z0 : n0 ≤ h0.size)  :
  QMg l Z mN63 method_2_code 2 (some .char) ws (rM 0 0 0 0) #[(.int xx)] h0 (QPk Z xx h0 n0) := by
 refine bodyN (pfn pn15) (Ls := #[iv xx, .unset]) (fun _ => rfl) ?_
 intro p e s m below meth c s₁ hx hby hlk hret hml hown hnm hZ hh X0 e0
 have D := @db _ _ _ hby Dmethod_2
 have N0 := Fr.nil n0
 show Gt s₁ m 0 _ []
 refine jN X0 hx (D 0 rfl) ?_ rfl
 refine gbipush X0 hx (D 1 rfl) ?_
 refine giand X0 hx (D 2 rfl) ?_
 refine gistoreN X0 hx (D 3 rfl) (l' := #[iv xx, iv (xx &&& (7 : Int32))]) rfl ?_
 refine jN X0 hx (D 4 rfl) ?_ rfl
 by_cases c1 : (xx &&& (7 : Int32)) = (0 : Int32)
 ·refine gifNo X0 hx (D 5 rfl) ((if0 _ _).trans (teq c1).2) ?_
  refine gbipush X0 hx (D 6 rfl) ?_
  refine rN X0 hx hret (D 7 rfl) (by decide) hlk ?_ (by simp) (by decide) (by decide)
  rw [e0]
  exact ⟨_, rfl, N0, rfl, (by decide)⟩
 ·refine gT X0 hx (pc := 6) (pc' := 12) (D 5 rfl) ((if0 _ _).trans (feq c1).2) ?_ (by decide) (by decide)
  refine jN X0 hx (D 8 rfl) ?_ rfl
  show Gt s₁ m 13 _ [(.int (xx &&& (7 : Int32)))]
  refine giconst X0 hx (D 9 rfl) ?_
  by_cases c2 : (xx &&& (7 : Int32)) = (1 : Int32)
  ·refine gicmpNo X0 hx (D 10 rfl) (teq c2).2 ?_
   refine gbipush X0 hx (D 11 rfl) ?_
   refine rN X0 hx hret (D 12 rfl) (by decide) hlk ?_ (by simp) (by decide) (by decide)
   rw [e0]
   exact ⟨_, rfl, N0, rfl, (by decide)⟩
  ·refine gY X0 hx (pc := 14) (pc' := 20) (D 10 rfl) (feq c2).2 ?_ (by decide) (by decide)
   refine jN X0 hx (D 13 rfl) ?_ rfl
   refine giconst X0 hx (D 14 rfl) ?_
   by_cases c3 : (xx &&& (7 : Int32)) = (2 : Int32)
   ·refine gicmpNo X0 hx (D 15 rfl) (teq c3).2 ?_
    refine gbipush X0 hx (D 16 rfl) ?_
    refine rN X0 hx hret (D 17 rfl) (by decide) hlk ?_ (by simp) (by decide) (by decide)
    rw [e0]
    exact ⟨_, rfl, N0, rfl, (by decide)⟩
   ·refine gY X0 hx (pc := 22) (pc' := 28) (D 15 rfl) (feq c3).2 ?_ (by decide) (by decide)
    show Gt s₁ m 28 _ []
    refine jN X0 hx (D 18 rfl) ?_ rfl
    refine giconst X0 hx (D 19 rfl) ?_
    by_cases c4 : (xx &&& (7 : Int32)) = (3 : Int32)
    ·refine gicmpNo X0 hx (D 20 rfl) (teq c4).2 ?_
     refine gbipush X0 hx (D 21 rfl) ?_
     refine rN X0 hx hret (D 22 rfl) (by decide) hlk ?_ (by simp) (by decide) (by decide)
     rw [e0]
     exact ⟨_, rfl, N0, rfl, (by decide)⟩
    ·refine gY X0 hx (pc := 30) (pc' := 36) (D 20 rfl) (feq c4).2 ?_ (by decide) (by decide)
     refine jN X0 hx (D 23 rfl) ?_ rfl
     refine giconst X0 hx (D 24 rfl) ?_
     by_cases c5 : (xx &&& (7 : Int32)) = (4 : Int32)
     ·refine gicmpNo X0 hx (D 25 rfl) (teq c5).2 ?_
      refine gsipush X0 hx (D 26 rfl) ?_
      show Gt s₁ m 44 _ [(.int 8195)]
      refine rN X0 hx hret (D 27 rfl) (by decide) hlk ?_ (by simp) (by decide) (by decide)
      rw [e0]
      exact ⟨_, rfl, N0, rfl, (by decide)⟩
     ·refine gY X0 hx (pc := 38) (pc' := 45) (D 25 rfl) (feq c5).2 ?_ (by decide) (by decide)
      refine jN X0 hx (D 28 rfl) ?_ rfl
      refine giconst X0 hx (D 29 rfl) ?_
      by_cases c6 : (xx &&& (7 : Int32)) = (5 : Int32)
      ·refine gicmpNo X0 hx (D 30 rfl) (teq c6).2 ?_
       refine gbipush X0 hx (D 31 rfl) ?_
       refine rN X0 hx hret (D 32 rfl) (by decide) hlk ?_ (by simp) (by decide) (by decide)
       rw [e0]
       exact ⟨_, rfl, N0, rfl, (by decide)⟩
      ·refine gY X0 hx (pc := 47) (pc' := 53) (D 30 rfl) (feq c6).2 ?_ (by decide) (by decide)
       refine jN X0 hx (D 33 rfl) ?_ rfl
       refine giconst X0 hx (D 34 rfl) ?_
       refine Goes.st (fun tg kg => XT.iushr X0.here hx rfl (D 35 rfl) rfl kg) ?_
       show Gt s₁ m 56 #[iv xx, iv (xx &&& (7 : Int32))] [(.int (XT.ushr xx (3 : Int32)))]
       refine gsipush X0 hx (D 36 rfl) ?_
       refine giand X0 hx (D 37 rfl) ?_
       show Gt s₁ m 60 _ [(.int ((XT.ushr xx (3 : Int32)) &&& (255 : Int32)))]
       refine Goes.st (fun tg kg => XT.i2c X0.here hx rfl (D 38 rfl) rfl kg) ?_
       refine rN X0 hx hret (D 39 rfl) (own_idem _) hlk ?_ (by simp) (by decide) (by decide)
       rw [e0]
       exact ⟨_, rfl, N0, rfl, (own_rng _)⟩
theorem Dmethod_3 : ∀ q ∈ ([(0, .iload_n 0, 1), (1, .bipush 44, 2), (3, .if_icmp .eq 15, 3), (6, .iload_n 0, 1), (7, .bipush 59, 2), (9, .if_icmp .eq 9, 3), (12, .iload_n 0, 1), (13, .bipush 32, 2), (15, .if_icmp .ne 7, 3), (18, .iconst 1, 1), (19, .goto 4, 3), (22, .iconst 0, 1), (23, .ireturn, 1)] : List (Nat × Instr × Nat)), decode method_3_code q.1 = .ok (q.2.1, q.2.2) := by decide +kernel
def QLs1 (Z : State) (ch : Int32) (h0 : Heap) (n0 : Nat) (v : Option Value) (h : Heap) (L : List Loc) : Prop := v = some (.int 1) ∧ Fr n0 L ∧ h = h0
theorem rmLs1 (hw : HW a0 Z) (ch : Int32) (Z0 : n0 ≤ h0.size) (hs : sp? ch = true) :
  QMg l Z mN64 method_3_code 1 (some .boolean) ws (rM 0 0 0 0) #[(.int ch)] h0 (QLs1 Z ch h0 n0) := by
 refine bodyN (pfn pn15) (Ls := #[iv ch]) (fun _ => rfl) ?_
 intro p e s m below meth c s₁ hx hby hlk hret hml hown hnm hZ hh X0 e0
 have D := @db _ _ _ hby Dmethod_3
 have N0 := Fr.nil n0
 show Gt s₁ m 0 _ []
 refine jN X0 hx (D 0 rfl) ?_ rfl
 refine gbipush X0 hx (D 1 rfl) ?_
 by_cases c1 : ch = (44 : Int32)
 ·refine gY X0 hx (pc := 3) (pc' := 18) (D 2 rfl) (teq c1).1 ?_ (by decide) (by decide)
  refine giconst X0 hx (D 9 rfl) ?_
  refine gG X0 hx (pc := 19) (pc' := 23) (D 10 rfl) ?_ (by decide) (by decide)
  refine rN X0 hx hret (D 12 rfl) (by decide) hlk ?_ (by simp) (by decide) (by decide)
  rw [e0]
  exact ⟨rfl, N0, rfl⟩
 ·refine gicmpNo X0 hx (D 2 rfl) (feq c1).1 ?_
  refine jN X0 hx (D 3 rfl) ?_ rfl
  refine gbipush X0 hx (D 4 rfl) ?_
  by_cases c2 : ch = (59 : Int32)
  ·refine gY X0 hx (pc := 9) (pc' := 18) (D 5 rfl) (teq c2).1 ?_ (by decide) (by decide)
   show Gt s₁ m 18 _ []
   refine giconst X0 hx (D 9 rfl) ?_
   refine gG X0 hx (pc := 19) (pc' := 23) (D 10 rfl) ?_ (by decide) (by decide)
   refine rN X0 hx hret (D 12 rfl) (by decide) hlk ?_ (by simp) (by decide) (by decide)
   rw [e0]
   exact ⟨rfl, N0, rfl⟩
  ·refine gicmpNo X0 hx (D 5 rfl) (feq c2).1 ?_
   refine jN X0 hx (D 6 rfl) ?_ rfl
   refine gbipush X0 hx (D 7 rfl) ?_
   by_cases c3 : ch = (32 : Int32)
   ·refine gicmpNo X0 hx (D 8 rfl) (teq c3).2 ?_
    refine giconst X0 hx (D 9 rfl) ?_
    refine gG X0 hx (pc := 19) (pc' := 23) (D 10 rfl) ?_ (by decide) (by decide)
    refine rN X0 hx hret (D 12 rfl) (by decide) hlk ?_ (by simp) (by decide) (by decide)
    rw [e0]
    exact ⟨rfl, N0, rfl⟩
   ·refine gY X0 hx (pc := 15) (pc' := 22) (D 8 rfl) (feq c3).2 ?_ (by decide) (by decide)
    show Gt s₁ m 22 _ []
    exact absurd hs (by simp [sp?, c1, c2, c3])
def QLs0 (Z : State) (ch : Int32) (h0 : Heap) (n0 : Nat) (v : Option Value) (h : Heap) (L : List Loc) : Prop := v = some (.int 0) ∧ Fr n0 L ∧ h = h0
theorem rmLs0 (hw : HW a0 Z) (ch : Int32) (Z0 : n0 ≤ h0.size) (hs : sp? ch = false) :
  QMg l Z mN64 method_3_code 1 (some .boolean) ws (rM 0 0 0 0) #[(.int ch)] h0 (QLs0 Z ch h0 n0) := by
 refine bodyN (pfn pn15) (Ls := #[iv ch]) (fun _ => rfl) ?_
 intro p e s m below meth c s₁ hx hby hlk hret hml hown hnm hZ hh X0 e0
 have D := @db _ _ _ hby Dmethod_3
 show Gt s₁ m 0 _ []
 refine jN X0 hx (D 0 rfl) ?_ rfl
 refine gbipush X0 hx (D 1 rfl) ?_
 by_cases c1 : ch = (44 : Int32)
 ·refine gY X0 hx (pc := 3) (pc' := 18) (D 2 rfl) (teq c1).1 ?_ (by decide) (by decide)
  show Gt s₁ m 18 _ []
  exact absurd hs (by simp [sp?, c1])
 ·refine gicmpNo X0 hx (D 2 rfl) (feq c1).1 ?_
  refine jN X0 hx (D 3 rfl) ?_ rfl
  refine gbipush X0 hx (D 4 rfl) ?_
  by_cases c2 : ch = (59 : Int32)
  ·refine gY X0 hx (pc := 9) (pc' := 18) (D 5 rfl) (teq c2).1 ?_ (by decide) (by decide)
   show Gt s₁ m 18 _ []
   exact absurd hs (by simp [sp?, c1, c2])
  ·refine gicmpNo X0 hx (D 5 rfl) (feq c2).1 ?_
   refine jN X0 hx (D 6 rfl) ?_ rfl
   refine gbipush X0 hx (D 7 rfl) ?_
   by_cases c3 : ch = (32 : Int32)
   ·refine gicmpNo X0 hx (D 8 rfl) (teq c3).2 ?_
    show Gt s₁ m 18 _ []
    exact absurd hs (by simp [sp?, c1, c2, c3])
   ·refine gY X0 hx (pc := 15) (pc' := 22) (D 8 rfl) (feq c3).2 ?_ (by decide) (by decide)
    refine giconst X0 hx (D 11 rfl) ?_
    refine rN X0 hx hret (D 12 rfl) (by decide) hlk ?_ (by simp) (by decide) (by decide)
    rw [e0]
    exact ⟨rfl, (Fr.nil n0), rfl⟩
theorem Dmethod_4 : ∀ q ∈ ([(0, .iload_n 1, 1), (1, .iload_n 2, 1), (2, .if_icmp .ge 13, 3), (5, .aload_n 0, 1), (6, .iload_n 1, 1), (7, .caload, 1), (8, .bipush 32, 2), (10, .if_icmp .le 5, 3), (13, .iload_n 1, 1), (14, .ireturn, 1), (15, .iload_n 1, 1), (16, .iconst 1, 1), (17, .iadd, 1), (18, .iload_n 2, 1), (19, .if_icmp .ge 17, 3), (22, .aload_n 0, 1), (23, .iload_n 1, 1), (24, .iconst 1, 1), (25, .iadd, 1), (26, .caload, 1), (27, .bipush 32, 2), (29, .if_icmp .le 7, 3), (32, .iload_n 1, 1), (33, .iconst 1, 1), (34, .iadd, 1), (35, .ireturn, 1), (36, .iload_n 1, 1), (37, .iconst 2, 1), (38, .iadd, 1), (39, .iload_n 2, 1), (40, .if_icmp .ge 17, 3), (43, .aload_n 0, 1), (44, .iload_n 1, 1), (45, .iconst 2, 1), (46, .iadd, 1), (47, .caload, 1), (48, .bipush 32, 2), (50, .if_icmp .le 7, 3), (53, .iload_n 1, 1), (54, .iconst 2, 1), (55, .iadd, 1), (56, .ireturn, 1), (57, .iload_n 1, 1), (58, .iconst 3, 1), (59, .iadd, 1), (60, .iload_n 2, 1), (61, .if_icmp .ge 17, 3), (64, .aload_n 0, 1), (65, .iload_n 1, 1), (66, .iconst 3, 1), (67, .iadd, 1), (68, .caload, 1), (69, .bipush 32, 2), (71, .if_icmp .le 7, 3), (74, .iload_n 1, 1), (75, .iconst 3, 1), (76, .iadd, 1), (77, .ireturn, 1), (78, .iload_n 2, 1), (79, .ireturn, 1)] : List (Nat × Instr × Nat)), decode method_4_code q.1 = .ok (q.2.1, q.2.2) := by decide +kernel
def QFk (Z : State) (aC : Addr) (kC : ClassId) (c_ : Nat → Int32) (a_ b_ : Nat) (h0 : Heap) (n0 : Nat) (v : Option Value) (h : Heap) (L : List Loc) : Prop := v = some (.int (iN (fk c_ a_ b_))) ∧ Fr n0 L ∧ h = h0
theorem rmFk (hw : HW a0 Z) (aC : Addr) (kC : ClassId) (c_ : Nat → Int32) (a_ b_ : Nat) (Z0 : n0 ≤ h0.size) (VC : Arv Z h0 aC kC .char 4 (rg 4 (fun i => .int (c_ i))) (.int 0)) (hb4 : b_ ≤ 4) (ha4 : a_ ≤ 5) :
  QMg l Z mN65 method_4_code 3 (some .int) ws (rM 0 0 0 0) #[(.ref aC), (.int (iN a_)), (.int (iN b_))] h0 (QFk Z aC kC c_ a_ b_ h0 n0) := by
 refine bodyN (pfn pn15) (Ls := #[rv aC, iv (iN a_), iv (iN b_)]) (fun _ => rfl) ?_
 intro p e s m below meth c s₁ hx hby hlk hret hml hown hnm hZ hh X0 e0
 have D := @db _ _ _ hby Dmethod_4
 have N0 := Fr.nil n0
 show Gt s₁ m 0 _ []
 refine jN X0 hx (D 0 rfl) ?_ rfl
 refine jN X0 hx (D 1 rfl) ?_ rfl
 by_cases c1 : (iN a_) < (iN b_)
 ·have c1N := (iN_lt (a := a_) (b := b_) (by omega) (by omega)).mp c1
  refine gicmpNo X0 hx (D 2 rfl) (tlt c1).2.1 ?_
  refine aN X0 hx (D 3 rfl) ?_ rfl rfl
  refine jN X0 hx (D 4 rfl) ?_ rfl
  refine qCa X0 hx hZ e0 VC ⟨nnN a_ (by omega), ylN a_ 4 (by omega) (by omega) (by omega)⟩ (v := (.int (c_ a_))) (by rw [iN_nat (a := a_) (by omega)]; exact rg_get _ _ (by omega)) (D 5 rfl) ?_
  refine gbipush X0 hx (D 6 rfl) ?_
  by_cases c3 : (32 : Int32) < (c_ a_)
  ·refine gicmpNo X0 hx (D 7 rfl) (tlt c3).2.2.2 ?_
   refine jN X0 hx (D 8 rfl) ?_ rfl
   show Gt s₁ m 14 _ [(.int (iN a_))]
   refine rI X0 hx hret (D 9 rfl) hlk ?_ (by decide) (by decide)
   rw [e0]
   exact ⟨by rw [show fk c_ a_ b_ = a_ by unfold fk; rw [if_pos ⟨by omega, c3⟩]], N0, rfl⟩
  ·refine gY X0 hx (pc := 10) (pc' := 15) (D 7 rfl) (flt c3).2.2.2 ?_ (by decide) (by decide)
   refine jN X0 hx (D 10 rfl) ?_ rfl
   refine giconst X0 hx (D 11 rfl) ?_
   refine giadd X0 hx (D 12 rfl) ?_
   show Gt s₁ m 18 _ [(.int ((iN a_) + (1 : Int32)))]
   rw [show ((iN a_) + (1 : Int32)) = (iN (a_ + 1)) from iN_add a_ 1]
   refine jN X0 hx (D 13 rfl) ?_ rfl
   by_cases c4 : (iN (a_ + 1)) < (iN b_)
   ·have c4N := (iN_lt (a := a_ + 1) (b := b_) (by omega) (by omega)).mp c4
    refine gicmpNo X0 hx (D 14 rfl) (tlt c4).2.1 ?_
    refine aN X0 hx (D 15 rfl) ?_ rfl rfl
    refine jN X0 hx (D 16 rfl) ?_ rfl
    refine giconst X0 hx (D 17 rfl) ?_
    refine giadd X0 hx (D 18 rfl) ?_
    show Gt s₁ m 26 _ [(.int ((iN a_) + (1 : Int32))), (.ref aC)]
    rw [show ((iN a_) + (1 : Int32)) = (iN (a_ + 1)) from iN_add a_ 1]
    refine qCa X0 hx hZ e0 VC ⟨nnN (a_ + 1) (by omega), ylN (a_ + 1) 4 (by omega) (by omega) (by omega)⟩ (v := (.int (c_ (a_ + 1)))) (by rw [iN_nat (a := a_ + 1) (by omega)]; exact rg_get _ _ (by omega)) (D 19 rfl) ?_
    refine gbipush X0 hx (D 20 rfl) ?_
    by_cases c6 : (32 : Int32) < (c_ (a_ + 1))
    ·refine gicmpNo X0 hx (D 21 rfl) (tlt c6).2.2.2 ?_
     refine jN X0 hx (D 22 rfl) ?_ rfl
     refine giconst X0 hx (D 23 rfl) ?_
     refine giadd X0 hx (D 24 rfl) ?_
     show Gt s₁ m 35 _ [(.int ((iN a_) + (1 : Int32)))]
     rw [show ((iN a_) + (1 : Int32)) = (iN (a_ + 1)) from iN_add a_ 1]
     refine rI X0 hx hret (D 25 rfl) hlk ?_ (by decide) (by decide)
     rw [e0]
     exact ⟨by rw [show fk c_ a_ b_ = a_ + 1 by unfold fk; rw [if_neg (fun q => absurd q.2 c3), if_pos ⟨by omega, c6⟩]], N0, rfl⟩
    ·refine gY X0 hx (pc := 29) (pc' := 36) (D 21 rfl) (flt c6).2.2.2 ?_ (by decide) (by decide)
     refine jN X0 hx (D 26 rfl) ?_ rfl
     refine giconst X0 hx (D 27 rfl) ?_
     refine giadd X0 hx (D 28 rfl) ?_
     show Gt s₁ m 39 _ [(.int ((iN a_) + (2 : Int32)))]
     rw [show ((iN a_) + (2 : Int32)) = (iN (a_ + 2)) from iN_add a_ 2]
     refine jN X0 hx (D 29 rfl) ?_ rfl
     by_cases c7 : (iN (a_ + 2)) < (iN b_)
     ·have c7N := (iN_lt (a := a_ + 2) (b := b_) (by omega) (by omega)).mp c7
      refine gicmpNo X0 hx (D 30 rfl) (tlt c7).2.1 ?_
      refine aN X0 hx (D 31 rfl) ?_ rfl rfl
      refine jN X0 hx (D 32 rfl) ?_ rfl
      refine giconst X0 hx (D 33 rfl) ?_
      refine giadd X0 hx (D 34 rfl) ?_
      show Gt s₁ m 47 _ [(.int ((iN a_) + (2 : Int32))), (.ref aC)]
      rw [show ((iN a_) + (2 : Int32)) = (iN (a_ + 2)) from iN_add a_ 2]
      refine qCa X0 hx hZ e0 VC ⟨nnN (a_ + 2) (by omega), ylN (a_ + 2) 4 (by omega) (by omega) (by omega)⟩ (v := (.int (c_ (a_ + 2)))) (by rw [iN_nat (a := a_ + 2) (by omega)]; exact rg_get _ _ (by omega)) (D 35 rfl) ?_
      refine gbipush X0 hx (D 36 rfl) ?_
      by_cases c9 : (32 : Int32) < (c_ (a_ + 2))
      ·refine gicmpNo X0 hx (D 37 rfl) (tlt c9).2.2.2 ?_
       refine jN X0 hx (D 38 rfl) ?_ rfl
       refine giconst X0 hx (D 39 rfl) ?_
       refine giadd X0 hx (D 40 rfl) ?_
       show Gt s₁ m 56 _ [(.int ((iN a_) + (2 : Int32)))]
       rw [show ((iN a_) + (2 : Int32)) = (iN (a_ + 2)) from iN_add a_ 2]
       refine rI X0 hx hret (D 41 rfl) hlk ?_ (by decide) (by decide)
       rw [e0]
       exact ⟨by rw [show fk c_ a_ b_ = a_ + 2 by unfold fk; rw [if_neg (fun q => absurd q.2 c3), if_neg (fun q => absurd q.2 c6), if_pos ⟨by omega, c9⟩]], N0, rfl⟩
      ·refine gY X0 hx (pc := 50) (pc' := 57) (D 37 rfl) (flt c9).2.2.2 ?_ (by decide) (by decide)
       refine jN X0 hx (D 42 rfl) ?_ rfl
       refine giconst X0 hx (D 43 rfl) ?_
       refine giadd X0 hx (D 44 rfl) ?_
       show Gt s₁ m 60 _ [(.int ((iN a_) + (3 : Int32)))]
       rw [show ((iN a_) + (3 : Int32)) = (iN (a_ + 3)) from iN_add a_ 3]
       refine jN X0 hx (D 45 rfl) ?_ rfl
       by_cases c10 : (iN (a_ + 3)) < (iN b_)
       ·have c10N := (iN_lt (a := a_ + 3) (b := b_) (by omega) (by omega)).mp c10
        refine gicmpNo X0 hx (D 46 rfl) (tlt c10).2.1 ?_
        refine aN X0 hx (D 47 rfl) ?_ rfl rfl
        refine jN X0 hx (D 48 rfl) ?_ rfl
        refine giconst X0 hx (D 49 rfl) ?_
        refine giadd X0 hx (D 50 rfl) ?_
        show Gt s₁ m 68 _ [(.int ((iN a_) + (3 : Int32))), (.ref aC)]
        rw [show ((iN a_) + (3 : Int32)) = (iN (a_ + 3)) from iN_add a_ 3]
        refine qCa X0 hx hZ e0 VC ⟨nnN (a_ + 3) (by omega), ylN (a_ + 3) 4 (by omega) (by omega) (by omega)⟩ (v := (.int (c_ (a_ + 3)))) (by rw [iN_nat (a := a_ + 3) (by omega)]; exact rg_get _ _ (by omega)) (D 51 rfl) ?_
        refine gbipush X0 hx (D 52 rfl) ?_
        by_cases c12 : (32 : Int32) < (c_ (a_ + 3))
        ·refine gicmpNo X0 hx (D 53 rfl) (tlt c12).2.2.2 ?_
         refine jN X0 hx (D 54 rfl) ?_ rfl
         refine giconst X0 hx (D 55 rfl) ?_
         refine giadd X0 hx (D 56 rfl) ?_
         show Gt s₁ m 77 _ [(.int ((iN a_) + (3 : Int32)))]
         rw [show ((iN a_) + (3 : Int32)) = (iN (a_ + 3)) from iN_add a_ 3]
         refine rI X0 hx hret (D 57 rfl) hlk ?_ (by decide) (by decide)
         rw [e0]
         exact ⟨by rw [show fk c_ a_ b_ = a_ + 3 by unfold fk; rw [if_neg (fun q => absurd q.2 c3), if_neg (fun q => absurd q.2 c6), if_neg (fun q => absurd q.2 c9), if_pos ⟨by omega, c12⟩]], N0, rfl⟩
        ·refine gY X0 hx (pc := 71) (pc' := 78) (D 53 rfl) (flt c12).2.2.2 ?_ (by decide) (by decide)
         refine jN X0 hx (D 58 rfl) ?_ rfl
         refine rI X0 hx hret (D 59 rfl) hlk ?_ (by decide) (by decide)
         rw [e0]
         exact ⟨by rw [show fk c_ a_ b_ = b_ by unfold fk; rw [if_neg (fun q => absurd q.2 c3), if_neg (fun q => absurd q.2 c6), if_neg (fun q => absurd q.2 c9), if_neg (fun q => absurd q.2 c12)]], N0, rfl⟩
       ·have c10N : ¬ (a_ + 3) < b_ := fun q => c10 ((iN_lt (a := a_ + 3) (b := b_) (by omega) (by omega)).mpr q)
        refine gY X0 hx (pc := 61) (pc' := 78) (D 46 rfl) (flt c10).2.1 ?_ (by decide) (by decide)
        refine jN X0 hx (D 58 rfl) ?_ rfl
        refine rI X0 hx hret (D 59 rfl) hlk ?_ (by decide) (by decide)
        rw [e0]
        exact ⟨by rw [show fk c_ a_ b_ = b_ by unfold fk; rw [if_neg (fun q => absurd q.2 c3), if_neg (fun q => absurd q.2 c6), if_neg (fun q => absurd q.2 c9), if_neg (fun q => absurd q.1 (by omega))]], N0, rfl⟩
     ·have c7N : ¬ (a_ + 2) < b_ := fun q => c7 ((iN_lt (a := a_ + 2) (b := b_) (by omega) (by omega)).mpr q)
      refine gY X0 hx (pc := 40) (pc' := 57) (D 30 rfl) (flt c7).2.1 ?_ (by decide) (by decide)
      refine jN X0 hx (D 42 rfl) ?_ rfl
      refine giconst X0 hx (D 43 rfl) ?_
      refine giadd X0 hx (D 44 rfl) ?_
      show Gt s₁ m 60 _ [(.int ((iN a_) + (3 : Int32)))]
      rw [show ((iN a_) + (3 : Int32)) = (iN (a_ + 3)) from iN_add a_ 3]
      refine jN X0 hx (D 45 rfl) ?_ rfl
      refine gY X0 hx (pc := 61) (pc' := 78) (D 46 rfl) (flt (nlN (a_ + 3) b_ (by omega) (by omega) (by omega))).2.1 ?_ (by decide) (by decide)
      refine jN X0 hx (D 58 rfl) ?_ rfl
      refine rI X0 hx hret (D 59 rfl) hlk ?_ (by decide) (by decide)
      rw [e0]
      exact ⟨by rw [show fk c_ a_ b_ = b_ by unfold fk; rw [if_neg (fun q => absurd q.2 c3), if_neg (fun q => absurd q.2 c6), if_neg (fun q => absurd q.1 (by omega)), if_neg (fun q => absurd q.1 (by omega))]], N0, rfl⟩
   ·have c4N : ¬ (a_ + 1) < b_ := fun q => c4 ((iN_lt (a := a_ + 1) (b := b_) (by omega) (by omega)).mpr q)
    refine gY X0 hx (pc := 19) (pc' := 36) (D 14 rfl) (flt c4).2.1 ?_ (by decide) (by decide)
    refine jN X0 hx (D 26 rfl) ?_ rfl
    refine giconst X0 hx (D 27 rfl) ?_
    refine giadd X0 hx (D 28 rfl) ?_
    show Gt s₁ m 39 _ [(.int ((iN a_) + (2 : Int32)))]
    rw [show ((iN a_) + (2 : Int32)) = (iN (a_ + 2)) from iN_add a_ 2]
    refine jN X0 hx (D 29 rfl) ?_ rfl
    refine gY X0 hx (pc := 40) (pc' := 57) (D 30 rfl) (flt (nlN (a_ + 2) b_ (by omega) (by omega) (by omega))).2.1 ?_ (by decide) (by decide)
    refine jN X0 hx (D 42 rfl) ?_ rfl
    refine giconst X0 hx (D 43 rfl) ?_
    refine giadd X0 hx (D 44 rfl) ?_
    show Gt s₁ m 60 _ [(.int ((iN a_) + (3 : Int32)))]
    rw [show ((iN a_) + (3 : Int32)) = (iN (a_ + 3)) from iN_add a_ 3]
    refine jN X0 hx (D 45 rfl) ?_ rfl
    refine gY X0 hx (pc := 61) (pc' := 78) (D 46 rfl) (flt (nlN (a_ + 3) b_ (by omega) (by omega) (by omega))).2.1 ?_ (by decide) (by decide)
    refine jN X0 hx (D 58 rfl) ?_ rfl
    refine rI X0 hx hret (D 59 rfl) hlk ?_ (by decide) (by decide)
    rw [e0]
    exact ⟨by rw [show fk c_ a_ b_ = b_ by unfold fk; rw [if_neg (fun q => absurd q.2 c3), if_neg (fun q => absurd q.1 (by omega)), if_neg (fun q => absurd q.1 (by omega)), if_neg (fun q => absurd q.1 (by omega))]], N0, rfl⟩
 ·have c1N : ¬ a_ < b_ := fun q => c1 ((iN_lt (a := a_) (b := b_) (by omega) (by omega)).mpr q)
  refine gY X0 hx (pc := 2) (pc' := 15) (D 2 rfl) (flt c1).2.1 ?_ (by decide) (by decide)
  refine jN X0 hx (D 10 rfl) ?_ rfl
  refine giconst X0 hx (D 11 rfl) ?_
  refine giadd X0 hx (D 12 rfl) ?_
  show Gt s₁ m 18 _ [(.int ((iN a_) + (1 : Int32)))]
  rw [show ((iN a_) + (1 : Int32)) = (iN (a_ + 1)) from iN_add a_ 1]
  refine jN X0 hx (D 13 rfl) ?_ rfl
  refine gY X0 hx (pc := 19) (pc' := 36) (D 14 rfl) (flt (nlN (a_ + 1) b_ (by omega) (by omega) (by omega))).2.1 ?_ (by decide) (by decide)
  refine jN X0 hx (D 26 rfl) ?_ rfl
  refine giconst X0 hx (D 27 rfl) ?_
  refine giadd X0 hx (D 28 rfl) ?_
  show Gt s₁ m 39 _ [(.int ((iN a_) + (2 : Int32)))]
  rw [show ((iN a_) + (2 : Int32)) = (iN (a_ + 2)) from iN_add a_ 2]
  refine jN X0 hx (D 29 rfl) ?_ rfl
  refine gY X0 hx (pc := 40) (pc' := 57) (D 30 rfl) (flt (nlN (a_ + 2) b_ (by omega) (by omega) (by omega))).2.1 ?_ (by decide) (by decide)
  refine jN X0 hx (D 42 rfl) ?_ rfl
  refine giconst X0 hx (D 43 rfl) ?_
  refine giadd X0 hx (D 44 rfl) ?_
  show Gt s₁ m 60 _ [(.int ((iN a_) + (3 : Int32)))]
  rw [show ((iN a_) + (3 : Int32)) = (iN (a_ + 3)) from iN_add a_ 3]
  refine jN X0 hx (D 45 rfl) ?_ rfl
  refine gY X0 hx (pc := 61) (pc' := 78) (D 46 rfl) (flt (nlN (a_ + 3) b_ (by omega) (by omega) (by omega))).2.1 ?_ (by decide) (by decide)
  refine jN X0 hx (D 58 rfl) ?_ rfl
  refine rI X0 hx hret (D 59 rfl) hlk ?_ (by decide) (by decide)
  rw [e0]
  exact ⟨by rw [show fk c_ a_ b_ = b_ by unfold fk; rw [if_neg (fun q => absurd q.1 (by omega)), if_neg (fun q => absurd q.1 (by omega)), if_neg (fun q => absurd q.1 (by omega)), if_neg (fun q => absurd q.1 (by omega))]], N0, rfl⟩
theorem own_sublt {b lo t : Nat} (h : b < lo + t) (hb : b ≤ 4) (hl : lo ≤ 4) (ht : t ≤ 4) : iN b - iN t < iN lo := by
 have q : ∀ b lo t : Fin 5, b.val < lo.val + t.val → iN b.val - iN t.val < iN lo.val := by decide +kernel
 exact q ⟨b, by omega⟩ ⟨lo, by omega⟩ ⟨t, by omega⟩ h
theorem Dmethod_5 : ∀ q ∈ ([(0, .iload_n 1, 1), (1, .iload_n 2, 1), (2, .if_icmp .lt 5, 3), (5, .iload_n 1, 1), (6, .ireturn, 1), (7, .iload_n 2, 1), (8, .iconst 1, 1), (9, .isub, 1), (10, .iload_n 1, 1), (11, .if_icmp .lt 15, 3), (14, .aload_n 0, 1), (15, .iload_n 2, 1), (16, .iconst 1, 1), (17, .isub, 1), (18, .caload, 1), (19, .bipush 32, 2), (21, .if_icmp .le 5, 3), (24, .iload_n 2, 1), (25, .ireturn, 1), (26, .iload_n 2, 1), (27, .iconst 2, 1), (28, .isub, 1), (29, .iload_n 1, 1), (30, .if_icmp .lt 17, 3), (33, .aload_n 0, 1), (34, .iload_n 2, 1), (35, .iconst 2, 1), (36, .isub, 1), (37, .caload, 1), (38, .bipush 32, 2), (40, .if_icmp .le 7, 3), (43, .iload_n 2, 1), (44, .iconst 1, 1), (45, .isub, 1), (46, .ireturn, 1), (47, .iload_n 2, 1), (48, .iconst 3, 1), (49, .isub, 1), (50, .iload_n 1, 1), (51, .if_icmp .lt 17, 3), (54, .aload_n 0, 1), (55, .iload_n 2, 1), (56, .iconst 3, 1), (57, .isub, 1), (58, .caload, 1), (59, .bipush 32, 2), (61, .if_icmp .le 7, 3), (64, .iload_n 2, 1), (65, .iconst 2, 1), (66, .isub, 1), (67, .ireturn, 1), (68, .iload_n 2, 1), (69, .iconst 4, 1), (70, .isub, 1), (71, .iload_n 1, 1), (72, .if_icmp .lt 17, 3), (75, .aload_n 0, 1), (76, .iload_n 2, 1), (77, .iconst 4, 1), (78, .isub, 1), (79, .caload, 1), (80, .bipush 32, 2), (82, .if_icmp .le 7, 3), (85, .iload_n 2, 1), (86, .iconst 3, 1), (87, .isub, 1), (88, .ireturn, 1), (89, .iload_n 1, 1), (90, .ireturn, 1)] : List (Nat × Instr × Nat)), decode method_5_code q.1 = .ok (q.2.1, q.2.2) := by decide +kernel
def QLk (Z : State) (aC : Addr) (kC : ClassId) (c_ : Nat → Int32) (lo_ b_ : Nat) (h0 : Heap) (n0 : Nat) (v : Option Value) (h : Heap) (L : List Loc) : Prop := v = some (.int (iN (lk c_ lo_ b_))) ∧ Fr n0 L ∧ h = h0
theorem rmLk (hw : HW a0 Z) (aC : Addr) (kC : ClassId) (c_ : Nat → Int32) (lo_ b_ : Nat) (Z0 : n0 ≤ h0.size) (VC : Arv Z h0 aC kC .char 4 (rg 4 (fun i => .int (c_ i))) (.int 0)) (hb4 : b_ ≤ 4) (hlb : lo_ ≤ b_) :
  QMg l Z mN66 method_5_code 3 (some .int) ws (rM 0 0 0 0) #[(.ref aC), (.int (iN lo_)), (.int (iN b_))] h0 (QLk Z aC kC c_ lo_ b_ h0 n0) := by
 refine bodyN (pfn pn15) (Ls := #[rv aC, iv (iN lo_), iv (iN b_)]) (fun _ => rfl) ?_
 intro p e s m below meth c s₁ hx hby hlk hret hml hown hnm hZ hh X0 e0
 have D := @db _ _ _ hby Dmethod_5
 have N0 := Fr.nil n0
 show Gt s₁ m 0 _ []
 refine jN X0 hx (D 0 rfl) ?_ rfl
 refine jN X0 hx (D 1 rfl) ?_ rfl
 show Gt s₁ m 2 _ [(.int (iN b_)), (.int (iN lo_))]
 rcases Nat.lt_or_ge lo_ b_ with cL | cL
 ·refine gY X0 hx (pc := 2) (pc' := 7) (D 2 rfl) (tlt (ylN lo_ b_ (by omega) (by omega) (by omega))).1 ?_ (by decide) (by decide)
  refine jN X0 hx (D 5 rfl) ?_ rfl
  refine giconst X0 hx (D 6 rfl) ?_
  refine gisub X0 hx (D 7 rfl) ?_
  show Gt s₁ m 10 _ [(.int ((iN b_) - (1 : Int32)))]
  rw [show ((iN b_) - (1 : Int32)) = (iN (b_ - 1)) from iN_sub (a := b_) (b := 1) (by omega)]
  refine jN X0 hx (D 8 rfl) ?_ rfl
  refine gicmpNo X0 hx (D 9 rfl) (flt (nlN (b_ - 1) lo_ (by omega) (by omega) (by omega))).1 ?_
  refine aN X0 hx (D 10 rfl) ?_ rfl rfl
  refine jN X0 hx (D 11 rfl) ?_ rfl
  refine giconst X0 hx (D 12 rfl) ?_
  refine gisub X0 hx (D 13 rfl) ?_
  show Gt s₁ m 18 _ [(.int ((iN b_) - (1 : Int32))), (.ref aC)]
  rw [show ((iN b_) - (1 : Int32)) = (iN (b_ - 1)) from iN_sub (a := b_) (b := 1) (by omega)]
  refine qCa X0 hx hZ e0 VC ⟨nnN (b_ - 1) (by omega), ylN (b_ - 1) 4 (by omega) (by omega) (by omega)⟩ (v := (.int (c_ (b_ - 1)))) (by rw [iN_nat (a := b_ - 1) (by omega)]; exact rg_get _ _ (by omega)) (D 14 rfl) ?_
  refine gbipush X0 hx (D 15 rfl) ?_
  by_cases c2 : (32 : Int32) < (c_ (b_ - 1))
  ·refine gicmpNo X0 hx (D 16 rfl) (tlt c2).2.2.2 ?_
   refine jN X0 hx (D 17 rfl) ?_ rfl
   refine rI X0 hx hret (D 18 rfl) hlk ?_ (by decide) (by decide)
   rw [e0]
   exact ⟨by rw [show lk c_ lo_ b_ = b_ by unfold lk; rw [if_neg (by omega), if_pos ⟨by omega, c2⟩]], N0, rfl⟩
  ·refine gY X0 hx (pc := 21) (pc' := 26) (D 16 rfl) (flt c2).2.2.2 ?_ (by decide) (by decide)
   show Gt s₁ m 26 _ []
   rcases Nat.lt_or_ge b_ (lo_ + 2) with cT2 | cT2
   ·refine jN X0 hx (D 19 rfl) ?_ rfl
    refine giconst X0 hx (D 20 rfl) ?_
    refine gisub X0 hx (D 21 rfl) ?_
    refine jN X0 hx (D 22 rfl) ?_ rfl
    refine gY X0 hx (pc := 30) (pc' := 47) (D 23 rfl) (tlt (own_sublt (t := 2) (by omega) (by omega) (by omega) (by omega))).1 ?_ (by decide) (by decide)
    show Gt s₁ m 47 _ []
    refine jN X0 hx (D 35 rfl) ?_ rfl
    refine giconst X0 hx (D 36 rfl) ?_
    refine gisub X0 hx (D 37 rfl) ?_
    refine jN X0 hx (D 38 rfl) ?_ rfl
    refine gY X0 hx (pc := 51) (pc' := 68) (D 39 rfl) (tlt (own_sublt (t := 3) (by omega) (by omega) (by omega) (by omega))).1 ?_ (by decide) (by decide)
    show Gt s₁ m 68 _ []
    refine jN X0 hx (D 51 rfl) ?_ rfl
    refine giconst X0 hx (D 52 rfl) ?_
    refine gisub X0 hx (D 53 rfl) ?_
    refine jN X0 hx (D 54 rfl) ?_ rfl
    refine gY X0 hx (pc := 72) (pc' := 89) (D 55 rfl) (tlt (own_sublt (t := 4) (by omega) (by omega) (by omega) (by omega))).1 ?_ (by decide) (by decide)
    refine jN X0 hx (D 67 rfl) ?_ rfl
    refine rI X0 hx hret (D 68 rfl) hlk ?_ (by decide) (by decide)
    rw [e0]
    exact ⟨by rw [show lk c_ lo_ b_ = lo_ by unfold lk; rw [if_neg (by omega), if_neg (fun q => absurd q.2 c2), if_neg (fun q => absurd q.1 (by omega)), if_neg (fun q => absurd q.1 (by omega)), if_neg (fun q => absurd q.1 (by omega))]], N0, rfl⟩
   ·refine jN X0 hx (D 19 rfl) ?_ rfl
    refine giconst X0 hx (D 20 rfl) ?_
    refine gisub X0 hx (D 21 rfl) ?_
    show Gt s₁ m 29 _ [(.int ((iN b_) - (2 : Int32)))]
    rw [show ((iN b_) - (2 : Int32)) = (iN (b_ - 2)) from iN_sub (a := b_) (b := 2) (by omega)]
    refine jN X0 hx (D 22 rfl) ?_ rfl
    refine gicmpNo X0 hx (D 23 rfl) (flt (nlN (b_ - 2) lo_ (by omega) (by omega) (by omega))).1 ?_
    refine aN X0 hx (D 24 rfl) ?_ rfl rfl
    refine jN X0 hx (D 25 rfl) ?_ rfl
    refine giconst X0 hx (D 26 rfl) ?_
    refine gisub X0 hx (D 27 rfl) ?_
    show Gt s₁ m 37 _ [(.int ((iN b_) - (2 : Int32))), (.ref aC)]
    rw [show ((iN b_) - (2 : Int32)) = (iN (b_ - 2)) from iN_sub (a := b_) (b := 2) (by omega)]
    refine qCa X0 hx hZ e0 VC ⟨nnN (b_ - 2) (by omega), ylN (b_ - 2) 4 (by omega) (by omega) (by omega)⟩ (v := (.int (c_ (b_ - 2)))) (by rw [iN_nat (a := b_ - 2) (by omega)]; exact rg_get _ _ (by omega)) (D 28 rfl) ?_
    refine gbipush X0 hx (D 29 rfl) ?_
    by_cases c4 : (32 : Int32) < (c_ (b_ - 2))
    ·refine gicmpNo X0 hx (D 30 rfl) (tlt c4).2.2.2 ?_
     refine jN X0 hx (D 31 rfl) ?_ rfl
     refine giconst X0 hx (D 32 rfl) ?_
     refine gisub X0 hx (D 33 rfl) ?_
     show Gt s₁ m 46 _ [(.int ((iN b_) - (1 : Int32)))]
     rw [show ((iN b_) - (1 : Int32)) = (iN (b_ - 1)) from iN_sub (a := b_) (b := 1) (by omega)]
     refine rI X0 hx hret (D 34 rfl) hlk ?_ (by decide) (by decide)
     rw [e0]
     exact ⟨by rw [show lk c_ lo_ b_ = b_ - 1 by unfold lk; rw [if_neg (by omega), if_neg (fun q => absurd q.2 c2), if_pos ⟨by omega, c4⟩]], N0, rfl⟩
    ·refine gY X0 hx (pc := 40) (pc' := 47) (D 30 rfl) (flt c4).2.2.2 ?_ (by decide) (by decide)
     show Gt s₁ m 47 _ []
     rcases Nat.lt_or_ge b_ (lo_ + 3) with cT3 | cT3
     ·refine jN X0 hx (D 35 rfl) ?_ rfl
      refine giconst X0 hx (D 36 rfl) ?_
      refine gisub X0 hx (D 37 rfl) ?_
      refine jN X0 hx (D 38 rfl) ?_ rfl
      refine gY X0 hx (pc := 51) (pc' := 68) (D 39 rfl) (tlt (own_sublt (t := 3) (by omega) (by omega) (by omega) (by omega))).1 ?_ (by decide) (by decide)
      show Gt s₁ m 68 _ []
      refine jN X0 hx (D 51 rfl) ?_ rfl
      refine giconst X0 hx (D 52 rfl) ?_
      refine gisub X0 hx (D 53 rfl) ?_
      refine jN X0 hx (D 54 rfl) ?_ rfl
      refine gY X0 hx (pc := 72) (pc' := 89) (D 55 rfl) (tlt (own_sublt (t := 4) (by omega) (by omega) (by omega) (by omega))).1 ?_ (by decide) (by decide)
      refine jN X0 hx (D 67 rfl) ?_ rfl
      refine rI X0 hx hret (D 68 rfl) hlk ?_ (by decide) (by decide)
      rw [e0]
      exact ⟨by rw [show lk c_ lo_ b_ = lo_ by unfold lk; rw [if_neg (by omega), if_neg (fun q => absurd q.2 c2), if_neg (fun q => absurd q.2 c4), if_neg (fun q => absurd q.1 (by omega)), if_neg (fun q => absurd q.1 (by omega))]], N0, rfl⟩
     ·refine jN X0 hx (D 35 rfl) ?_ rfl
      refine giconst X0 hx (D 36 rfl) ?_
      refine gisub X0 hx (D 37 rfl) ?_
      show Gt s₁ m 50 _ [(.int ((iN b_) - (3 : Int32)))]
      rw [show ((iN b_) - (3 : Int32)) = (iN (b_ - 3)) from iN_sub (a := b_) (b := 3) (by omega)]
      refine jN X0 hx (D 38 rfl) ?_ rfl
      refine gicmpNo X0 hx (D 39 rfl) (flt (nlN (b_ - 3) lo_ (by omega) (by omega) (by omega))).1 ?_
      refine aN X0 hx (D 40 rfl) ?_ rfl rfl
      refine jN X0 hx (D 41 rfl) ?_ rfl
      refine giconst X0 hx (D 42 rfl) ?_
      refine gisub X0 hx (D 43 rfl) ?_
      show Gt s₁ m 58 _ [(.int ((iN b_) - (3 : Int32))), (.ref aC)]
      rw [show ((iN b_) - (3 : Int32)) = (iN (b_ - 3)) from iN_sub (a := b_) (b := 3) (by omega)]
      refine qCa X0 hx hZ e0 VC ⟨nnN (b_ - 3) (by omega), ylN (b_ - 3) 4 (by omega) (by omega) (by omega)⟩ (v := (.int (c_ (b_ - 3)))) (by rw [iN_nat (a := b_ - 3) (by omega)]; exact rg_get _ _ (by omega)) (D 44 rfl) ?_
      refine gbipush X0 hx (D 45 rfl) ?_
      by_cases c6 : (32 : Int32) < (c_ (b_ - 3))
      ·refine gicmpNo X0 hx (D 46 rfl) (tlt c6).2.2.2 ?_
       refine jN X0 hx (D 47 rfl) ?_ rfl
       refine giconst X0 hx (D 48 rfl) ?_
       refine gisub X0 hx (D 49 rfl) ?_
       show Gt s₁ m 67 _ [(.int ((iN b_) - (2 : Int32)))]
       rw [show ((iN b_) - (2 : Int32)) = (iN (b_ - 2)) from iN_sub (a := b_) (b := 2) (by omega)]
       refine rI X0 hx hret (D 50 rfl) hlk ?_ (by decide) (by decide)
       rw [e0]
       exact ⟨by rw [show lk c_ lo_ b_ = b_ - 2 by unfold lk; rw [if_neg (by omega), if_neg (fun q => absurd q.2 c2), if_neg (fun q => absurd q.2 c4), if_pos ⟨by omega, c6⟩]], N0, rfl⟩
      ·refine gY X0 hx (pc := 61) (pc' := 68) (D 46 rfl) (flt c6).2.2.2 ?_ (by decide) (by decide)
       show Gt s₁ m 68 _ []
       rcases Nat.lt_or_ge b_ (lo_ + 4) with cT4 | cT4
       ·refine jN X0 hx (D 51 rfl) ?_ rfl
        refine giconst X0 hx (D 52 rfl) ?_
        refine gisub X0 hx (D 53 rfl) ?_
        refine jN X0 hx (D 54 rfl) ?_ rfl
        refine gY X0 hx (pc := 72) (pc' := 89) (D 55 rfl) (tlt (own_sublt (t := 4) (by omega) (by omega) (by omega) (by omega))).1 ?_ (by decide) (by decide)
        refine jN X0 hx (D 67 rfl) ?_ rfl
        refine rI X0 hx hret (D 68 rfl) hlk ?_ (by decide) (by decide)
        rw [e0]
        exact ⟨by rw [show lk c_ lo_ b_ = lo_ by unfold lk; rw [if_neg (by omega), if_neg (fun q => absurd q.2 c2), if_neg (fun q => absurd q.2 c4), if_neg (fun q => absurd q.2 c6), if_neg (fun q => absurd q.1 (by omega))]], N0, rfl⟩
       ·refine jN X0 hx (D 51 rfl) ?_ rfl
        refine giconst X0 hx (D 52 rfl) ?_
        refine gisub X0 hx (D 53 rfl) ?_
        show Gt s₁ m 71 _ [(.int ((iN b_) - (4 : Int32)))]
        rw [show ((iN b_) - (4 : Int32)) = (iN (b_ - 4)) from iN_sub (a := b_) (b := 4) (by omega)]
        refine jN X0 hx (D 54 rfl) ?_ rfl
        refine gicmpNo X0 hx (D 55 rfl) (flt (nlN (b_ - 4) lo_ (by omega) (by omega) (by omega))).1 ?_
        refine aN X0 hx (D 56 rfl) ?_ rfl rfl
        refine jN X0 hx (D 57 rfl) ?_ rfl
        refine giconst X0 hx (D 58 rfl) ?_
        refine gisub X0 hx (D 59 rfl) ?_
        show Gt s₁ m 79 _ [(.int ((iN b_) - (4 : Int32))), (.ref aC)]
        rw [show ((iN b_) - (4 : Int32)) = (iN (b_ - 4)) from iN_sub (a := b_) (b := 4) (by omega)]
        refine qCa X0 hx hZ e0 VC ⟨nnN (b_ - 4) (by omega), ylN (b_ - 4) 4 (by omega) (by omega) (by omega)⟩ (v := (.int (c_ (b_ - 4)))) (by rw [iN_nat (a := b_ - 4) (by omega)]; exact rg_get _ _ (by omega)) (D 60 rfl) ?_
        refine gbipush X0 hx (D 61 rfl) ?_
        by_cases c8 : (32 : Int32) < (c_ (b_ - 4))
        ·refine gicmpNo X0 hx (D 62 rfl) (tlt c8).2.2.2 ?_
         refine jN X0 hx (D 63 rfl) ?_ rfl
         refine giconst X0 hx (D 64 rfl) ?_
         refine gisub X0 hx (D 65 rfl) ?_
         show Gt s₁ m 88 _ [(.int ((iN b_) - (3 : Int32)))]
         rw [show ((iN b_) - (3 : Int32)) = (iN (b_ - 3)) from iN_sub (a := b_) (b := 3) (by omega)]
         refine rI X0 hx hret (D 66 rfl) hlk ?_ (by decide) (by decide)
         rw [e0]
         exact ⟨by rw [show lk c_ lo_ b_ = b_ - 3 by unfold lk; rw [if_neg (by omega), if_neg (fun q => absurd q.2 c2), if_neg (fun q => absurd q.2 c4), if_neg (fun q => absurd q.2 c6), if_pos ⟨by omega, c8⟩]], N0, rfl⟩
        ·refine gY X0 hx (pc := 82) (pc' := 89) (D 62 rfl) (flt c8).2.2.2 ?_ (by decide) (by decide)
         refine jN X0 hx (D 67 rfl) ?_ rfl
         refine rI X0 hx hret (D 68 rfl) hlk ?_ (by decide) (by decide)
         rw [e0]
         exact ⟨by rw [show lk c_ lo_ b_ = lo_ by unfold lk; rw [if_neg (by omega), if_neg (fun q => absurd q.2 c2), if_neg (fun q => absurd q.2 c4), if_neg (fun q => absurd q.2 c6), if_neg (fun q => absurd q.2 c8)]], N0, rfl⟩
 ·refine gicmpNo X0 hx (D 2 rfl) (flt (nlN lo_ b_ (by omega) (by omega) (by omega))).1 ?_
  refine jN X0 hx (D 3 rfl) ?_ rfl
  refine rI X0 hx hret (D 4 rfl) hlk ?_ (by decide) (by decide)
  rw [e0]
  exact ⟨by rw [show lk c_ lo_ b_ = lo_ by unfold lk; rw [if_pos (by omega)]], N0, rfl⟩
theorem Dmethod_6 : ∀ q ∈ ([(0, .iload_n 3, 1), (1, .iload_n 2, 1), (2, .isub, 1), (3, .istore 4, 2), (5, .aload_n 0, 1), (6, .ifnull 12, 3), (9, .aload_n 0, 1), (10, .invokevirtual 7, 3), (13, .iload 4, 2), (15, .if_icmp .eq 5, 3), (20, .iload 4, 2), (22, .ifCond .le 16, 3), (25, .aload_n 0, 1), (26, .iconst 0, 1), (27, .invokevirtual 13, 3), (30, .aload_n 1, 1), (31, .iload_n 2, 1), (32, .caload, 1), (33, .if_icmp .eq 5, 3), (38, .iload 4, 2), (40, .iconst 1, 1), (41, .if_icmp .le 18, 3), (44, .aload_n 0, 1), (45, .iconst 1, 1), (46, .invokevirtual 13, 3), (49, .aload_n 1, 1), (50, .iload_n 2, 1), (51, .iconst 1, 1), (52, .iadd, 1), (53, .caload, 1), (54, .if_icmp .eq 5, 3), (59, .iload 4, 2), (61, .iconst 2, 1), (62, .if_icmp .le 18, 3), (65, .aload_n 0, 1), (66, .iconst 2, 1), (67, .invokevirtual 13, 3), (70, .aload_n 1, 1), (71, .iload_n 2, 1), (72, .iconst 2, 1), (73, .iadd, 1), (74, .caload, 1), (75, .if_icmp .eq 5, 3), (80, .iload 4, 2), (82, .iconst 3, 1), (83, .if_icmp .le 18, 3), (86, .aload_n 0, 1), (87, .iconst 3, 1), (88, .invokevirtual 13, 3), (91, .aload_n 1, 1), (92, .iload_n 2, 1), (93, .iconst 3, 1), (94, .iadd, 1), (95, .caload, 1), (96, .if_icmp .eq 5, 3), (101, .iconst 1, 1), (102, .ireturn, 1)] : List (Nat × Instr × Nat)), decode method_6_code q.1 = .ok (q.2.1, q.2.2) := by decide +kernel
def QEq (Z : State) (rb bb : Addr) (kb : ClassId) (u : Bool) (n : Nat) (d_ : Nat → Int32) (aC : Addr) (kC : ClassId) (c_ : Nat → Int32) (lo_ hi_ : Nat) (cs : Int32) (fm : Value) (h0 : Heap) (n0 : Nat) (v : Option Value) (h : Heap) (L : List Loc) : Prop := v = some (.int 1) ∧ Fr n0 L ∧ h = h0
theorem rmEq (hw : HW a0 Z) (rb bb : Addr) (kb : ClassId) (u : Bool) (n : Nat) (d_ : Nat → Int32) (aC : Addr) (kC : ClassId) (c_ : Nat → Int32) (lo_ hi_ : Nat) (cs : Int32) (fm : Value) (Z0 : n0 ≤ h0.size) (Scs : S_0 Z h0 (.int cs)) (hcs : ¬ cs = (0 : Int32)) (Sd : S_2 Z h0 (.int 1)) (Sh : S_3 Z h0 (.int 0)) (Sl : S_4 Z h0 (.int 8)) (Sfm : S_1 Z h0 fm) (hfm : fm.isRef = true) (VC : Arv Z h0 aC kC .char 4 (rg 4 (fun i => .int (c_ i))) (.int 0)) (Bs : Sb Z h0 rb bb kb u n d_) (hnl : n = hi_ - lo_) (hlh : lo_ < hi_) (hh4 : hi_ ≤ 4) (hde : ∀ i, i < n → d_ i = c_ (lo_ + i)) :
  QMg l Z mN67 method_6_code 5 (some .boolean) ws (rM 5 0 0 66) #[(.ref rb), (.ref aC), (.int (iN lo_)), (.int (iN hi_))] h0 (QEq Z rb bb kb u n d_ aC kC c_ lo_ hi_ cs fm h0 n0) := by
 refine bodyN (pfn pn15) (Ls := #[rv rb, rv aC, iv (iN lo_), iv (iN hi_), .unset]) (fun _ => rfl) ?_
 intro p e s m below meth c s₁ hx hby hlk hret hml hown hnm hZ hh X0 e0
 have D := @db _ _ _ hby Dmethod_6
 show Gt s₁ m 0 _ []
 refine jN X0 hx (D 0 rfl) ?_ rfl
 refine jN X0 hx (D 1 rfl) ?_ rfl
 refine gisub X0 hx (D 2 rfl) ?_
 show Gt s₁ m 3 _ [(.int ((iN hi_) - (iN lo_)))]
 rw [show ((iN hi_) - (iN lo_)) = (iN (hi_ - lo_)) from iN_sub (a := hi_) (b := lo_) (by omega)]
 refine gistore X0 hx (D 3 rfl) (l' := #[rv rb, rv aC, iv (iN lo_), iv (iN hi_), iv (iN (hi_ - lo_))]) rfl ?_
 refine aN X0 hx (D 4 rfl) ?_ rfl rfl
 refine Goes.st (fun tg kg => XS.ifnullNo X0.here hx rfl (D 5 rfl) rfl kg) ?_
 show Gt s₁ m 9 #[rv rb, rv aC, iv (iN lo_), iv (iN hi_), iv (iN (hi_ - lo_))] []
 refine aN X0 hx (D 6 rfl) ?_ rfl rfl
 refine zV X0 hx hZ hown hw 333 rfl 122 124 123 125 8 (rmLe l hw rb bb kb u n d_ cs Z0 Scs hcs Bs) e0 Bs.1 hml (D 7 rfl) pd20 (W := 0) (rest := []) ?_ rfl rfl rfl rfl rfl (by decide) (lq rfl) rfl rfl rfl
 rintro T1 L1 v1 X1 ⟨rfl, N1q, eh1⟩
 have N1 := Fr.app (Fr.nil n0) N1q
 refine jW X1 hx (D 8 rfl) ?_ rfl
 refine gY X1 hx (pc := 15) (pc' := 20) (D 9 rfl) (teq (yeN n (hi_ - lo_) (by omega) (by omega) (by omega))).1 ?_ (by decide) (by decide)
 refine jW X1 hx (D 10 rfl) ?_ rfl
 refine gifNo X1 hx (D 11 rfl) ((if0 _ _).trans (tlt (ylN 0 (hi_ - lo_) (by omega) (by omega) (by omega))).2.2.2) ?_
 refine aN X1 hx (D 12 rfl) ?_ rfl rfl
 refine giconst X1 hx (D 13 rfl) ?_
 refine zV X1 hx hZ hown hw 334 rfl 132 134 133 135 8 (rmCa l hw rb bb kb u n d_ 0 cs fm Z0 Scs hcs Sd Sh Sl Sfm hfm Bs (by omega)) eh1 Bs.1 hml (D 14 rfl) pd40 (W := 0) (rest := []) ?_ rfl rfl rfl rfl rfl (by decide) (lq rfl) rfl rfl rfl
 rintro T2 L2 v2 X2 ⟨rfl, N2q, eh2⟩
 have N2 := Fr.app N1 N2q
 show Gt T2 m 30 _ [(.int (d_ 0))]
 refine aN X2 hx (D 15 rfl) ?_ rfl rfl
 refine jN X2 hx (D 16 rfl) ?_ rfl
 refine qCa X2 hx hZ eh2 VC ⟨nnN lo_ (by omega), ylN lo_ 4 (by omega) (by omega) (by omega)⟩ (v := (.int (c_ lo_))) (by rw [iN_nat (a := lo_) (by omega)]; exact rg_get _ _ (by omega)) (D 17 rfl) ?_
 refine gY X2 hx (pc := 33) (pc' := 38) (D 18 rfl) (teq (hde 0 (by omega))).1 ?_ (by decide) (by decide)
 refine jW X2 hx (D 19 rfl) ?_ rfl
 refine giconst X2 hx (D 20 rfl) ?_
 by_cases c4 : (1 : Int32) < (iN (hi_ - lo_))
 ·have c4N := (iN_lt (a := 1) (b := hi_ - lo_) (by omega) (by omega)).mp c4
  refine gicmpNo X2 hx (D 21 rfl) (tlt c4).2.2.2 ?_
  refine aN X2 hx (D 22 rfl) ?_ rfl rfl
  refine giconst X2 hx (D 23 rfl) ?_
  show Gt T2 m 46 _ [(.int 1), (.ref rb)]
  refine zV X2 hx hZ hown hw 334 rfl 132 134 133 135 8 (rmCa l hw rb bb kb u n d_ 1 cs fm Z0 Scs hcs Sd Sh Sl Sfm hfm Bs (by omega)) eh2 Bs.1 hml (D 24 rfl) pd40 (W := 0) (rest := []) ?_ rfl rfl rfl rfl rfl (by decide) (lq rfl) rfl rfl rfl
  rintro T5 L5 v5 X5 ⟨rfl, N5q, eh5⟩
  have N5 := Fr.app N2 N5q
  refine aN X5 hx (D 25 rfl) ?_ rfl rfl
  refine jN X5 hx (D 26 rfl) ?_ rfl
  refine giconst X5 hx (D 27 rfl) ?_
  refine giadd X5 hx (D 28 rfl) ?_
  show Gt T5 m 53 _ [(.int ((iN lo_) + (1 : Int32))), (.ref aC), (.int (d_ 1))]
  rw [show ((iN lo_) + (1 : Int32)) = (iN (lo_ + 1)) from iN_add lo_ 1]
  refine qCa X5 hx hZ eh5 VC ⟨nnN (lo_ + 1) (by omega), ylN (lo_ + 1) 4 (by omega) (by omega) (by omega)⟩ (v := (.int (c_ (lo_ + 1)))) (by rw [iN_nat (a := lo_ + 1) (by omega)]; exact rg_get _ _ (by omega)) (D 29 rfl) ?_
  refine gY X5 hx (pc := 54) (pc' := 59) (D 30 rfl) (teq (hde 1 (by omega))).1 ?_ (by decide) (by decide)
  refine jW X5 hx (D 31 rfl) ?_ rfl
  refine giconst X5 hx (D 32 rfl) ?_
  by_cases c7 : (2 : Int32) < (iN (hi_ - lo_))
  ·have c7N := (iN_lt (a := 2) (b := hi_ - lo_) (by omega) (by omega)).mp c7
   refine gicmpNo X5 hx (D 33 rfl) (tlt c7).2.2.2 ?_
   refine aN X5 hx (D 34 rfl) ?_ rfl rfl
   refine giconst X5 hx (D 35 rfl) ?_
   refine zV X5 hx hZ hown hw 334 rfl 132 134 133 135 8 (rmCa l hw rb bb kb u n d_ 2 cs fm Z0 Scs hcs Sd Sh Sl Sfm hfm Bs (by omega)) eh5 Bs.1 hml (D 36 rfl) pd40 (W := 0) (rest := []) ?_ rfl rfl rfl rfl rfl (by decide) (lq rfl) rfl rfl rfl
   rintro T8 L8 v8 X8 ⟨rfl, N8q, eh8⟩
   have N8 := Fr.app N5 N8q
   refine aN X8 hx (D 37 rfl) ?_ rfl rfl
   show Gt T8 m 71 _ [(.ref aC), (.int (d_ 2))]
   refine jN X8 hx (D 38 rfl) ?_ rfl
   refine giconst X8 hx (D 39 rfl) ?_
   refine giadd X8 hx (D 40 rfl) ?_
   show Gt T8 m 74 _ [(.int ((iN lo_) + (2 : Int32))), (.ref aC), (.int (d_ 2))]
   rw [show ((iN lo_) + (2 : Int32)) = (iN (lo_ + 2)) from iN_add lo_ 2]
   refine qCa X8 hx hZ eh8 VC ⟨nnN (lo_ + 2) (by omega), ylN (lo_ + 2) 4 (by omega) (by omega) (by omega)⟩ (v := (.int (c_ (lo_ + 2)))) (by rw [iN_nat (a := lo_ + 2) (by omega)]; exact rg_get _ _ (by omega)) (D 41 rfl) ?_
   refine gY X8 hx (pc := 75) (pc' := 80) (D 42 rfl) (teq (hde 2 (by omega))).1 ?_ (by decide) (by decide)
   refine jW X8 hx (D 43 rfl) ?_ rfl
   refine giconst X8 hx (D 44 rfl) ?_
   by_cases c10 : (3 : Int32) < (iN (hi_ - lo_))
   ·have c10N := (iN_lt (a := 3) (b := hi_ - lo_) (by omega) (by omega)).mp c10
    refine gicmpNo X8 hx (D 45 rfl) (tlt c10).2.2.2 ?_
    refine aN X8 hx (D 46 rfl) ?_ rfl rfl
    refine giconst X8 hx (D 47 rfl) ?_
    refine zV X8 hx hZ hown hw 334 rfl 132 134 133 135 8 (rmCa l hw rb bb kb u n d_ 3 cs fm Z0 Scs hcs Sd Sh Sl Sfm hfm Bs (by omega)) eh8 Bs.1 hml (D 48 rfl) pd40 (W := 0) (rest := []) ?_ rfl rfl rfl rfl rfl (by decide) (lq rfl) rfl rfl rfl
    rintro T11 L11 v11 X11 ⟨rfl, N11q, eh11⟩
    have N11 := Fr.app N8 N11q
    refine aN X11 hx (D 49 rfl) ?_ rfl rfl
    show Gt T11 m 92 _ [(.ref aC), (.int (d_ 3))]
    refine jN X11 hx (D 50 rfl) ?_ rfl
    refine giconst X11 hx (D 51 rfl) ?_
    refine giadd X11 hx (D 52 rfl) ?_
    show Gt T11 m 95 _ [(.int ((iN lo_) + (3 : Int32))), (.ref aC), (.int (d_ 3))]
    rw [show ((iN lo_) + (3 : Int32)) = (iN (lo_ + 3)) from iN_add lo_ 3]
    refine qCa X11 hx hZ eh11 VC ⟨nnN (lo_ + 3) (by omega), ylN (lo_ + 3) 4 (by omega) (by omega) (by omega)⟩ (v := (.int (c_ (lo_ + 3)))) (by rw [iN_nat (a := lo_ + 3) (by omega)]; exact rg_get _ _ (by omega)) (D 53 rfl) ?_
    refine gY X11 hx (pc := 96) (pc' := 101) (D 54 rfl) (teq (hde 3 (by omega))).1 ?_ (by decide) (by decide)
    refine giconst X11 hx (D 55 rfl) ?_
    refine rN X11 hx hret (D 56 rfl) (by decide) hlk ?_ (by simp) (by decide) (by decide)
    rw [eh11]
    exact ⟨rfl, N11, rfl⟩
   ·have c10N : ¬ 3 < (hi_ - lo_) := fun q => c10 ((iN_lt (a := 3) (b := hi_ - lo_) (by omega) (by omega)).mpr q)
    refine gY X8 hx (pc := 83) (pc' := 101) (D 45 rfl) (flt c10).2.2.2 ?_ (by decide) (by decide)
    refine giconst X8 hx (D 55 rfl) ?_
    refine rN X8 hx hret (D 56 rfl) (by decide) hlk ?_ (by simp) (by decide) (by decide)
    rw [eh8]
    exact ⟨rfl, N8, rfl⟩
  ·have c7N : ¬ 2 < (hi_ - lo_) := fun q => c7 ((iN_lt (a := 2) (b := hi_ - lo_) (by omega) (by omega)).mpr q)
   refine gY X5 hx (pc := 62) (pc' := 80) (D 33 rfl) (flt c7).2.2.2 ?_ (by decide) (by decide)
   refine jW X5 hx (D 43 rfl) ?_ rfl
   refine giconst X5 hx (D 44 rfl) ?_
   by_cases c13 : (3 : Int32) < (iN (hi_ - lo_))
   ·have c13N := (iN_lt (a := 3) (b := hi_ - lo_) (by omega) (by omega)).mp c13
    refine gicmpNo X5 hx (D 45 rfl) (tlt c13).2.2.2 ?_
    show Gt T5 m 86 _ []
    refine aN X5 hx (D 46 rfl) ?_ rfl rfl
    refine giconst X5 hx (D 47 rfl) ?_
    refine zV X5 hx hZ hown hw 334 rfl 132 134 133 135 8 (rmCa l hw rb bb kb u n d_ 3 cs fm Z0 Scs hcs Sd Sh Sl Sfm hfm Bs (by omega)) eh5 Bs.1 hml (D 48 rfl) pd40 (W := 0) (rest := []) ?_ rfl rfl rfl rfl rfl (by decide) (lq rfl) rfl rfl rfl
    rintro T14 L14 v14 X14 ⟨rfl, N14q, eh14⟩
    have N14 := Fr.app N5 N14q
    refine aN X14 hx (D 49 rfl) ?_ rfl rfl
    refine jN X14 hx (D 50 rfl) ?_ rfl
    refine giconst X14 hx (D 51 rfl) ?_
    refine giadd X14 hx (D 52 rfl) ?_
    show Gt T14 m 95 _ [(.int ((iN lo_) + (3 : Int32))), (.ref aC), (.int (d_ 3))]
    rw [show ((iN lo_) + (3 : Int32)) = (iN (lo_ + 3)) from iN_add lo_ 3]
    refine qCa X14 hx hZ eh14 VC ⟨nnN (lo_ + 3) (by omega), ylN (lo_ + 3) 4 (by omega) (by omega) (by omega)⟩ (v := (.int (c_ (lo_ + 3)))) (by rw [iN_nat (a := lo_ + 3) (by omega)]; exact rg_get _ _ (by omega)) (D 53 rfl) ?_
    refine gY X14 hx (pc := 96) (pc' := 101) (D 54 rfl) (teq (hde 3 (by omega))).1 ?_ (by decide) (by decide)
    refine giconst X14 hx (D 55 rfl) ?_
    refine rN X14 hx hret (D 56 rfl) (by decide) hlk ?_ (by simp) (by decide) (by decide)
    rw [eh14]
    exact ⟨rfl, N14, rfl⟩
   ·have c13N : ¬ 3 < (hi_ - lo_) := fun q => c13 ((iN_lt (a := 3) (b := hi_ - lo_) (by omega) (by omega)).mpr q)
    refine gY X5 hx (pc := 83) (pc' := 101) (D 45 rfl) (flt c13).2.2.2 ?_ (by decide) (by decide)
    refine giconst X5 hx (D 55 rfl) ?_
    refine rN X5 hx hret (D 56 rfl) (by decide) hlk ?_ (by simp) (by decide) (by decide)
    rw [eh5]
    exact ⟨rfl, N5, rfl⟩
 ·have c4N : ¬ 1 < (hi_ - lo_) := fun q => c4 ((iN_lt (a := 1) (b := hi_ - lo_) (by omega) (by omega)).mpr q)
  refine gY X2 hx (pc := 41) (pc' := 59) (D 21 rfl) (flt c4).2.2.2 ?_ (by decide) (by decide)
  refine jW X2 hx (D 31 rfl) ?_ rfl
  refine giconst X2 hx (D 32 rfl) ?_
  by_cases c16 : (2 : Int32) < (iN (hi_ - lo_))
  ·have c16N := (iN_lt (a := 2) (b := hi_ - lo_) (by omega) (by omega)).mp c16
   refine gicmpNo X2 hx (D 33 rfl) (tlt c16).2.2.2 ?_
   show Gt T2 m 65 _ []
   refine aN X2 hx (D 34 rfl) ?_ rfl rfl
   refine giconst X2 hx (D 35 rfl) ?_
   refine zV X2 hx hZ hown hw 334 rfl 132 134 133 135 8 (rmCa l hw rb bb kb u n d_ 2 cs fm Z0 Scs hcs Sd Sh Sl Sfm hfm Bs (by omega)) eh2 Bs.1 hml (D 36 rfl) pd40 (W := 0) (rest := []) ?_ rfl rfl rfl rfl rfl (by decide) (lq rfl) rfl rfl rfl
   rintro T17 L17 v17 X17 ⟨rfl, N17q, eh17⟩
   have N17 := Fr.app N2 N17q
   refine aN X17 hx (D 37 rfl) ?_ rfl rfl
   refine jN X17 hx (D 38 rfl) ?_ rfl
   refine giconst X17 hx (D 39 rfl) ?_
   refine giadd X17 hx (D 40 rfl) ?_
   show Gt T17 m 74 _ [(.int ((iN lo_) + (2 : Int32))), (.ref aC), (.int (d_ 2))]
   rw [show ((iN lo_) + (2 : Int32)) = (iN (lo_ + 2)) from iN_add lo_ 2]
   refine qCa X17 hx hZ eh17 VC ⟨nnN (lo_ + 2) (by omega), ylN (lo_ + 2) 4 (by omega) (by omega) (by omega)⟩ (v := (.int (c_ (lo_ + 2)))) (by rw [iN_nat (a := lo_ + 2) (by omega)]; exact rg_get _ _ (by omega)) (D 41 rfl) ?_
   refine gY X17 hx (pc := 75) (pc' := 80) (D 42 rfl) (teq (hde 2 (by omega))).1 ?_ (by decide) (by decide)
   refine jW X17 hx (D 43 rfl) ?_ rfl
   refine giconst X17 hx (D 44 rfl) ?_
   by_cases c19 : (3 : Int32) < (iN (hi_ - lo_))
   ·have c19N := (iN_lt (a := 3) (b := hi_ - lo_) (by omega) (by omega)).mp c19
    refine gicmpNo X17 hx (D 45 rfl) (tlt c19).2.2.2 ?_
    refine aN X17 hx (D 46 rfl) ?_ rfl rfl
    refine giconst X17 hx (D 47 rfl) ?_
    refine zV X17 hx hZ hown hw 334 rfl 132 134 133 135 8 (rmCa l hw rb bb kb u n d_ 3 cs fm Z0 Scs hcs Sd Sh Sl Sfm hfm Bs (by omega)) eh17 Bs.1 hml (D 48 rfl) pd40 (W := 0) (rest := []) ?_ rfl rfl rfl rfl rfl (by decide) (lq rfl) rfl rfl rfl
    rintro T20 L20 v20 X20 ⟨rfl, N20q, eh20⟩
    have N20 := Fr.app N17 N20q
    refine aN X20 hx (D 49 rfl) ?_ rfl rfl
    show Gt T20 m 92 _ [(.ref aC), (.int (d_ 3))]
    refine jN X20 hx (D 50 rfl) ?_ rfl
    refine giconst X20 hx (D 51 rfl) ?_
    refine giadd X20 hx (D 52 rfl) ?_
    show Gt T20 m 95 _ [(.int ((iN lo_) + (3 : Int32))), (.ref aC), (.int (d_ 3))]
    rw [show ((iN lo_) + (3 : Int32)) = (iN (lo_ + 3)) from iN_add lo_ 3]
    refine qCa X20 hx hZ eh20 VC ⟨nnN (lo_ + 3) (by omega), ylN (lo_ + 3) 4 (by omega) (by omega) (by omega)⟩ (v := (.int (c_ (lo_ + 3)))) (by rw [iN_nat (a := lo_ + 3) (by omega)]; exact rg_get _ _ (by omega)) (D 53 rfl) ?_
    refine gY X20 hx (pc := 96) (pc' := 101) (D 54 rfl) (teq (hde 3 (by omega))).1 ?_ (by decide) (by decide)
    refine giconst X20 hx (D 55 rfl) ?_
    refine rN X20 hx hret (D 56 rfl) (by decide) hlk ?_ (by simp) (by decide) (by decide)
    rw [eh20]
    exact ⟨rfl, N20, rfl⟩
   ·have c19N : ¬ 3 < (hi_ - lo_) := fun q => c19 ((iN_lt (a := 3) (b := hi_ - lo_) (by omega) (by omega)).mpr q)
    refine gY X17 hx (pc := 83) (pc' := 101) (D 45 rfl) (flt c19).2.2.2 ?_ (by decide) (by decide)
    refine giconst X17 hx (D 55 rfl) ?_
    refine rN X17 hx hret (D 56 rfl) (by decide) hlk ?_ (by simp) (by decide) (by decide)
    rw [eh17]
    exact ⟨rfl, N17, rfl⟩
  ·have c16N : ¬ 2 < (hi_ - lo_) := fun q => c16 ((iN_lt (a := 2) (b := hi_ - lo_) (by omega) (by omega)).mpr q)
   refine gY X2 hx (pc := 62) (pc' := 80) (D 33 rfl) (flt c16).2.2.2 ?_ (by decide) (by decide)
   refine jW X2 hx (D 43 rfl) ?_ rfl
   refine giconst X2 hx (D 44 rfl) ?_
   by_cases c22 : (3 : Int32) < (iN (hi_ - lo_))
   ·have c22N := (iN_lt (a := 3) (b := hi_ - lo_) (by omega) (by omega)).mp c22
    refine gicmpNo X2 hx (D 45 rfl) (tlt c22).2.2.2 ?_
    show Gt T2 m 86 _ []
    refine aN X2 hx (D 46 rfl) ?_ rfl rfl
    refine giconst X2 hx (D 47 rfl) ?_
    refine zV X2 hx hZ hown hw 334 rfl 132 134 133 135 8 (rmCa l hw rb bb kb u n d_ 3 cs fm Z0 Scs hcs Sd Sh Sl Sfm hfm Bs (by omega)) eh2 Bs.1 hml (D 48 rfl) pd40 (W := 0) (rest := []) ?_ rfl rfl rfl rfl rfl (by decide) (lq rfl) rfl rfl rfl
    rintro T23 L23 v23 X23 ⟨rfl, N23q, eh23⟩
    have N23 := Fr.app N2 N23q
    refine aN X23 hx (D 49 rfl) ?_ rfl rfl
    refine jN X23 hx (D 50 rfl) ?_ rfl
    refine giconst X23 hx (D 51 rfl) ?_
    refine giadd X23 hx (D 52 rfl) ?_
    show Gt T23 m 95 _ [(.int ((iN lo_) + (3 : Int32))), (.ref aC), (.int (d_ 3))]
    rw [show ((iN lo_) + (3 : Int32)) = (iN (lo_ + 3)) from iN_add lo_ 3]
    refine qCa X23 hx hZ eh23 VC ⟨nnN (lo_ + 3) (by omega), ylN (lo_ + 3) 4 (by omega) (by omega) (by omega)⟩ (v := (.int (c_ (lo_ + 3)))) (by rw [iN_nat (a := lo_ + 3) (by omega)]; exact rg_get _ _ (by omega)) (D 53 rfl) ?_
    refine gY X23 hx (pc := 96) (pc' := 101) (D 54 rfl) (teq (hde 3 (by omega))).1 ?_ (by decide) (by decide)
    refine giconst X23 hx (D 55 rfl) ?_
    refine rN X23 hx hret (D 56 rfl) (by decide) hlk ?_ (by simp) (by decide) (by decide)
    rw [eh23]
    exact ⟨rfl, N23, rfl⟩
   ·have c22N : ¬ 3 < (hi_ - lo_) := fun q => c22 ((iN_lt (a := 3) (b := hi_ - lo_) (by omega) (by omega)).mpr q)
    refine gY X2 hx (pc := 83) (pc' := 101) (D 45 rfl) (flt c22).2.2.2 ?_ (by decide) (by decide)
    refine giconst X2 hx (D 55 rfl) ?_
    refine rN X2 hx hret (D 56 rfl) (by decide) hlk ?_ (by simp) (by decide) (by decide)
    rw [eh2]
    exact ⟨rfl, N2, rfl⟩
theorem Dj44_3 : ∀ q ∈ ([(0, .aload_n 0, 1), (1, .getfield 24, 3), (4, .getstatic 19, 3), (7, .if_acmp .eq 7, 3), (10, .iconst 2, 1), (11, .goto 4, 3), (14, .iconst 1, 1), (15, .ireturn, 1)] : List (Nat × Instr × Nat)), decode jdk_44_method_3_code q.1 = .ok (q.2.1, q.2.2) := by decide +kernel
def QZs1 (Z : State) (a eM : Addr) (h0 : Heap) (n0 : Nat) (v : Option Value) (h : Heap) (L : List Loc) : Prop := v = some (.int 1) ∧ Fr n0 L ∧ h = h0
theorem rmZs1 (hw : HW a0 Z) (a eM : Addr) (Z0 : n0 ≤ h0.size) (F1 : F_6 Z h0 a (.ref eM)) (Sem : S_7 Z h0 (.ref eM)) :
  QMg l Z mN68 jdk_44_method_3_code 1 (some .int) ws (rM 0 0 0 0) #[(.ref a)] h0 (QZs1 Z a eM h0 n0) := by
 refine bodyN (pfn pn12) (Ls := #[rv a]) (fun _ => rfl) ?_
 intro p e s m below meth c s₁ hx hby hlk hret hml hown hnm hZ hh X0 e0
 have D := @db _ _ _ hby Dj44_3
 show Gt s₁ m 0 _ []
 refine aN X0 hx (D 0 rfl) ?_ rfl rfl
 refine qGF X0 hx hZ hown (hw 311 rfl) Via.refl e0 F1 (D 1 rfl) ?_
 intro T1 X1 e1
 obtain ⟨T2, X2, e2, st2⟩ := getS2 X1 hx hZ hown (Or.inr (hw 310 rfl)) Via.refl e1 Sem (g := (mkF m 4 #[rv a] [(.ref eM)])) rfl (D 2 rfl)
 refine Goes.st st2 ?_
 show Gt T2 m 7 #[rv a] [(.ref eM), (.ref eM)]
 refine Goes.st (fun tg kg => XT.acmpYes X2.here hx rfl (pc0 := 7) (pc' := 14) rfl (D 3 rfl) rfl rfl rfl (XT.aa_eq_t (rfl : ((.ref eM) : Value) = (.ref eM))) (by decide) (by decide) kg) ?_
 refine giconst X2 hx (D 6 rfl) ?_
 refine rI X2 hx hret (D 7 rfl) hlk ?_ (by decide) (by decide)
 rw [e2]
 exact ⟨rfl, (Fr.nil n0), rfl⟩
def QZs2 (Z : State) (a eM j1 : Addr) (h0 : Heap) (n0 : Nat) (v : Option Value) (h : Heap) (L : List Loc) : Prop := v = some (.int 2) ∧ Fr n0 L ∧ h = h0
theorem rmZs2 (hw : HW a0 Z) (a eM j1 : Addr) (Z0 : n0 ≤ h0.size) (F1 : F_6 Z h0 a (.ref j1)) (Sem : S_7 Z h0 (.ref eM)) (nje : j1 ≠ eM) :
  QMg l Z mN68 jdk_44_method_3_code 1 (some .int) ws (rM 0 0 0 0) #[(.ref a)] h0 (QZs2 Z a eM j1 h0 n0) := by
 refine bodyN (pfn pn12) (Ls := #[rv a]) (fun _ => rfl) ?_
 intro p e s m below meth c s₁ hx hby hlk hret hml hown hnm hZ hh X0 e0
 have D := @db _ _ _ hby Dj44_3
 show Gt s₁ m 0 _ []
 refine aN X0 hx (D 0 rfl) ?_ rfl rfl
 refine qGF X0 hx hZ hown (hw 311 rfl) Via.refl e0 F1 (D 1 rfl) ?_
 intro T1 X1 e1
 obtain ⟨T2, X2, e2, st2⟩ := getS2 X1 hx hZ hown (Or.inr (hw 310 rfl)) Via.refl e1 Sem (g := (mkF m 4 #[rv a] [(.ref j1)])) rfl (D 2 rfl)
 refine Goes.st st2 ?_
 show Gt T2 m 7 #[rv a] [(.ref eM), (.ref j1)]
 refine Goes.st (fun tg kg => XT.acmpNo X2.here hx rfl (D 3 rfl) rfl rfl rfl (XT.aa_eq_f (fun q => nje (Value.ref.inj q))) kg) ?_
 refine giconst X2 hx (D 4 rfl) ?_
 refine gG X2 hx (pc := 11) (pc' := 15) (D 5 rfl) ?_ (by decide) (by decide)
 refine rI X2 hx hret (D 7 rfl) hlk ?_ (by decide) (by decide)
 rw [e2]
 exact ⟨rfl, (Fr.nil n0), rfl⟩
theorem Dj44_5 : ∀ q ∈ ([(0, .iload_n 1, 1), (1, .ifCond .ne 8, 3), (4, .aload_n 0, 1), (5, .getfield 13, 3), (8, .areturn, 1), (9, .iload_n 1, 1), (10, .iconst 1, 1), (11, .if_icmp .ne 18, 3), (14, .aload_n 0, 1), (15, .getfield 24, 3), (18, .getstatic 19, 3), (21, .if_acmp .eq 8, 3), (24, .aload_n 0, 1), (25, .getfield 24, 3), (28, .areturn, 1)] : List (Nat × Instr × Nat)), decode jdk_44_method_5_code q.1 = .ok (q.2.1, q.2.2) := by decide +kernel
def QGe0 (Z : State) (a j0 : Addr) (h0 : Heap) (n0 : Nat) (v : Option Value) (h : Heap) (L : List Loc) : Prop := v = some (.ref j0) ∧ Fr n0 L ∧ h = h0
theorem rmGe0 (hw : HW a0 Z) (a j0 : Addr) (Z0 : n0 ≤ h0.size) (F0 : F_5 Z h0 a (.ref j0)) :
  QMg l Z mN69 jdk_44_method_5_code 2 (some (.object "java/lang/Object")) ws (rM 0 0 0 0) #[(.ref a), (.int 0)] h0 (QGe0 Z a j0 h0 n0) := by
 refine bodyN (pfn pn12) (Ls := #[rv a, iv 0]) (fun _ => rfl) ?_
 intro p e s m below meth c s₁ hx hby hlk hret hml hown hnm hZ hh X0 e0
 have D := @db _ _ _ hby Dj44_5
 show Gt s₁ m 0 _ []
 refine jN X0 hx (D 0 rfl) ?_ rfl
 refine gifNo X0 hx (D 1 rfl) (by decide) ?_
 refine aN X0 hx (D 2 rfl) ?_ rfl rfl
 refine qGF X0 hx hZ hown (hw 308 rfl) Via.refl e0 F0 (D 3 rfl) ?_
 intro T1 X1 e1
 refine rA X1 hx hret (D 4 rfl) hlk ?_ rfl rfl rfl (by decide) (by decide)
 rw [e1]
 exact ⟨rfl, (Fr.nil n0), rfl⟩
def QGe1 (Z : State) (a eM j1 : Addr) (h0 : Heap) (n0 : Nat) (v : Option Value) (h : Heap) (L : List Loc) : Prop := v = some (.ref j1) ∧ Fr n0 L ∧ h = h0
theorem rmGe1 (hw : HW a0 Z) (a eM j1 : Addr) (Z0 : n0 ≤ h0.size) (F1 : F_6 Z h0 a (.ref j1)) (Sem : S_7 Z h0 (.ref eM)) (nje : j1 ≠ eM) :
  QMg l Z mN69 jdk_44_method_5_code 2 (some (.object "java/lang/Object")) ws (rM 0 0 0 0) #[(.ref a), (.int 1)] h0 (QGe1 Z a eM j1 h0 n0) := by
 refine bodyN (pfn pn12) (Ls := #[rv a, iv 1]) (fun _ => rfl) ?_
 intro p e s m below meth c s₁ hx hby hlk hret hml hown hnm hZ hh X0 e0
 have D := @db _ _ _ hby Dj44_5
 show Gt s₁ m 0 _ []
 refine jN X0 hx (D 0 rfl) ?_ rfl
 refine gT X0 hx (pc := 1) (pc' := 9) (D 1 rfl) (by decide) ?_ (by decide) (by decide)
 refine jN X0 hx (D 5 rfl) ?_ rfl
 refine giconst X0 hx (D 6 rfl) ?_
 refine gicmpNo X0 hx (D 7 rfl) (by decide) ?_
 refine aN X0 hx (D 8 rfl) ?_ rfl rfl
 refine qGF X0 hx hZ hown (hw 311 rfl) Via.refl e0 F1 (D 9 rfl) ?_
 intro T1 X1 e1
 obtain ⟨T2, X2, e2, st2⟩ := getS2 X1 hx hZ hown (Or.inr (hw 310 rfl)) Via.refl e1 Sem (g := (mkF m 18 #[rv a, iv 1] [(.ref j1)])) rfl (D 10 rfl)
 refine Goes.st st2 ?_
 show Gt T2 m 21 #[rv a, iv 1] [(.ref eM), (.ref j1)]
 refine Goes.st (fun tg kg => XT.acmpNo X2.here hx rfl (D 11 rfl) rfl rfl rfl (XT.aa_eq_f (fun q => nje (Value.ref.inj q))) kg) ?_
 refine aN X2 hx (D 12 rfl) ?_ rfl rfl
 refine qGF X2 hx hZ hown (hw 311 rfl) Via.refl e2 F1 (D 13 rfl) ?_
 intro T3 X3 e3
 refine rA X3 hx hret (D 14 rfl) hlk ?_ rfl rfl rfl (by decide) (by decide)
 rw [e3]
 exact ⟨rfl, (Fr.nil n0), rfl⟩
theorem Dj45_3 : ∀ q ∈ ([(0, .aload_n 0, 1), (1, .getfield 7, 3), (4, .arraylength, 1), (5, .ireturn, 1)] : List (Nat × Instr × Nat)), decode jdk_45_method_3_code q.1 = .ok (q.2.1, q.2.2) := by decide +kernel
theorem pn16 : plainName "java/util/ImmutableCollections$ListN" = true := by first | (simp [plainName, overriddenIn]; done) | decide +kernel
def QZn (Z : State) (eL eA : Addr) (kA : ClassId) (h0 : Heap) (n0 : Nat) (v : Option Value) (h : Heap) (L : List Loc) : Prop := v = some (.int 0) ∧ Fr n0 L ∧ h = h0
theorem rmZn (hw : HW a0 Z) (eL eA : Addr) (kA : ClassId) (Z0 : n0 ≤ h0.size) (Fl : F_7 Z h0 eL (.ref eA)) (Aa : Arv Z h0 eA kA (.object "java/lang/Object") 0 [] .null) :
  QMg l Z mN70 jdk_45_method_3_code 1 (some .int) ws (rM 0 0 0 0) #[(.ref eL)] h0 (QZn Z eL eA kA h0 n0) := by
 refine bodyN (pfn pn16) (Ls := #[rv eL]) (fun _ => rfl) ?_
 intro p e s m below meth c s₁ hx hby hlk hret hml hown hnm hZ hh X0 e0
 have D := @db _ _ _ hby Dj45_3
 show Gt s₁ m 0 _ []
 refine aN X0 hx (D 0 rfl) ?_ rfl rfl
 refine qGF X0 hx hZ hown (hw 62 rfl) Via.refl e0 Fl (D 1 rfl) ?_
 intro T1 X1 e1
 refine qAL X1 hx hZ e1 Aa (D 2 rfl) ?_
 refine rI X1 hx hret (D 3 rfl) hlk ?_ (by decide) (by decide)
 rw [e1]
 exact ⟨rfl, (Fr.nil n0), rfl⟩
theorem fk_le {c : Nat → Int32} {a b : Nat} (h : a ≤ b) : fk c a b ≤ b := by
 unfold fk
 split
 ·omega
 ·split
  ·omega
  ·split
   ·omega
   ·split <;> omega
theorem lk_le {c : Nat → Int32} {lo b : Nat} (h : lo ≤ b) : lk c lo b ≤ b := by
 unfold lk
 split
 ·omega
 ·split
  ·omega
  ·split
   ·omega
   ·split
    ·omega
    ·split <;> omega
theorem sp_pre {c : Nat → Int32} {n i : Nat} : ∀ d, ∃ R, (sp c n (i + d)).2 = (sp c n i).2 ++ R
 | 0 => ⟨[], by simp⟩
 | d + 1 => by
  obtain ⟨R, e⟩ := sp_pre (c := c) (n := n) (i := i) d
  rw [show i + (d + 1) = i + d + 1 by omega, sp]
  by_cases q : i + d = n ∨ sp? (c (i + d)) = true
  ·rw [if_pos q]
   dsimp only
   split
   ·exact ⟨R ++ [(_, _)], by rw [e, List.append_assoc]⟩
   ·exact ⟨R, e⟩
  ·rw [if_neg q]; exact ⟨R, e⟩
theorem sp_add {c : Nat → Int32} {n i s : Nat} {M : List (Nat × Nat)} (h : sp c n i = (s, M)) (q : i = n ∨ sp? (c i) = true) (hl : fk c s i < lk c (fk c s i) i) : sp c n (i + 1) = (i + 1, M ++ [(fk c s i, lk c (fk c s i) i)]) := by
 rw [sp, if_pos q, h]
 show (i + 1, if fk c s i < lk c (fk c s i) i then M ++ [(fk c s i, lk c (fk c s i) i)] else M) = _
 rw [if_pos hl]
theorem sp_nil {c : Nat → Int32} {n i s : Nat} {M : List (Nat × Nat)} (h : sp c n i = (s, M)) (q : i = n ∨ sp? (c i) = true) (hl : ¬ fk c s i < lk c (fk c s i) i) : sp c n (i + 1) = (i + 1, M) := by
 rw [sp, if_pos q, h]
 show (i + 1, if fk c s i < lk c (fk c s i) i then M ++ [(fk c s i, lk c (fk c s i) i)] else M) = _
 rw [if_neg hl]
theorem sp_hit {c : Nat → Int32} {n i s : Nat} {M F : List (Nat × Nat)} (h : sp c n i = (s, M)) (q : i = n ∨ sp? (c i) = true) (hin : i ≤ n) (hl : fk c s i < lk c (fk c s i) i) (hF : (sp c n (n + 1)).2 = F) : F[M.length]? = some (fk c s i, lk c (fk c s i) i) := by
 obtain ⟨R, e⟩ := sp_pre (c := c) (n := n) (i := i + 1) (n - i)
 rw [show i + 1 + (n - i) = n + 1 by omega, sp_add h q hl, hF] at e
 rw [e]; simp
theorem hit1 {p q : Nat × Nat} {k : Nat} (e : [p][k]? = some q) : k = 0 ∧ p.1 = q.1 ∧ p.2 = q.2 := by
 match k, e with
 | 0, e => cases e; exact ⟨rfl, rfl, rfl⟩
theorem hit2 {p p' q : Nat × Nat} {k : Nat} (e : [p, p'][k]? = some q) : (k = 0 ∧ p.1 = q.1 ∧ p.2 = q.2) ∨ (k = 1 ∧ p'.1 = q.1 ∧ p'.2 = q.2) := by
 match k, e with
 | 0, e => cases e; exact Or.inl ⟨rfl, rfl, rfl⟩
 | 1, e => cases e; exact Or.inr ⟨rfl, rfl, rfl⟩
theorem spm {c : Nat → Int32} {n i s : Nat} {M : List (Nat × Nat)} (h : sp c n (min i (n + 1)) = (s, M)) (q : i ≤ n) : sp c n i = (s, M) := by rwa [Nat.min_eq_left (by omega)] at h
theorem spm1 {c : Nat → Int32} {n i s : Nat} {M : List (Nat × Nat)} (h : sp c n (i + 1) = (s, M)) (q : i ≤ n) : sp c n (min (i + 1) (n + 1)) = (s, M) := by rwa [Nat.min_eq_left (by omega)]
theorem spm2 {c : Nat → Int32} {n i s : Nat} {M : List (Nat × Nat)} (h : sp c n (min i (n + 1)) = (s, M)) (q : n < i) : sp c n (min (i + 1) (n + 1)) = (s, M) := by
 rw [Nat.min_eq_right (by omega)] at h ⊢; exact h
theorem Dmethod_7 : ∀ q ∈ ([(0, .iload_n 3, 1), (1, .iload_n 2, 1), (2, .if_icmp .le 4, 3), (5, .return_, 1), (6, .iload_n 3, 1), (7, .iload_n 2, 1), (8, .if_icmp .eq 12, 3), (11, .aload_n 1, 1), (12, .iload_n 3, 1), (13, .caload, 1), (14, .invokestatic 17, 3), (17, .ifCond .eq 89, 3), (20, .aload_n 1, 1), (21, .aload 4, 2), (23, .iconst 0, 1), (24, .iaload, 1), (25, .iload_n 3, 1), (26, .invokestatic 23, 3), (29, .istore 5, 2), (31, .aload_n 1, 1), (32, .iload 5, 2), (34, .iload_n 3, 1), (35, .invokestatic 27, 3), (38, .istore 6, 2), (40, .iload 5, 2), (42, .iload 6, 2), (44, .if_icmp .ge 55, 3), (47, .aload 4, 2), (49, .iconst 1, 1), (50, .iaload, 1), (51, .aload_n 0, 1), (52, .invokeinterface 30 1, 5), (57, .if_icmp .ge 27, 3), (60, .aload_n 0, 1), (61, .aload 4, 2), (63, .iconst 1, 1), (64, .iaload, 1), (65, .invokeinterface 35 2, 5), (70, .checkcast 8, 3), (73, .aload_n 1, 1), (74, .iload 5, 2), (76, .iload 6, 2), (78, .invokestatic 39, 3), (81, .ifCond .ne 8, 3), (89, .aload 4, 2), (91, .iconst 1, 1), (92, .aload 4, 2), (94, .iconst 1, 1), (95, .iaload, 1), (96, .iconst 1, 1), (97, .iadd, 1), (98, .iastore, 1), (99, .aload 4, 2), (101, .iconst 0, 1), (102, .iload_n 3, 1), (103, .iconst 1, 1), (104, .iadd, 1), (105, .iastore, 1), (106, .return_, 1)] : List (Nat × Instr × Nat)), decode method_7_code q.1 = .ok (q.2.1, q.2.2) := by decide +kernel
theorem pd43 : parseMethodDescriptor "([CII)I" = some ⟨[(.array .char), .int, .int], some .int⟩ := by decide +kernel
def QSq0 (Z : State) (r : Addr) (aC : Addr) (kC : ClassId) (c_ : Nat → Int32) (n i_ : Nat) (aS : Addr) (kS : ClassId) (s_ k_ : Nat) (M : List (Nat × Nat)) (cs : Int32) (fm : Value) (eL eM eA : Addr) (kA : ClassId) (h0 : Heap) (n0 : Nat) (v : Option Value) (h : Heap) (L : List Loc) : Prop := ∃ (s' k' : Nat) (M' : List (Nat × Nat)), v = none ∧ Fr n0 L ∧ Keep h0 h [aS] ∧ Arv Z h aS kS .int 3 [(.int (iN s')), (.int (iN k')), (.int 1)] (.int 0) ∧ sp c_ n (min (i_ + 1) (n + 1)) = (s', M') ∧ M'.length = k'
theorem rmSq0 (hw : HW a0 Z) (r : Addr) (aC : Addr) (kC : ClassId) (c_ : Nat → Int32) (n i_ : Nat) (aS : Addr) (kS : ClassId) (s_ k_ : Nat) (M : List (Nat × Nat)) (cs : Int32) (fm : Value) (eL eM eA : Addr) (kA : ClassId) (Z0 : n0 ≤ h0.size) (Scs : S_0 Z h0 (.int cs)) (hcs : ¬ cs = (0 : Int32)) (Sd : S_2 Z h0 (.int 1)) (Sh : S_3 Z h0 (.int 0)) (Sl : S_4 Z h0 (.int 8)) (Sfm : S_1 Z h0 fm) (hfm : fm.isRef = true) (VC : Arv Z h0 aC kC .char 4 (rg 4 (fun i => .int (c_ i))) (.int 0)) (VS : Arv Z h0 aS kS .int 3 [(.int (iN s_)), (.int (iN k_)), (.int 1)] (.int 0)) (gS : n0 ≤ aS) (Er : X_4 Z h0 r) (Fl : F_7 Z h0 r (.ref eA)) (Aa : Arv Z h0 eA kA (.object "java/lang/Object") 0 [] .null) (hn4 : n ≤ 4) (hi4 : i_ ≤ 4) (hsp : sp c_ n (min i_ (n + 1)) = (s_, M)) (hMk : M.length = k_) (hF : (sp c_ n (n + 1)).2 = []) :
  QMg l Z mN71 method_7_code 7 none ws (rM 1 0 0 14) #[(.ref r), (.ref aC), (.int (iN n)), (.int (iN i_)), (.ref aS)] h0 (QSq0 Z r aC kC c_ n i_ aS kS s_ k_ M cs fm eL eM eA kA h0 n0) := by
 refine bodyN (pfn pn15) (Ls := #[rv r, rv aC, iv (iN n), iv (iN i_), rv aS, .unset, .unset]) (fun _ => rfl) ?_
 intro p e s m below meth c s₁ hx hby hlk hret hml hown hnm hZ hh X0 e0
 have D := @db _ _ _ hby Dmethod_7
 have N0 := Fr.nil n0
 have K0 : Keep h0 h0 [aS] := Keep.refl _ _
 show Gt s₁ m 0 _ []
 rcases Nat.lt_or_ge n i_ with cX | cX
 ·refine jN X0 hx (D 0 rfl) ?_ rfl
  refine jN X0 hx (D 1 rfl) ?_ rfl
  refine gicmpNo X0 hx (D 2 rfl) (tlt (ylN n i_ (by omega) (by omega) (by omega))).2.2.2 ?_
  refine rV X0 hx hret (D 3 rfl) hlk ?_ (by decide) (by decide)
  rw [e0]
  exact ⟨s_, k_, _, rfl, N0, K0, VS, spm2 hsp cX, hMk⟩
 ·have hs1 := spm hsp cX
  have hst := sp_st hs1
  have hf1 : fk c_ s_ i_ ≤ i_ := fk_le hst
  have hf2 : lk c_ (fk c_ s_ i_) i_ ≤ i_ := lk_le hf1
  show Gt s₁ m 0 _ []
  rcases Nat.decEq i_ n with cI | cI
  ·refine jN X0 hx (D 0 rfl) ?_ rfl
   refine jN X0 hx (D 1 rfl) ?_ rfl
   refine gY X0 hx (pc := 2) (pc' := 6) (D 2 rfl) (flt (nlN n i_ (by omega) (by omega) (by omega))).2.2.2 ?_ (by decide) (by decide)
   refine jN X0 hx (D 4 rfl) ?_ rfl
   refine jN X0 hx (D 5 rfl) ?_ rfl
   refine gicmpNo X0 hx (D 6 rfl) (feq (neN i_ n (by omega) (by omega) (by omega))).1 ?_
   refine aN X0 hx (D 7 rfl) ?_ rfl rfl
   refine jN X0 hx (D 8 rfl) ?_ rfl
   refine qCa X0 hx hZ e0 VC ⟨nnN i_ (by omega), ylN i_ 4 (by omega) (by omega) (by omega)⟩ (v := (.int (c_ i_))) (by rw [iN_nat (a := i_) (by omega)]; exact rg_get _ _ (by omega)) (D 9 rfl) ?_
   show Gt s₁ m 14 _ [(.int (c_ i_))]
   rcases (Bool.eq_false_or_eq_true (sp? (c_ i_))) with cS | cS
   ·have hq : i_ = n ∨ sp? (c_ i_) = true := Or.inr cS
    refine zS X0 hx hZ hown hw 313 314 315 4 (rmLs1 l hw (c_ i_) Z0 cS) e0 hml (D 10 rfl) pd41 (W := 0) (rest := []) ?_ rfl rfl rfl rfl (by decide) (lq rfl) rfl rfl rfl
    rintro T2 L2 v2 X2 ⟨rfl, N2q, eh2⟩
    have N2 := Fr.app N0 N2q
    refine gifNo X2 hx (D 11 rfl) (by decide) ?_
    show Gt T2 m 20 _ []
    refine aN X2 hx (D 12 rfl) ?_ rfl rfl
    refine aW X2 hx (D 13 rfl) ?_ rfl rfl
    refine giconst X2 hx (D 14 rfl) ?_
    refine qIa X2 hx hZ eh2 VS ⟨by decide, by decide⟩ (v := (.int (iN s_))) rfl (D 15 rfl) ?_
    refine jN X2 hx (D 16 rfl) ?_ rfl
    refine zS X2 hx hZ hown hw 46 47 48 4 (rmFk l hw aC kC c_ s_ i_ Z0 VC (by omega) (by omega)) eh2 hml (D 17 rfl) pd43 (W := 0) (rest := []) ?_ rfl rfl rfl rfl (by decide) (lq rfl) rfl rfl rfl
    rintro T4 L4 v4 X4 ⟨rfl, N4q, eh4⟩
    have N4 := Fr.app N2 N4q
    refine gistore X4 hx (D 18 rfl) (l' := #[rv r, rv aC, iv (iN n), iv (iN i_), rv aS, iv (iN (fk c_ s_ i_)), .unset]) rfl ?_
    refine aN X4 hx (D 19 rfl) ?_ rfl rfl
    refine jW X4 hx (D 20 rfl) ?_ rfl
    show Gt T4 m 34 _ [(.int (iN (fk c_ s_ i_))), (.ref aC)]
    refine jN X4 hx (D 21 rfl) ?_ rfl
    refine zS X4 hx hZ hown hw 49 50 51 4 (rmLk l hw aC kC c_ (fk c_ s_ i_) i_ Z0 VC (by omega) hf1) eh4 hml (D 22 rfl) pd43 (W := 0) (rest := []) ?_ rfl rfl rfl rfl (by decide) (lq rfl) rfl rfl rfl
    rintro T5 L5 v5 X5 ⟨rfl, N5q, eh5⟩
    have N5 := Fr.app N4 N5q
    refine gistore X5 hx (D 23 rfl) (l' := #[rv r, rv aC, iv (iN n), iv (iN i_), rv aS, iv (iN (fk c_ s_ i_)), iv (iN (lk c_ (fk c_ s_ i_) i_))]) rfl ?_
    refine jW X5 hx (D 24 rfl) ?_ rfl
    refine jW X5 hx (D 25 rfl) ?_ rfl
    show Gt T5 m 44 _ [(.int (iN (lk c_ (fk c_ s_ i_) i_))), (.int (iN (fk c_ s_ i_)))]
    rcases Nat.lt_or_ge (fk c_ s_ i_) (lk c_ (fk c_ s_ i_) i_) with cLT | cLE
    ·have hit := sp_hit hs1 hq cX cLT hF
     rw [hMk] at hit
     cases hit
    ·have cLN := Nat.not_lt.mpr cLE
     refine gY X5 hx (pc := 44) (pc' := 99) (D 26 rfl) (flt (nlN (fk c_ s_ i_) (lk c_ (fk c_ s_ i_) i_) (by omega) (by omega) (by omega))).2.1 ?_ (by decide) (by decide)
     refine aW X5 hx (D 52 rfl) ?_ rfl rfl
     refine giconst X5 hx (D 53 rfl) ?_
     refine jN X5 hx (D 54 rfl) ?_ rfl
     refine giconst X5 hx (D 55 rfl) ?_
     refine giadd X5 hx (D 56 rfl) ?_
     show Gt T5 m 105 _ [(.int ((iN i_) + (1 : Int32))), (.int 0), (.ref aS)]
     rw [show ((iN i_) + (1 : Int32)) = (iN (i_ + 1)) from iN_add i_ 1]
     obtain ⟨cl6, Ar6, qk6, Sz6, qz6, Ha6, Gf6⟩ := id VS
     obtain ⟨T6, h6, X6, e6, W6, st6⟩ := stI X5 hx hZ eh5 Ar6 (inb_of Sz6 ⟨by decide, by decide⟩) (g := (mkF m 105 #[rv r, rv aC, iv (iN n), iv (iN i_), rv aS, iv (iN (fk c_ s_ i_)), iv (iN (lk c_ (fk c_ s_ i_) i_))] [(.int (iN (i_ + 1))), (.int 0), (.ref aS)])) rfl rfl (D 57 rfl)
     have N6 := Fr.snoc X6 N5 gS
     have V6 : Arv Z h6 aS kS .int 3 [(.int (iN (i_ + 1))), (.int (iN k_)), (.int 1)] (.int 0) := (Arv.set Ar6 qk6 Sz6 qz6 Ha6 Gf6 rfl W6 0 (by decide) (by simp))
     refine Goes.st st6 ?_
     have KK7 := K0.wr W6 (Or.inl (mI 0 rfl))
     have Z6 : n0 ≤ h6.size := by have := W6.size; have := Z0; omega
     refine rV X6 hx hret (D 58 rfl) hlk ?_ (by decide) (by decide)
     rw [e6]
     exact ⟨(i_ + 1), k_, _, rfl, N6, KK7, V6, spm1 (sp_nil hs1 hq cLN) cX, hMk⟩
   ·refine zS X0 hx hZ hown hw 313 314 315 4 (rmLs0 l hw (c_ i_) Z0 cS) e0 hml (D 10 rfl) pd41 (W := 0) (rest := []) ?_ rfl rfl rfl rfl (by decide) (lq rfl) rfl rfl rfl
    rintro T8 L8 v8 X8 ⟨rfl, N8q, eh8⟩
    have N8 := Fr.app N0 N8q
    refine gT X8 hx (pc := 17) (pc' := 106) (D 11 rfl) (by decide) ?_ (by decide) (by decide)
    refine rV X8 hx hret (D 58 rfl) hlk ?_ (by decide) (by decide)
    rw [eh8]
    exact ⟨s_, k_, _, rfl, N8, K0, VS, spm1 (sp_skip hs1 (by omega) cS) cX, hMk⟩
  ·have hq : i_ = n ∨ sp? (c_ i_) = true := Or.inl cI
   refine jN X0 hx (D 0 rfl) ?_ rfl
   refine jN X0 hx (D 1 rfl) ?_ rfl
   refine gY X0 hx (pc := 2) (pc' := 6) (D 2 rfl) (flt (nlN n i_ (by omega) (by omega) (by omega))).2.2.2 ?_ (by decide) (by decide)
   refine jN X0 hx (D 4 rfl) ?_ rfl
   refine jN X0 hx (D 5 rfl) ?_ rfl
   refine gY X0 hx (pc := 8) (pc' := 20) (D 6 rfl) (teq (yeN i_ n (by omega) (by omega) (by omega))).1 ?_ (by decide) (by decide)
   show Gt s₁ m 20 _ []
   refine aN X0 hx (D 12 rfl) ?_ rfl rfl
   refine aW X0 hx (D 13 rfl) ?_ rfl rfl
   refine giconst X0 hx (D 14 rfl) ?_
   refine qIa X0 hx hZ e0 VS ⟨by decide, by decide⟩ (v := (.int (iN s_))) rfl (D 15 rfl) ?_
   refine jN X0 hx (D 16 rfl) ?_ rfl
   refine zS X0 hx hZ hown hw 46 47 48 4 (rmFk l hw aC kC c_ s_ i_ Z0 VC (by omega) (by omega)) e0 hml (D 17 rfl) pd43 (W := 0) (rest := []) ?_ rfl rfl rfl rfl (by decide) (lq rfl) rfl rfl rfl
   rintro T10 L10 v10 X10 ⟨rfl, N10q, eh10⟩
   have N10 := Fr.app N0 N10q
   refine gistore X10 hx (D 18 rfl) (l' := #[rv r, rv aC, iv (iN n), iv (iN i_), rv aS, iv (iN (fk c_ s_ i_)), .unset]) rfl ?_
   refine aN X10 hx (D 19 rfl) ?_ rfl rfl
   refine jW X10 hx (D 20 rfl) ?_ rfl
   show Gt T10 m 34 _ [(.int (iN (fk c_ s_ i_))), (.ref aC)]
   refine jN X10 hx (D 21 rfl) ?_ rfl
   refine zS X10 hx hZ hown hw 49 50 51 4 (rmLk l hw aC kC c_ (fk c_ s_ i_) i_ Z0 VC (by omega) hf1) eh10 hml (D 22 rfl) pd43 (W := 0) (rest := []) ?_ rfl rfl rfl rfl (by decide) (lq rfl) rfl rfl rfl
   rintro T11 L11 v11 X11 ⟨rfl, N11q, eh11⟩
   have N11 := Fr.app N10 N11q
   refine gistore X11 hx (D 23 rfl) (l' := #[rv r, rv aC, iv (iN n), iv (iN i_), rv aS, iv (iN (fk c_ s_ i_)), iv (iN (lk c_ (fk c_ s_ i_) i_))]) rfl ?_
   refine jW X11 hx (D 24 rfl) ?_ rfl
   refine jW X11 hx (D 25 rfl) ?_ rfl
   show Gt T11 m 44 _ [(.int (iN (lk c_ (fk c_ s_ i_) i_))), (.int (iN (fk c_ s_ i_)))]
   rcases Nat.lt_or_ge (fk c_ s_ i_) (lk c_ (fk c_ s_ i_) i_) with cLT | cLE
   ·have hit := sp_hit hs1 hq cX cLT hF
    rw [hMk] at hit
    cases hit
   ·have cLN := Nat.not_lt.mpr cLE
    refine gY X11 hx (pc := 44) (pc' := 99) (D 26 rfl) (flt (nlN (fk c_ s_ i_) (lk c_ (fk c_ s_ i_) i_) (by omega) (by omega) (by omega))).2.1 ?_ (by decide) (by decide)
    refine aW X11 hx (D 52 rfl) ?_ rfl rfl
    refine giconst X11 hx (D 53 rfl) ?_
    refine jN X11 hx (D 54 rfl) ?_ rfl
    refine giconst X11 hx (D 55 rfl) ?_
    refine giadd X11 hx (D 56 rfl) ?_
    show Gt T11 m 105 _ [(.int ((iN i_) + (1 : Int32))), (.int 0), (.ref aS)]
    rw [show ((iN i_) + (1 : Int32)) = (iN (i_ + 1)) from iN_add i_ 1]
    obtain ⟨cl12, Ar12, qk12, Sz12, qz12, Ha12, Gf12⟩ := id VS
    obtain ⟨T12, h12, X12, e12, W12, st12⟩ := stI X11 hx hZ eh11 Ar12 (inb_of Sz12 ⟨by decide, by decide⟩) (g := (mkF m 105 #[rv r, rv aC, iv (iN n), iv (iN i_), rv aS, iv (iN (fk c_ s_ i_)), iv (iN (lk c_ (fk c_ s_ i_) i_))] [(.int (iN (i_ + 1))), (.int 0), (.ref aS)])) rfl rfl (D 57 rfl)
    have N12 := Fr.snoc X12 N11 gS
    have V12 : Arv Z h12 aS kS .int 3 [(.int (iN (i_ + 1))), (.int (iN k_)), (.int 1)] (.int 0) := (Arv.set Ar12 qk12 Sz12 qz12 Ha12 Gf12 rfl W12 0 (by decide) (by simp))
    refine Goes.st st12 ?_
    have KK13 := K0.wr W12 (Or.inl (mI 0 rfl))
    have Z12 : n0 ≤ h12.size := by have := W12.size; have := Z0; omega
    refine rV X12 hx hret (D 58 rfl) hlk ?_ (by decide) (by decide)
    rw [e12]
    exact ⟨(i_ + 1), k_, _, rfl, N12, KK13, V12, spm1 (sp_nil hs1 hq cLN) cX, hMk⟩
theorem pd44 : parseMethodDescriptor "(I)Ljava/lang/Object;" = some ⟨[.int], some (.object "java/lang/Object")⟩ := by decide +kernel
theorem pd45 : parseMethodDescriptor "(Ljava/lang/String;[CII)Z" = some ⟨[(.object "java/lang/String"), (.array .char), .int, .int], some .boolean⟩ := by decide +kernel
def QSq1 (Z : State) (r : Addr) (aC : Addr) (kC : ClassId) (c_ : Nat → Int32) (n i_ : Nat) (aS : Addr) (kS : ClassId) (s_ k_ : Nat) (M : List (Nat × Nat)) (cs : Int32) (fm : Value) (eL eM eA : Addr) (kA : ClassId) (j0 q0 : Addr) (y0 : ClassId) (w0 : Bool) (lo0 hi0 : Nat) (h0 : Heap) (n0 : Nat) (v : Option Value) (h : Heap) (L : List Loc) : Prop := ∃ (s' k' : Nat) (M' : List (Nat × Nat)), v = none ∧ Fr n0 L ∧ Keep h0 h [aS] ∧ Arv Z h aS kS .int 3 [(.int (iN s')), (.int (iN k')), (.int 1)] (.int 0) ∧ sp c_ n (min (i_ + 1) (n + 1)) = (s', M') ∧ M'.length = k'
theorem rmSq1 (hw : HW a0 Z) (r : Addr) (aC : Addr) (kC : ClassId) (c_ : Nat → Int32) (n i_ : Nat) (aS : Addr) (kS : ClassId) (s_ k_ : Nat) (M : List (Nat × Nat)) (cs : Int32) (fm : Value) (eL eM eA : Addr) (kA : ClassId) (j0 q0 : Addr) (y0 : ClassId) (w0 : Bool) (lo0 hi0 : Nat) (Z0 : n0 ≤ h0.size) (Scs : S_0 Z h0 (.int cs)) (hcs : ¬ cs = (0 : Int32)) (Sd : S_2 Z h0 (.int 1)) (Sh : S_3 Z h0 (.int 0)) (Sl : S_4 Z h0 (.int 8)) (Sfm : S_1 Z h0 fm) (hfm : fm.isRef = true) (VC : Arv Z h0 aC kC .char 4 (rg 4 (fun i => .int (c_ i))) (.int 0)) (VS : Arv Z h0 aS kS .int 3 [(.int (iN s_)), (.int (iN k_)), (.int 1)] (.int 0)) (gS : n0 ≤ aS) (Er : X_3 Z h0 r) (F0 : F_5 Z h0 r (.ref j0)) (F1 : F_6 Z h0 r (.ref eM)) (Sem : S_7 Z h0 (.ref eM)) (Eo : X_5 Z h0 eM) (B0 : Sb Z h0 j0 q0 y0 w0 (hi0 - lo0) (fun i => c_ (lo0 + i))) (hn4 : n ≤ 4) (hi4 : i_ ≤ 4) (hsp : sp c_ n (min i_ (n + 1)) = (s_, M)) (hMk : M.length = k_) (hF : (sp c_ n (n + 1)).2 = [(lo0, hi0)]) :
  QMg l Z mN71 method_7_code 7 none ws (rM 6 0 0 82) #[(.ref r), (.ref aC), (.int (iN n)), (.int (iN i_)), (.ref aS)] h0 (QSq1 Z r aC kC c_ n i_ aS kS s_ k_ M cs fm eL eM eA kA j0 q0 y0 w0 lo0 hi0 h0 n0) := by
 refine bodyN (pfn pn15) (Ls := #[rv r, rv aC, iv (iN n), iv (iN i_), rv aS, .unset, .unset]) (fun _ => rfl) ?_
 intro p e s m below meth c s₁ hx hby hlk hret hml hown hnm hZ hh X0 e0
 have D := @db _ _ _ hby Dmethod_7
 have N0 := Fr.nil n0
 have K0 : Keep h0 h0 [aS] := Keep.refl _ _
 show Gt s₁ m 0 _ []
 rcases Nat.lt_or_ge n i_ with cX | cX
 ·refine jN X0 hx (D 0 rfl) ?_ rfl
  refine jN X0 hx (D 1 rfl) ?_ rfl
  refine gicmpNo X0 hx (D 2 rfl) (tlt (ylN n i_ (by omega) (by omega) (by omega))).2.2.2 ?_
  refine rV X0 hx hret (D 3 rfl) hlk ?_ (by decide) (by decide)
  rw [e0]
  exact ⟨s_, k_, _, rfl, N0, K0, VS, spm2 hsp cX, hMk⟩
 ·have hs1 := spm hsp cX
  have hst := sp_st hs1
  have hf1 : fk c_ s_ i_ ≤ i_ := fk_le hst
  have hf2 : lk c_ (fk c_ s_ i_) i_ ≤ i_ := lk_le hf1
  show Gt s₁ m 0 _ []
  rcases Nat.decEq i_ n with cI | cI
  ·refine jN X0 hx (D 0 rfl) ?_ rfl
   refine jN X0 hx (D 1 rfl) ?_ rfl
   refine gY X0 hx (pc := 2) (pc' := 6) (D 2 rfl) (flt (nlN n i_ (by omega) (by omega) (by omega))).2.2.2 ?_ (by decide) (by decide)
   refine jN X0 hx (D 4 rfl) ?_ rfl
   refine jN X0 hx (D 5 rfl) ?_ rfl
   refine gicmpNo X0 hx (D 6 rfl) (feq (neN i_ n (by omega) (by omega) (by omega))).1 ?_
   refine aN X0 hx (D 7 rfl) ?_ rfl rfl
   refine jN X0 hx (D 8 rfl) ?_ rfl
   refine qCa X0 hx hZ e0 VC ⟨nnN i_ (by omega), ylN i_ 4 (by omega) (by omega) (by omega)⟩ (v := (.int (c_ i_))) (by rw [iN_nat (a := i_) (by omega)]; exact rg_get _ _ (by omega)) (D 9 rfl) ?_
   show Gt s₁ m 14 _ [(.int (c_ i_))]
   rcases (Bool.eq_false_or_eq_true (sp? (c_ i_))) with cS | cS
   ·have hq : i_ = n ∨ sp? (c_ i_) = true := Or.inr cS
    refine zS X0 hx hZ hown hw 313 314 315 4 (rmLs1 l hw (c_ i_) Z0 cS) e0 hml (D 10 rfl) pd41 (W := 0) (rest := []) ?_ rfl rfl rfl rfl (by decide) (lq rfl) rfl rfl rfl
    rintro T2 L2 v2 X2 ⟨rfl, N2q, eh2⟩
    have N2 := Fr.app N0 N2q
    refine gifNo X2 hx (D 11 rfl) (by decide) ?_
    show Gt T2 m 20 _ []
    refine aN X2 hx (D 12 rfl) ?_ rfl rfl
    refine aW X2 hx (D 13 rfl) ?_ rfl rfl
    refine giconst X2 hx (D 14 rfl) ?_
    refine qIa X2 hx hZ eh2 VS ⟨by decide, by decide⟩ (v := (.int (iN s_))) rfl (D 15 rfl) ?_
    refine jN X2 hx (D 16 rfl) ?_ rfl
    refine zS X2 hx hZ hown hw 46 47 48 4 (rmFk l hw aC kC c_ s_ i_ Z0 VC (by omega) (by omega)) eh2 hml (D 17 rfl) pd43 (W := 0) (rest := []) ?_ rfl rfl rfl rfl (by decide) (lq rfl) rfl rfl rfl
    rintro T4 L4 v4 X4 ⟨rfl, N4q, eh4⟩
    have N4 := Fr.app N2 N4q
    refine gistore X4 hx (D 18 rfl) (l' := #[rv r, rv aC, iv (iN n), iv (iN i_), rv aS, iv (iN (fk c_ s_ i_)), .unset]) rfl ?_
    refine aN X4 hx (D 19 rfl) ?_ rfl rfl
    refine jW X4 hx (D 20 rfl) ?_ rfl
    show Gt T4 m 34 _ [(.int (iN (fk c_ s_ i_))), (.ref aC)]
    refine jN X4 hx (D 21 rfl) ?_ rfl
    refine zS X4 hx hZ hown hw 49 50 51 4 (rmLk l hw aC kC c_ (fk c_ s_ i_) i_ Z0 VC (by omega) hf1) eh4 hml (D 22 rfl) pd43 (W := 0) (rest := []) ?_ rfl rfl rfl rfl (by decide) (lq rfl) rfl rfl rfl
    rintro T5 L5 v5 X5 ⟨rfl, N5q, eh5⟩
    have N5 := Fr.app N4 N5q
    refine gistore X5 hx (D 23 rfl) (l' := #[rv r, rv aC, iv (iN n), iv (iN i_), rv aS, iv (iN (fk c_ s_ i_)), iv (iN (lk c_ (fk c_ s_ i_) i_))]) rfl ?_
    refine jW X5 hx (D 24 rfl) ?_ rfl
    refine jW X5 hx (D 25 rfl) ?_ rfl
    show Gt T5 m 44 _ [(.int (iN (lk c_ (fk c_ s_ i_) i_))), (.int (iN (fk c_ s_ i_)))]
    rcases Nat.lt_or_ge (fk c_ s_ i_) (lk c_ (fk c_ s_ i_) i_) with cLT | cLE
    ·have hit := sp_hit hs1 hq cX cLT hF
     rw [hMk] at hit
     obtain ⟨hk0, hk1, hk2⟩ := hit1 hit
     have he1 : lo0 = fk c_ s_ i_ := hk1
     have he2 : hi0 = lk c_ (fk c_ s_ i_) i_ := hk2
     show Gt T5 m 44 _ [(.int (iN (lk c_ (fk c_ s_ i_) i_))), (.int (iN (fk c_ s_ i_)))]
     refine gicmpNo X5 hx (D 26 rfl) (tlt (ylN (fk c_ s_ i_) (lk c_ (fk c_ s_ i_) i_) (by omega) (by omega) (by omega))).2.1 ?_
     refine aW X5 hx (D 27 rfl) ?_ rfl rfl
     refine giconst X5 hx (D 28 rfl) ?_
     refine qIa X5 hx hZ eh5 VS ⟨by decide, by decide⟩ (v := (.int (iN k_))) rfl (D 29 rfl) ?_
     refine aN X5 hx (D 30 rfl) ?_ rfl rfl
     refine zI X5 hx hZ hown hw 52 rfl 53 (mvT hZ (hw 54 rfl)) 316 317 318 319 320 321 285 (rmZs1 l hw r eM Z0 F1 Sem) eh5 Er hml (D 31 rfl) pd20 (W := 1) (rest := [(.int (iN k_))]) ?_ rfl rfl rfl rfl rfl rfl rfl rfl (by decide) (lq rfl) rfl rfl rfl
     rintro T7 L7 v7 X7 ⟨rfl, N7q, eh7⟩
     have N7 := Fr.app N5 N7q
     refine gicmpNo X7 hx (D 32 rfl) (tlt (ylN k_ 1 (by omega) (by omega) (by omega))).2.1 ?_
     refine aN X7 hx (D 33 rfl) ?_ rfl rfl
     refine aW X7 hx (D 34 rfl) ?_ rfl rfl
     show Gt T7 m 63 _ [(.ref aS), (.ref r)]
     refine giconst X7 hx (D 35 rfl) ?_
     refine qIa X7 hx hZ eh7 VS ⟨by decide, by decide⟩ (v := (.int (iN k_))) rfl (D 36 rfl) ?_
     show Gt T7 m 65 _ [(.int (iN k_)), (.ref r)]
     rw [show (iN k_) = (0 : Int32) from by rw [hk0]; rfl]
     refine zI X7 hx hZ hown hw 322 rfl 323 (mvT hZ (hw 324 rfl)) 325 326 327 328 320 329 285 (rmGe0 l hw r j0 Z0 F0) eh7 Er hml (D 37 rfl) pd44 (W := 0) (rest := []) ?_ rfl rfl rfl rfl rfl rfl rfl rfl (by decide) (lq rfl) rfl rfl rfl
     rintro T9 L9 v9 X9 ⟨rfl, N9q, eh9⟩
     have N9 := Fr.app N7 N9q
     refine qCY X9 hx hZ hown (hw 6 rfl) eh9 (Ins.self B0.1) (D 38 rfl) ?_
     intro T10 X10 e10
     refine aN X10 hx (D 39 rfl) ?_ rfl rfl
     refine jW X10 hx (D 40 rfl) ?_ rfl
     refine jW X10 hx (D 41 rfl) ?_ rfl
     refine zS X10 hx hZ hown hw 330 331 332 4 (rmEq l hw j0 q0 y0 w0 (hi0 - lo0) (fun i => c_ (lo0 + i)) aC kC c_ (fk c_ s_ i_) (lk c_ (fk c_ s_ i_) i_) cs fm Z0 Scs hcs Sd Sh Sl Sfm hfm VC B0 (by rw [he1, he2]) cLT (by omega) (fun i _ => by show c_ (lo0 + i) = _; rw [he1])) e10 hml (D 42 rfl) pd45 (W := 0) (rest := []) ?_ rfl rfl rfl rfl (by decide) (lq rfl) rfl rfl rfl
     rintro T11 L11 v11 X11 ⟨rfl, N11q, eh11⟩
     have N11 := Fr.app N9 N11q
     refine gT X11 hx (pc := 81) (pc' := 89) (D 43 rfl) (by decide) ?_ (by decide) (by decide)
     refine aW X11 hx (D 44 rfl) ?_ rfl rfl
     refine giconst X11 hx (D 45 rfl) ?_
     show Gt T11 m 92 _ [(.int 1), (.ref aS)]
     refine aW X11 hx (D 46 rfl) ?_ rfl rfl
     refine giconst X11 hx (D 47 rfl) ?_
     refine qIa X11 hx hZ eh11 VS ⟨by decide, by decide⟩ (v := (.int (iN k_))) rfl (D 48 rfl) ?_
     refine giconst X11 hx (D 49 rfl) ?_
     refine giadd X11 hx (D 50 rfl) ?_
     show Gt T11 m 98 _ [(.int ((iN k_) + (1 : Int32))), (.int 1), (.ref aS)]
     rw [show ((iN k_) + (1 : Int32)) = (iN (k_ + 1)) from iN_add k_ 1]
     obtain ⟨cl13, Ar13, qk13, Sz13, qz13, Ha13, Gf13⟩ := id VS
     obtain ⟨T13, h13, X13, e13, W13, st13⟩ := stI X11 hx hZ eh11 Ar13 (inb_of Sz13 ⟨by decide, by decide⟩) (g := (mkF m 98 #[rv r, rv aC, iv (iN n), iv (iN i_), rv aS, iv (iN (fk c_ s_ i_)), iv (iN (lk c_ (fk c_ s_ i_) i_))] [(.int (iN (k_ + 1))), (.int 1), (.ref aS)])) rfl rfl (D 51 rfl)
     have N13 := Fr.snoc X13 N11 gS
     have V13 : Arv Z h13 aS kS .int 3 [(.int (iN s_)), (.int (iN (k_ + 1))), (.int 1)] (.int 0) := (Arv.set Ar13 qk13 Sz13 qz13 Ha13 Gf13 rfl W13 1 (by decide) (by simp))
     refine Goes.st st13 ?_
     have KK14 := K0.wr W13 (Or.inl (mI 0 rfl))
     have Z13 : n0 ≤ h13.size := by have := W13.size; have := Z0; omega
     refine aW X13 hx (D 52 rfl) ?_ rfl rfl
     refine giconst X13 hx (D 53 rfl) ?_
     refine jN X13 hx (D 54 rfl) ?_ rfl
     refine giconst X13 hx (D 55 rfl) ?_
     refine giadd X13 hx (D 56 rfl) ?_
     show Gt T13 m 105 #[rv r, rv aC, iv (iN n), iv (iN i_), rv aS, iv (iN (fk c_ s_ i_)), iv (iN (lk c_ (fk c_ s_ i_) i_))] [(.int ((iN i_) + (1 : Int32))), (.int 0), (.ref aS)]
     rw [show ((iN i_) + (1 : Int32)) = (iN (i_ + 1)) from iN_add i_ 1]
     obtain ⟨cl15, Ar15, qk15, Sz15, qz15, Ha15, Gf15⟩ := id V13
     obtain ⟨T15, h15, X15, e15, W15, st15⟩ := stI X13 hx hZ e13 Ar15 (inb_of Sz15 ⟨by decide, by decide⟩) (g := (mkF m 105 #[rv r, rv aC, iv (iN n), iv (iN i_), rv aS, iv (iN (fk c_ s_ i_)), iv (iN (lk c_ (fk c_ s_ i_) i_))] [(.int (iN (i_ + 1))), (.int 0), (.ref aS)])) rfl rfl (D 57 rfl)
     have N15 := Fr.snoc X15 N13 gS
     have V15 : Arv Z h15 aS kS .int 3 [(.int (iN (i_ + 1))), (.int (iN (k_ + 1))), (.int 1)] (.int 0) := (Arv.set Ar15 qk15 Sz15 qz15 Ha15 Gf15 rfl W15 0 (by decide) (by simp))
     refine Goes.st st15 ?_
     have KK16 := KK14.wr W15 (Or.inl (mI 0 rfl))
     have Z15 : n0 ≤ h15.size := by have := W15.size; have := Z13; omega
     refine rV X15 hx hret (D 58 rfl) hlk ?_ (by decide) (by decide)
     rw [e15]
     exact ⟨(i_ + 1), (k_ + 1), _, rfl, N15, KK16, V15, spm1 (sp_add hs1 hq cLT) cX, by rw [List.length_append, hMk]; rfl⟩
    ·have cLN := Nat.not_lt.mpr cLE
     refine gY X5 hx (pc := 44) (pc' := 99) (D 26 rfl) (flt (nlN (fk c_ s_ i_) (lk c_ (fk c_ s_ i_) i_) (by omega) (by omega) (by omega))).2.1 ?_ (by decide) (by decide)
     refine aW X5 hx (D 52 rfl) ?_ rfl rfl
     refine giconst X5 hx (D 53 rfl) ?_
     refine jN X5 hx (D 54 rfl) ?_ rfl
     refine giconst X5 hx (D 55 rfl) ?_
     refine giadd X5 hx (D 56 rfl) ?_
     show Gt T5 m 105 _ [(.int ((iN i_) + (1 : Int32))), (.int 0), (.ref aS)]
     rw [show ((iN i_) + (1 : Int32)) = (iN (i_ + 1)) from iN_add i_ 1]
     obtain ⟨cl17, Ar17, qk17, Sz17, qz17, Ha17, Gf17⟩ := id VS
     obtain ⟨T17, h17, X17, e17, W17, st17⟩ := stI X5 hx hZ eh5 Ar17 (inb_of Sz17 ⟨by decide, by decide⟩) (g := (mkF m 105 #[rv r, rv aC, iv (iN n), iv (iN i_), rv aS, iv (iN (fk c_ s_ i_)), iv (iN (lk c_ (fk c_ s_ i_) i_))] [(.int (iN (i_ + 1))), (.int 0), (.ref aS)])) rfl rfl (D 57 rfl)
     have N17 := Fr.snoc X17 N5 gS
     have V17 : Arv Z h17 aS kS .int 3 [(.int (iN (i_ + 1))), (.int (iN k_)), (.int 1)] (.int 0) := (Arv.set Ar17 qk17 Sz17 qz17 Ha17 Gf17 rfl W17 0 (by decide) (by simp))
     refine Goes.st st17 ?_
     have KK18 := K0.wr W17 (Or.inl (mI 0 rfl))
     have Z17 : n0 ≤ h17.size := by have := W17.size; have := Z0; omega
     refine rV X17 hx hret (D 58 rfl) hlk ?_ (by decide) (by decide)
     rw [e17]
     exact ⟨(i_ + 1), k_, _, rfl, N17, KK18, V17, spm1 (sp_nil hs1 hq cLN) cX, hMk⟩
   ·refine zS X0 hx hZ hown hw 313 314 315 4 (rmLs0 l hw (c_ i_) Z0 cS) e0 hml (D 10 rfl) pd41 (W := 0) (rest := []) ?_ rfl rfl rfl rfl (by decide) (lq rfl) rfl rfl rfl
    rintro T19 L19 v19 X19 ⟨rfl, N19q, eh19⟩
    have N19 := Fr.app N0 N19q
    refine gT X19 hx (pc := 17) (pc' := 106) (D 11 rfl) (by decide) ?_ (by decide) (by decide)
    refine rV X19 hx hret (D 58 rfl) hlk ?_ (by decide) (by decide)
    rw [eh19]
    exact ⟨s_, k_, _, rfl, N19, K0, VS, spm1 (sp_skip hs1 (by omega) cS) cX, hMk⟩
  ·have hq : i_ = n ∨ sp? (c_ i_) = true := Or.inl cI
   refine jN X0 hx (D 0 rfl) ?_ rfl
   refine jN X0 hx (D 1 rfl) ?_ rfl
   refine gY X0 hx (pc := 2) (pc' := 6) (D 2 rfl) (flt (nlN n i_ (by omega) (by omega) (by omega))).2.2.2 ?_ (by decide) (by decide)
   refine jN X0 hx (D 4 rfl) ?_ rfl
   refine jN X0 hx (D 5 rfl) ?_ rfl
   refine gY X0 hx (pc := 8) (pc' := 20) (D 6 rfl) (teq (yeN i_ n (by omega) (by omega) (by omega))).1 ?_ (by decide) (by decide)
   show Gt s₁ m 20 _ []
   refine aN X0 hx (D 12 rfl) ?_ rfl rfl
   refine aW X0 hx (D 13 rfl) ?_ rfl rfl
   refine giconst X0 hx (D 14 rfl) ?_
   refine qIa X0 hx hZ e0 VS ⟨by decide, by decide⟩ (v := (.int (iN s_))) rfl (D 15 rfl) ?_
   refine jN X0 hx (D 16 rfl) ?_ rfl
   refine zS X0 hx hZ hown hw 46 47 48 4 (rmFk l hw aC kC c_ s_ i_ Z0 VC (by omega) (by omega)) e0 hml (D 17 rfl) pd43 (W := 0) (rest := []) ?_ rfl rfl rfl rfl (by decide) (lq rfl) rfl rfl rfl
   rintro T21 L21 v21 X21 ⟨rfl, N21q, eh21⟩
   have N21 := Fr.app N0 N21q
   refine gistore X21 hx (D 18 rfl) (l' := #[rv r, rv aC, iv (iN n), iv (iN i_), rv aS, iv (iN (fk c_ s_ i_)), .unset]) rfl ?_
   refine aN X21 hx (D 19 rfl) ?_ rfl rfl
   refine jW X21 hx (D 20 rfl) ?_ rfl
   show Gt T21 m 34 _ [(.int (iN (fk c_ s_ i_))), (.ref aC)]
   refine jN X21 hx (D 21 rfl) ?_ rfl
   refine zS X21 hx hZ hown hw 49 50 51 4 (rmLk l hw aC kC c_ (fk c_ s_ i_) i_ Z0 VC (by omega) hf1) eh21 hml (D 22 rfl) pd43 (W := 0) (rest := []) ?_ rfl rfl rfl rfl (by decide) (lq rfl) rfl rfl rfl
   rintro T22 L22 v22 X22 ⟨rfl, N22q, eh22⟩
   have N22 := Fr.app N21 N22q
   refine gistore X22 hx (D 23 rfl) (l' := #[rv r, rv aC, iv (iN n), iv (iN i_), rv aS, iv (iN (fk c_ s_ i_)), iv (iN (lk c_ (fk c_ s_ i_) i_))]) rfl ?_
   refine jW X22 hx (D 24 rfl) ?_ rfl
   refine jW X22 hx (D 25 rfl) ?_ rfl
   show Gt T22 m 44 _ [(.int (iN (lk c_ (fk c_ s_ i_) i_))), (.int (iN (fk c_ s_ i_)))]
   rcases Nat.lt_or_ge (fk c_ s_ i_) (lk c_ (fk c_ s_ i_) i_) with cLT | cLE
   ·have hit := sp_hit hs1 hq cX cLT hF
    rw [hMk] at hit
    obtain ⟨hk0, hk1, hk2⟩ := hit1 hit
    have he1 : lo0 = fk c_ s_ i_ := hk1
    have he2 : hi0 = lk c_ (fk c_ s_ i_) i_ := hk2
    show Gt T22 m 44 _ [(.int (iN (lk c_ (fk c_ s_ i_) i_))), (.int (iN (fk c_ s_ i_)))]
    refine gicmpNo X22 hx (D 26 rfl) (tlt (ylN (fk c_ s_ i_) (lk c_ (fk c_ s_ i_) i_) (by omega) (by omega) (by omega))).2.1 ?_
    refine aW X22 hx (D 27 rfl) ?_ rfl rfl
    refine giconst X22 hx (D 28 rfl) ?_
    refine qIa X22 hx hZ eh22 VS ⟨by decide, by decide⟩ (v := (.int (iN k_))) rfl (D 29 rfl) ?_
    refine aN X22 hx (D 30 rfl) ?_ rfl rfl
    refine zI X22 hx hZ hown hw 52 rfl 53 (mvT hZ (hw 54 rfl)) 316 317 318 319 320 321 285 (rmZs1 l hw r eM Z0 F1 Sem) eh22 Er hml (D 31 rfl) pd20 (W := 1) (rest := [(.int (iN k_))]) ?_ rfl rfl rfl rfl rfl rfl rfl rfl (by decide) (lq rfl) rfl rfl rfl
    rintro T24 L24 v24 X24 ⟨rfl, N24q, eh24⟩
    have N24 := Fr.app N22 N24q
    refine gicmpNo X24 hx (D 32 rfl) (tlt (ylN k_ 1 (by omega) (by omega) (by omega))).2.1 ?_
    refine aN X24 hx (D 33 rfl) ?_ rfl rfl
    refine aW X24 hx (D 34 rfl) ?_ rfl rfl
    show Gt T24 m 63 _ [(.ref aS), (.ref r)]
    refine giconst X24 hx (D 35 rfl) ?_
    refine qIa X24 hx hZ eh24 VS ⟨by decide, by decide⟩ (v := (.int (iN k_))) rfl (D 36 rfl) ?_
    show Gt T24 m 65 _ [(.int (iN k_)), (.ref r)]
    rw [show (iN k_) = (0 : Int32) from by rw [hk0]; rfl]
    refine zI X24 hx hZ hown hw 322 rfl 323 (mvT hZ (hw 324 rfl)) 325 326 327 328 320 329 285 (rmGe0 l hw r j0 Z0 F0) eh24 Er hml (D 37 rfl) pd44 (W := 0) (rest := []) ?_ rfl rfl rfl rfl rfl rfl rfl rfl (by decide) (lq rfl) rfl rfl rfl
    rintro T26 L26 v26 X26 ⟨rfl, N26q, eh26⟩
    have N26 := Fr.app N24 N26q
    refine qCY X26 hx hZ hown (hw 6 rfl) eh26 (Ins.self B0.1) (D 38 rfl) ?_
    intro T27 X27 e27
    refine aN X27 hx (D 39 rfl) ?_ rfl rfl
    refine jW X27 hx (D 40 rfl) ?_ rfl
    refine jW X27 hx (D 41 rfl) ?_ rfl
    refine zS X27 hx hZ hown hw 330 331 332 4 (rmEq l hw j0 q0 y0 w0 (hi0 - lo0) (fun i => c_ (lo0 + i)) aC kC c_ (fk c_ s_ i_) (lk c_ (fk c_ s_ i_) i_) cs fm Z0 Scs hcs Sd Sh Sl Sfm hfm VC B0 (by rw [he1, he2]) cLT (by omega) (fun i _ => by show c_ (lo0 + i) = _; rw [he1])) e27 hml (D 42 rfl) pd45 (W := 0) (rest := []) ?_ rfl rfl rfl rfl (by decide) (lq rfl) rfl rfl rfl
    rintro T28 L28 v28 X28 ⟨rfl, N28q, eh28⟩
    have N28 := Fr.app N26 N28q
    refine gT X28 hx (pc := 81) (pc' := 89) (D 43 rfl) (by decide) ?_ (by decide) (by decide)
    refine aW X28 hx (D 44 rfl) ?_ rfl rfl
    refine giconst X28 hx (D 45 rfl) ?_
    show Gt T28 m 92 _ [(.int 1), (.ref aS)]
    refine aW X28 hx (D 46 rfl) ?_ rfl rfl
    refine giconst X28 hx (D 47 rfl) ?_
    refine qIa X28 hx hZ eh28 VS ⟨by decide, by decide⟩ (v := (.int (iN k_))) rfl (D 48 rfl) ?_
    refine giconst X28 hx (D 49 rfl) ?_
    refine giadd X28 hx (D 50 rfl) ?_
    show Gt T28 m 98 _ [(.int ((iN k_) + (1 : Int32))), (.int 1), (.ref aS)]
    rw [show ((iN k_) + (1 : Int32)) = (iN (k_ + 1)) from iN_add k_ 1]
    obtain ⟨cl30, Ar30, qk30, Sz30, qz30, Ha30, Gf30⟩ := id VS
    obtain ⟨T30, h30, X30, e30, W30, st30⟩ := stI X28 hx hZ eh28 Ar30 (inb_of Sz30 ⟨by decide, by decide⟩) (g := (mkF m 98 #[rv r, rv aC, iv (iN n), iv (iN i_), rv aS, iv (iN (fk c_ s_ i_)), iv (iN (lk c_ (fk c_ s_ i_) i_))] [(.int (iN (k_ + 1))), (.int 1), (.ref aS)])) rfl rfl (D 51 rfl)
    have N30 := Fr.snoc X30 N28 gS
    have V30 : Arv Z h30 aS kS .int 3 [(.int (iN s_)), (.int (iN (k_ + 1))), (.int 1)] (.int 0) := (Arv.set Ar30 qk30 Sz30 qz30 Ha30 Gf30 rfl W30 1 (by decide) (by simp))
    refine Goes.st st30 ?_
    have KK31 := K0.wr W30 (Or.inl (mI 0 rfl))
    have Z30 : n0 ≤ h30.size := by have := W30.size; have := Z0; omega
    refine aW X30 hx (D 52 rfl) ?_ rfl rfl
    refine giconst X30 hx (D 53 rfl) ?_
    refine jN X30 hx (D 54 rfl) ?_ rfl
    refine giconst X30 hx (D 55 rfl) ?_
    refine giadd X30 hx (D 56 rfl) ?_
    show Gt T30 m 105 #[rv r, rv aC, iv (iN n), iv (iN i_), rv aS, iv (iN (fk c_ s_ i_)), iv (iN (lk c_ (fk c_ s_ i_) i_))] [(.int ((iN i_) + (1 : Int32))), (.int 0), (.ref aS)]
    rw [show ((iN i_) + (1 : Int32)) = (iN (i_ + 1)) from iN_add i_ 1]
    obtain ⟨cl32, Ar32, qk32, Sz32, qz32, Ha32, Gf32⟩ := id V30
    obtain ⟨T32, h32, X32, e32, W32, st32⟩ := stI X30 hx hZ e30 Ar32 (inb_of Sz32 ⟨by decide, by decide⟩) (g := (mkF m 105 #[rv r, rv aC, iv (iN n), iv (iN i_), rv aS, iv (iN (fk c_ s_ i_)), iv (iN (lk c_ (fk c_ s_ i_) i_))] [(.int (iN (i_ + 1))), (.int 0), (.ref aS)])) rfl rfl (D 57 rfl)
    have N32 := Fr.snoc X32 N30 gS
    have V32 : Arv Z h32 aS kS .int 3 [(.int (iN (i_ + 1))), (.int (iN (k_ + 1))), (.int 1)] (.int 0) := (Arv.set Ar32 qk32 Sz32 qz32 Ha32 Gf32 rfl W32 0 (by decide) (by simp))
    refine Goes.st st32 ?_
    have KK33 := KK31.wr W32 (Or.inl (mI 0 rfl))
    have Z32 : n0 ≤ h32.size := by have := W32.size; have := Z30; omega
    refine rV X32 hx hret (D 58 rfl) hlk ?_ (by decide) (by decide)
    rw [e32]
    exact ⟨(i_ + 1), (k_ + 1), _, rfl, N32, KK33, V32, spm1 (sp_add hs1 hq cLT) cX, by rw [List.length_append, hMk]; rfl⟩
   ·have cLN := Nat.not_lt.mpr cLE
    refine gY X22 hx (pc := 44) (pc' := 99) (D 26 rfl) (flt (nlN (fk c_ s_ i_) (lk c_ (fk c_ s_ i_) i_) (by omega) (by omega) (by omega))).2.1 ?_ (by decide) (by decide)
    refine aW X22 hx (D 52 rfl) ?_ rfl rfl
    refine giconst X22 hx (D 53 rfl) ?_
    refine jN X22 hx (D 54 rfl) ?_ rfl
    refine giconst X22 hx (D 55 rfl) ?_
    refine giadd X22 hx (D 56 rfl) ?_
    show Gt T22 m 105 _ [(.int ((iN i_) + (1 : Int32))), (.int 0), (.ref aS)]
    rw [show ((iN i_) + (1 : Int32)) = (iN (i_ + 1)) from iN_add i_ 1]
    obtain ⟨cl34, Ar34, qk34, Sz34, qz34, Ha34, Gf34⟩ := id VS
    obtain ⟨T34, h34, X34, e34, W34, st34⟩ := stI X22 hx hZ eh22 Ar34 (inb_of Sz34 ⟨by decide, by decide⟩) (g := (mkF m 105 #[rv r, rv aC, iv (iN n), iv (iN i_), rv aS, iv (iN (fk c_ s_ i_)), iv (iN (lk c_ (fk c_ s_ i_) i_))] [(.int (iN (i_ + 1))), (.int 0), (.ref aS)])) rfl rfl (D 57 rfl)
    have N34 := Fr.snoc X34 N22 gS
    have V34 : Arv Z h34 aS kS .int 3 [(.int (iN (i_ + 1))), (.int (iN k_)), (.int 1)] (.int 0) := (Arv.set Ar34 qk34 Sz34 qz34 Ha34 Gf34 rfl W34 0 (by decide) (by simp))
    refine Goes.st st34 ?_
    have KK35 := K0.wr W34 (Or.inl (mI 0 rfl))
    have Z34 : n0 ≤ h34.size := by have := W34.size; have := Z0; omega
    refine rV X34 hx hret (D 58 rfl) hlk ?_ (by decide) (by decide)
    rw [e34]
    exact ⟨(i_ + 1), k_, _, rfl, N34, KK35, V34, spm1 (sp_nil hs1 hq cLN) cX, hMk⟩
def QSq2 (Z : State) (r : Addr) (aC : Addr) (kC : ClassId) (c_ : Nat → Int32) (n i_ : Nat) (aS : Addr) (kS : ClassId) (s_ k_ : Nat) (M : List (Nat × Nat)) (cs : Int32) (fm : Value) (eL eM eA : Addr) (kA : ClassId) (j0 q0 : Addr) (y0 : ClassId) (w0 : Bool) (lo0 hi0 : Nat) (j1 q1 : Addr) (y1 : ClassId) (w1 : Bool) (lo1 hi1 : Nat) (h0 : Heap) (n0 : Nat) (v : Option Value) (h : Heap) (L : List Loc) : Prop := ∃ (s' k' : Nat) (M' : List (Nat × Nat)), v = none ∧ Fr n0 L ∧ Keep h0 h [aS] ∧ Arv Z h aS kS .int 3 [(.int (iN s')), (.int (iN k')), (.int 1)] (.int 0) ∧ sp c_ n (min (i_ + 1) (n + 1)) = (s', M') ∧ M'.length = k'
theorem rmSq2 (hw : HW a0 Z) (r : Addr) (aC : Addr) (kC : ClassId) (c_ : Nat → Int32) (n i_ : Nat) (aS : Addr) (kS : ClassId) (s_ k_ : Nat) (M : List (Nat × Nat)) (cs : Int32) (fm : Value) (eL eM eA : Addr) (kA : ClassId) (j0 q0 : Addr) (y0 : ClassId) (w0 : Bool) (lo0 hi0 : Nat) (j1 q1 : Addr) (y1 : ClassId) (w1 : Bool) (lo1 hi1 : Nat) (Z0 : n0 ≤ h0.size) (Scs : S_0 Z h0 (.int cs)) (hcs : ¬ cs = (0 : Int32)) (Sd : S_2 Z h0 (.int 1)) (Sh : S_3 Z h0 (.int 0)) (Sl : S_4 Z h0 (.int 8)) (Sfm : S_1 Z h0 fm) (hfm : fm.isRef = true) (VC : Arv Z h0 aC kC .char 4 (rg 4 (fun i => .int (c_ i))) (.int 0)) (VS : Arv Z h0 aS kS .int 3 [(.int (iN s_)), (.int (iN k_)), (.int 1)] (.int 0)) (gS : n0 ≤ aS) (Er : X_3 Z h0 r) (F0 : F_5 Z h0 r (.ref j0)) (F1 : F_6 Z h0 r (.ref j1)) (Sem : S_7 Z h0 (.ref eM)) (Eo : X_5 Z h0 eM) (B0 : Sb Z h0 j0 q0 y0 w0 (hi0 - lo0) (fun i => c_ (lo0 + i))) (B1 : Sb Z h0 j1 q1 y1 w1 (hi1 - lo1) (fun i => c_ (lo1 + i))) (hn4 : n ≤ 4) (hi4 : i_ ≤ 4) (hsp : sp c_ n (min i_ (n + 1)) = (s_, M)) (hMk : M.length = k_) (hF : (sp c_ n (n + 1)).2 = [(lo0, hi0), (lo1, hi1)]) :
  QMg l Z mN71 method_7_code 7 none ws (rM 6 0 0 82) #[(.ref r), (.ref aC), (.int (iN n)), (.int (iN i_)), (.ref aS)] h0 (QSq2 Z r aC kC c_ n i_ aS kS s_ k_ M cs fm eL eM eA kA j0 q0 y0 w0 lo0 hi0 j1 q1 y1 w1 lo1 hi1 h0 n0) := by
 refine bodyN (pfn pn15) (Ls := #[rv r, rv aC, iv (iN n), iv (iN i_), rv aS, .unset, .unset]) (fun _ => rfl) ?_
 intro p e s m below meth c s₁ hx hby hlk hret hml hown hnm hZ hh X0 e0
 have D := @db _ _ _ hby Dmethod_7
 have N0 := Fr.nil n0
 have K0 : Keep h0 h0 [aS] := Keep.refl _ _
 show Gt s₁ m 0 _ []
 rcases Nat.lt_or_ge n i_ with cX | cX
 ·refine jN X0 hx (D 0 rfl) ?_ rfl
  refine jN X0 hx (D 1 rfl) ?_ rfl
  refine gicmpNo X0 hx (D 2 rfl) (tlt (ylN n i_ (by omega) (by omega) (by omega))).2.2.2 ?_
  refine rV X0 hx hret (D 3 rfl) hlk ?_ (by decide) (by decide)
  rw [e0]
  exact ⟨s_, k_, _, rfl, N0, K0, VS, spm2 hsp cX, hMk⟩
 ·have hs1 := spm hsp cX
  have hst := sp_st hs1
  have hf1 : fk c_ s_ i_ ≤ i_ := fk_le hst
  have hf2 : lk c_ (fk c_ s_ i_) i_ ≤ i_ := lk_le hf1
  show Gt s₁ m 0 _ []
  rcases Nat.decEq i_ n with cI | cI
  ·refine jN X0 hx (D 0 rfl) ?_ rfl
   refine jN X0 hx (D 1 rfl) ?_ rfl
   refine gY X0 hx (pc := 2) (pc' := 6) (D 2 rfl) (flt (nlN n i_ (by omega) (by omega) (by omega))).2.2.2 ?_ (by decide) (by decide)
   refine jN X0 hx (D 4 rfl) ?_ rfl
   refine jN X0 hx (D 5 rfl) ?_ rfl
   refine gicmpNo X0 hx (D 6 rfl) (feq (neN i_ n (by omega) (by omega) (by omega))).1 ?_
   refine aN X0 hx (D 7 rfl) ?_ rfl rfl
   refine jN X0 hx (D 8 rfl) ?_ rfl
   refine qCa X0 hx hZ e0 VC ⟨nnN i_ (by omega), ylN i_ 4 (by omega) (by omega) (by omega)⟩ (v := (.int (c_ i_))) (by rw [iN_nat (a := i_) (by omega)]; exact rg_get _ _ (by omega)) (D 9 rfl) ?_
   show Gt s₁ m 14 _ [(.int (c_ i_))]
   rcases (Bool.eq_false_or_eq_true (sp? (c_ i_))) with cS | cS
   ·have hq : i_ = n ∨ sp? (c_ i_) = true := Or.inr cS
    refine zS X0 hx hZ hown hw 313 314 315 4 (rmLs1 l hw (c_ i_) Z0 cS) e0 hml (D 10 rfl) pd41 (W := 0) (rest := []) ?_ rfl rfl rfl rfl (by decide) (lq rfl) rfl rfl rfl
    rintro T2 L2 v2 X2 ⟨rfl, N2q, eh2⟩
    have N2 := Fr.app N0 N2q
    refine gifNo X2 hx (D 11 rfl) (by decide) ?_
    show Gt T2 m 20 _ []
    refine aN X2 hx (D 12 rfl) ?_ rfl rfl
    refine aW X2 hx (D 13 rfl) ?_ rfl rfl
    refine giconst X2 hx (D 14 rfl) ?_
    refine qIa X2 hx hZ eh2 VS ⟨by decide, by decide⟩ (v := (.int (iN s_))) rfl (D 15 rfl) ?_
    refine jN X2 hx (D 16 rfl) ?_ rfl
    refine zS X2 hx hZ hown hw 46 47 48 4 (rmFk l hw aC kC c_ s_ i_ Z0 VC (by omega) (by omega)) eh2 hml (D 17 rfl) pd43 (W := 0) (rest := []) ?_ rfl rfl rfl rfl (by decide) (lq rfl) rfl rfl rfl
    rintro T4 L4 v4 X4 ⟨rfl, N4q, eh4⟩
    have N4 := Fr.app N2 N4q
    refine gistore X4 hx (D 18 rfl) (l' := #[rv r, rv aC, iv (iN n), iv (iN i_), rv aS, iv (iN (fk c_ s_ i_)), .unset]) rfl ?_
    refine aN X4 hx (D 19 rfl) ?_ rfl rfl
    refine jW X4 hx (D 20 rfl) ?_ rfl
    show Gt T4 m 34 _ [(.int (iN (fk c_ s_ i_))), (.ref aC)]
    refine jN X4 hx (D 21 rfl) ?_ rfl
    refine zS X4 hx hZ hown hw 49 50 51 4 (rmLk l hw aC kC c_ (fk c_ s_ i_) i_ Z0 VC (by omega) hf1) eh4 hml (D 22 rfl) pd43 (W := 0) (rest := []) ?_ rfl rfl rfl rfl (by decide) (lq rfl) rfl rfl rfl
    rintro T5 L5 v5 X5 ⟨rfl, N5q, eh5⟩
    have N5 := Fr.app N4 N5q
    refine gistore X5 hx (D 23 rfl) (l' := #[rv r, rv aC, iv (iN n), iv (iN i_), rv aS, iv (iN (fk c_ s_ i_)), iv (iN (lk c_ (fk c_ s_ i_) i_))]) rfl ?_
    refine jW X5 hx (D 24 rfl) ?_ rfl
    refine jW X5 hx (D 25 rfl) ?_ rfl
    show Gt T5 m 44 _ [(.int (iN (lk c_ (fk c_ s_ i_) i_))), (.int (iN (fk c_ s_ i_)))]
    rcases Nat.lt_or_ge (fk c_ s_ i_) (lk c_ (fk c_ s_ i_) i_) with cLT | cLE
    ·have hit := sp_hit hs1 hq cX cLT hF
     rw [hMk] at hit
     rcases hit2 hit with ⟨hk0, hk1, hk2⟩ | ⟨hk0, hk1, hk2⟩
     ·have he1 : lo0 = fk c_ s_ i_ := hk1
      have he2 : hi0 = lk c_ (fk c_ s_ i_) i_ := hk2
      show Gt T5 m 44 _ [(.int (iN (lk c_ (fk c_ s_ i_) i_))), (.int (iN (fk c_ s_ i_)))]
      refine gicmpNo X5 hx (D 26 rfl) (tlt (ylN (fk c_ s_ i_) (lk c_ (fk c_ s_ i_) i_) (by omega) (by omega) (by omega))).2.1 ?_
      refine aW X5 hx (D 27 rfl) ?_ rfl rfl
      refine giconst X5 hx (D 28 rfl) ?_
      refine qIa X5 hx hZ eh5 VS ⟨by decide, by decide⟩ (v := (.int (iN k_))) rfl (D 29 rfl) ?_
      refine aN X5 hx (D 30 rfl) ?_ rfl rfl
      refine zI X5 hx hZ hown hw 52 rfl 53 (mvT hZ (hw 54 rfl)) 316 317 318 319 320 321 285 (rmZs2 l hw r eM j1 Z0 F1 Sem (exaNe B1.1 Eo (by decide))) eh5 Er hml (D 31 rfl) pd20 (W := 1) (rest := [(.int (iN k_))]) ?_ rfl rfl rfl rfl rfl rfl rfl rfl (by decide) (lq rfl) rfl rfl rfl
      rintro T7 L7 v7 X7 ⟨rfl, N7q, eh7⟩
      have N7 := Fr.app N5 N7q
      refine gicmpNo X7 hx (D 32 rfl) (tlt (ylN k_ 2 (by omega) (by omega) (by omega))).2.1 ?_
      refine aN X7 hx (D 33 rfl) ?_ rfl rfl
      refine aW X7 hx (D 34 rfl) ?_ rfl rfl
      show Gt T7 m 63 _ [(.ref aS), (.ref r)]
      refine giconst X7 hx (D 35 rfl) ?_
      refine qIa X7 hx hZ eh7 VS ⟨by decide, by decide⟩ (v := (.int (iN k_))) rfl (D 36 rfl) ?_
      show Gt T7 m 65 _ [(.int (iN k_)), (.ref r)]
      rw [show (iN k_) = (0 : Int32) from by rw [hk0]; rfl]
      refine zI X7 hx hZ hown hw 322 rfl 323 (mvT hZ (hw 324 rfl)) 325 326 327 328 320 329 285 (rmGe0 l hw r j0 Z0 F0) eh7 Er hml (D 37 rfl) pd44 (W := 0) (rest := []) ?_ rfl rfl rfl rfl rfl rfl rfl rfl (by decide) (lq rfl) rfl rfl rfl
      rintro T9 L9 v9 X9 ⟨rfl, N9q, eh9⟩
      have N9 := Fr.app N7 N9q
      refine qCY X9 hx hZ hown (hw 6 rfl) eh9 (Ins.self B0.1) (D 38 rfl) ?_
      intro T10 X10 e10
      refine aN X10 hx (D 39 rfl) ?_ rfl rfl
      refine jW X10 hx (D 40 rfl) ?_ rfl
      refine jW X10 hx (D 41 rfl) ?_ rfl
      refine zS X10 hx hZ hown hw 330 331 332 4 (rmEq l hw j0 q0 y0 w0 (hi0 - lo0) (fun i => c_ (lo0 + i)) aC kC c_ (fk c_ s_ i_) (lk c_ (fk c_ s_ i_) i_) cs fm Z0 Scs hcs Sd Sh Sl Sfm hfm VC B0 (by rw [he1, he2]) cLT (by omega) (fun i _ => by show c_ (lo0 + i) = _; rw [he1])) e10 hml (D 42 rfl) pd45 (W := 0) (rest := []) ?_ rfl rfl rfl rfl (by decide) (lq rfl) rfl rfl rfl
      rintro T11 L11 v11 X11 ⟨rfl, N11q, eh11⟩
      have N11 := Fr.app N9 N11q
      refine gT X11 hx (pc := 81) (pc' := 89) (D 43 rfl) (by decide) ?_ (by decide) (by decide)
      refine aW X11 hx (D 44 rfl) ?_ rfl rfl
      refine giconst X11 hx (D 45 rfl) ?_
      show Gt T11 m 92 _ [(.int 1), (.ref aS)]
      refine aW X11 hx (D 46 rfl) ?_ rfl rfl
      refine giconst X11 hx (D 47 rfl) ?_
      refine qIa X11 hx hZ eh11 VS ⟨by decide, by decide⟩ (v := (.int (iN k_))) rfl (D 48 rfl) ?_
      refine giconst X11 hx (D 49 rfl) ?_
      refine giadd X11 hx (D 50 rfl) ?_
      show Gt T11 m 98 _ [(.int ((iN k_) + (1 : Int32))), (.int 1), (.ref aS)]
      rw [show ((iN k_) + (1 : Int32)) = (iN (k_ + 1)) from iN_add k_ 1]
      obtain ⟨cl13, Ar13, qk13, Sz13, qz13, Ha13, Gf13⟩ := id VS
      obtain ⟨T13, h13, X13, e13, W13, st13⟩ := stI X11 hx hZ eh11 Ar13 (inb_of Sz13 ⟨by decide, by decide⟩) (g := (mkF m 98 #[rv r, rv aC, iv (iN n), iv (iN i_), rv aS, iv (iN (fk c_ s_ i_)), iv (iN (lk c_ (fk c_ s_ i_) i_))] [(.int (iN (k_ + 1))), (.int 1), (.ref aS)])) rfl rfl (D 51 rfl)
      have N13 := Fr.snoc X13 N11 gS
      have V13 : Arv Z h13 aS kS .int 3 [(.int (iN s_)), (.int (iN (k_ + 1))), (.int 1)] (.int 0) := (Arv.set Ar13 qk13 Sz13 qz13 Ha13 Gf13 rfl W13 1 (by decide) (by simp))
      refine Goes.st st13 ?_
      have KK14 := K0.wr W13 (Or.inl (mI 0 rfl))
      have Z13 : n0 ≤ h13.size := by have := W13.size; have := Z0; omega
      refine aW X13 hx (D 52 rfl) ?_ rfl rfl
      refine giconst X13 hx (D 53 rfl) ?_
      refine jN X13 hx (D 54 rfl) ?_ rfl
      refine giconst X13 hx (D 55 rfl) ?_
      refine giadd X13 hx (D 56 rfl) ?_
      show Gt T13 m 105 #[rv r, rv aC, iv (iN n), iv (iN i_), rv aS, iv (iN (fk c_ s_ i_)), iv (iN (lk c_ (fk c_ s_ i_) i_))] [(.int ((iN i_) + (1 : Int32))), (.int 0), (.ref aS)]
      rw [show ((iN i_) + (1 : Int32)) = (iN (i_ + 1)) from iN_add i_ 1]
      obtain ⟨cl15, Ar15, qk15, Sz15, qz15, Ha15, Gf15⟩ := id V13
      obtain ⟨T15, h15, X15, e15, W15, st15⟩ := stI X13 hx hZ e13 Ar15 (inb_of Sz15 ⟨by decide, by decide⟩) (g := (mkF m 105 #[rv r, rv aC, iv (iN n), iv (iN i_), rv aS, iv (iN (fk c_ s_ i_)), iv (iN (lk c_ (fk c_ s_ i_) i_))] [(.int (iN (i_ + 1))), (.int 0), (.ref aS)])) rfl rfl (D 57 rfl)
      have N15 := Fr.snoc X15 N13 gS
      have V15 : Arv Z h15 aS kS .int 3 [(.int (iN (i_ + 1))), (.int (iN (k_ + 1))), (.int 1)] (.int 0) := (Arv.set Ar15 qk15 Sz15 qz15 Ha15 Gf15 rfl W15 0 (by decide) (by simp))
      refine Goes.st st15 ?_
      have KK16 := KK14.wr W15 (Or.inl (mI 0 rfl))
      have Z15 : n0 ≤ h15.size := by have := W15.size; have := Z13; omega
      refine rV X15 hx hret (D 58 rfl) hlk ?_ (by decide) (by decide)
      rw [e15]
      exact ⟨(i_ + 1), (k_ + 1), _, rfl, N15, KK16, V15, spm1 (sp_add hs1 hq cLT) cX, by rw [List.length_append, hMk]; rfl⟩
     ·have he1 : lo1 = fk c_ s_ i_ := hk1
      have he2 : hi1 = lk c_ (fk c_ s_ i_) i_ := hk2
      show Gt T5 m 44 _ [(.int (iN (lk c_ (fk c_ s_ i_) i_))), (.int (iN (fk c_ s_ i_)))]
      refine gicmpNo X5 hx (D 26 rfl) (tlt (ylN (fk c_ s_ i_) (lk c_ (fk c_ s_ i_) i_) (by omega) (by omega) (by omega))).2.1 ?_
      refine aW X5 hx (D 27 rfl) ?_ rfl rfl
      refine giconst X5 hx (D 28 rfl) ?_
      refine qIa X5 hx hZ eh5 VS ⟨by decide, by decide⟩ (v := (.int (iN k_))) rfl (D 29 rfl) ?_
      refine aN X5 hx (D 30 rfl) ?_ rfl rfl
      refine zI X5 hx hZ hown hw 52 rfl 53 (mvT hZ (hw 54 rfl)) 316 317 318 319 320 321 285 (rmZs2 l hw r eM j1 Z0 F1 Sem (exaNe B1.1 Eo (by decide))) eh5 Er hml (D 31 rfl) pd20 (W := 1) (rest := [(.int (iN k_))]) ?_ rfl rfl rfl rfl rfl rfl rfl rfl (by decide) (lq rfl) rfl rfl rfl
      rintro T18 L18 v18 X18 ⟨rfl, N18q, eh18⟩
      have N18 := Fr.app N5 N18q
      refine gicmpNo X18 hx (D 32 rfl) (tlt (ylN k_ 2 (by omega) (by omega) (by omega))).2.1 ?_
      refine aN X18 hx (D 33 rfl) ?_ rfl rfl
      refine aW X18 hx (D 34 rfl) ?_ rfl rfl
      show Gt T18 m 63 _ [(.ref aS), (.ref r)]
      refine giconst X18 hx (D 35 rfl) ?_
      refine qIa X18 hx hZ eh18 VS ⟨by decide, by decide⟩ (v := (.int (iN k_))) rfl (D 36 rfl) ?_
      show Gt T18 m 65 _ [(.int (iN k_)), (.ref r)]
      rw [show (iN k_) = (1 : Int32) from by rw [hk0]; rfl]
      refine zI X18 hx hZ hown hw 322 rfl 323 (mvT hZ (hw 324 rfl)) 325 326 327 328 320 329 285 (rmGe1 l hw r eM j1 Z0 F1 Sem (exaNe B1.1 Eo (by decide))) eh18 Er hml (D 37 rfl) pd44 (W := 0) (rest := []) ?_ rfl rfl rfl rfl rfl rfl rfl rfl (by decide) (lq rfl) rfl rfl rfl
      rintro T20 L20 v20 X20 ⟨rfl, N20q, eh20⟩
      have N20 := Fr.app N18 N20q
      refine qCY X20 hx hZ hown (hw 6 rfl) eh20 (Ins.self B1.1) (D 38 rfl) ?_
      intro T21 X21 e21
      refine aN X21 hx (D 39 rfl) ?_ rfl rfl
      refine jW X21 hx (D 40 rfl) ?_ rfl
      refine jW X21 hx (D 41 rfl) ?_ rfl
      refine zS X21 hx hZ hown hw 330 331 332 4 (rmEq l hw j1 q1 y1 w1 (hi1 - lo1) (fun i => c_ (lo1 + i)) aC kC c_ (fk c_ s_ i_) (lk c_ (fk c_ s_ i_) i_) cs fm Z0 Scs hcs Sd Sh Sl Sfm hfm VC B1 (by rw [he1, he2]) cLT (by omega) (fun i _ => by show c_ (lo1 + i) = _; rw [he1])) e21 hml (D 42 rfl) pd45 (W := 0) (rest := []) ?_ rfl rfl rfl rfl (by decide) (lq rfl) rfl rfl rfl
      rintro T22 L22 v22 X22 ⟨rfl, N22q, eh22⟩
      have N22 := Fr.app N20 N22q
      refine gT X22 hx (pc := 81) (pc' := 89) (D 43 rfl) (by decide) ?_ (by decide) (by decide)
      refine aW X22 hx (D 44 rfl) ?_ rfl rfl
      refine giconst X22 hx (D 45 rfl) ?_
      show Gt T22 m 92 _ [(.int 1), (.ref aS)]
      refine aW X22 hx (D 46 rfl) ?_ rfl rfl
      refine giconst X22 hx (D 47 rfl) ?_
      refine qIa X22 hx hZ eh22 VS ⟨by decide, by decide⟩ (v := (.int (iN k_))) rfl (D 48 rfl) ?_
      refine giconst X22 hx (D 49 rfl) ?_
      refine giadd X22 hx (D 50 rfl) ?_
      show Gt T22 m 98 _ [(.int ((iN k_) + (1 : Int32))), (.int 1), (.ref aS)]
      rw [show ((iN k_) + (1 : Int32)) = (iN (k_ + 1)) from iN_add k_ 1]
      obtain ⟨cl24, Ar24, qk24, Sz24, qz24, Ha24, Gf24⟩ := id VS
      obtain ⟨T24, h24, X24, e24, W24, st24⟩ := stI X22 hx hZ eh22 Ar24 (inb_of Sz24 ⟨by decide, by decide⟩) (g := (mkF m 98 #[rv r, rv aC, iv (iN n), iv (iN i_), rv aS, iv (iN (fk c_ s_ i_)), iv (iN (lk c_ (fk c_ s_ i_) i_))] [(.int (iN (k_ + 1))), (.int 1), (.ref aS)])) rfl rfl (D 51 rfl)
      have N24 := Fr.snoc X24 N22 gS
      have V24 : Arv Z h24 aS kS .int 3 [(.int (iN s_)), (.int (iN (k_ + 1))), (.int 1)] (.int 0) := (Arv.set Ar24 qk24 Sz24 qz24 Ha24 Gf24 rfl W24 1 (by decide) (by simp))
      refine Goes.st st24 ?_
      have KK25 := K0.wr W24 (Or.inl (mI 0 rfl))
      have Z24 : n0 ≤ h24.size := by have := W24.size; have := Z0; omega
      refine aW X24 hx (D 52 rfl) ?_ rfl rfl
      refine giconst X24 hx (D 53 rfl) ?_
      refine jN X24 hx (D 54 rfl) ?_ rfl
      refine giconst X24 hx (D 55 rfl) ?_
      refine giadd X24 hx (D 56 rfl) ?_
      show Gt T24 m 105 #[rv r, rv aC, iv (iN n), iv (iN i_), rv aS, iv (iN (fk c_ s_ i_)), iv (iN (lk c_ (fk c_ s_ i_) i_))] [(.int ((iN i_) + (1 : Int32))), (.int 0), (.ref aS)]
      rw [show ((iN i_) + (1 : Int32)) = (iN (i_ + 1)) from iN_add i_ 1]
      obtain ⟨cl26, Ar26, qk26, Sz26, qz26, Ha26, Gf26⟩ := id V24
      obtain ⟨T26, h26, X26, e26, W26, st26⟩ := stI X24 hx hZ e24 Ar26 (inb_of Sz26 ⟨by decide, by decide⟩) (g := (mkF m 105 #[rv r, rv aC, iv (iN n), iv (iN i_), rv aS, iv (iN (fk c_ s_ i_)), iv (iN (lk c_ (fk c_ s_ i_) i_))] [(.int (iN (i_ + 1))), (.int 0), (.ref aS)])) rfl rfl (D 57 rfl)
      have N26 := Fr.snoc X26 N24 gS
      have V26 : Arv Z h26 aS kS .int 3 [(.int (iN (i_ + 1))), (.int (iN (k_ + 1))), (.int 1)] (.int 0) := (Arv.set Ar26 qk26 Sz26 qz26 Ha26 Gf26 rfl W26 0 (by decide) (by simp))
      refine Goes.st st26 ?_
      have KK27 := KK25.wr W26 (Or.inl (mI 0 rfl))
      have Z26 : n0 ≤ h26.size := by have := W26.size; have := Z24; omega
      refine rV X26 hx hret (D 58 rfl) hlk ?_ (by decide) (by decide)
      rw [e26]
      exact ⟨(i_ + 1), (k_ + 1), _, rfl, N26, KK27, V26, spm1 (sp_add hs1 hq cLT) cX, by rw [List.length_append, hMk]; rfl⟩
    ·have cLN := Nat.not_lt.mpr cLE
     refine gY X5 hx (pc := 44) (pc' := 99) (D 26 rfl) (flt (nlN (fk c_ s_ i_) (lk c_ (fk c_ s_ i_) i_) (by omega) (by omega) (by omega))).2.1 ?_ (by decide) (by decide)
     refine aW X5 hx (D 52 rfl) ?_ rfl rfl
     refine giconst X5 hx (D 53 rfl) ?_
     refine jN X5 hx (D 54 rfl) ?_ rfl
     refine giconst X5 hx (D 55 rfl) ?_
     refine giadd X5 hx (D 56 rfl) ?_
     show Gt T5 m 105 _ [(.int ((iN i_) + (1 : Int32))), (.int 0), (.ref aS)]
     rw [show ((iN i_) + (1 : Int32)) = (iN (i_ + 1)) from iN_add i_ 1]
     obtain ⟨cl28, Ar28, qk28, Sz28, qz28, Ha28, Gf28⟩ := id VS
     obtain ⟨T28, h28, X28, e28, W28, st28⟩ := stI X5 hx hZ eh5 Ar28 (inb_of Sz28 ⟨by decide, by decide⟩) (g := (mkF m 105 #[rv r, rv aC, iv (iN n), iv (iN i_), rv aS, iv (iN (fk c_ s_ i_)), iv (iN (lk c_ (fk c_ s_ i_) i_))] [(.int (iN (i_ + 1))), (.int 0), (.ref aS)])) rfl rfl (D 57 rfl)
     have N28 := Fr.snoc X28 N5 gS
     have V28 : Arv Z h28 aS kS .int 3 [(.int (iN (i_ + 1))), (.int (iN k_)), (.int 1)] (.int 0) := (Arv.set Ar28 qk28 Sz28 qz28 Ha28 Gf28 rfl W28 0 (by decide) (by simp))
     refine Goes.st st28 ?_
     have KK29 := K0.wr W28 (Or.inl (mI 0 rfl))
     have Z28 : n0 ≤ h28.size := by have := W28.size; have := Z0; omega
     refine rV X28 hx hret (D 58 rfl) hlk ?_ (by decide) (by decide)
     rw [e28]
     exact ⟨(i_ + 1), k_, _, rfl, N28, KK29, V28, spm1 (sp_nil hs1 hq cLN) cX, hMk⟩
   ·refine zS X0 hx hZ hown hw 313 314 315 4 (rmLs0 l hw (c_ i_) Z0 cS) e0 hml (D 10 rfl) pd41 (W := 0) (rest := []) ?_ rfl rfl rfl rfl (by decide) (lq rfl) rfl rfl rfl
    rintro T30 L30 v30 X30 ⟨rfl, N30q, eh30⟩
    have N30 := Fr.app N0 N30q
    refine gT X30 hx (pc := 17) (pc' := 106) (D 11 rfl) (by decide) ?_ (by decide) (by decide)
    refine rV X30 hx hret (D 58 rfl) hlk ?_ (by decide) (by decide)
    rw [eh30]
    exact ⟨s_, k_, _, rfl, N30, K0, VS, spm1 (sp_skip hs1 (by omega) cS) cX, hMk⟩
  ·have hq : i_ = n ∨ sp? (c_ i_) = true := Or.inl cI
   refine jN X0 hx (D 0 rfl) ?_ rfl
   refine jN X0 hx (D 1 rfl) ?_ rfl
   refine gY X0 hx (pc := 2) (pc' := 6) (D 2 rfl) (flt (nlN n i_ (by omega) (by omega) (by omega))).2.2.2 ?_ (by decide) (by decide)
   refine jN X0 hx (D 4 rfl) ?_ rfl
   refine jN X0 hx (D 5 rfl) ?_ rfl
   refine gY X0 hx (pc := 8) (pc' := 20) (D 6 rfl) (teq (yeN i_ n (by omega) (by omega) (by omega))).1 ?_ (by decide) (by decide)
   show Gt s₁ m 20 _ []
   refine aN X0 hx (D 12 rfl) ?_ rfl rfl
   refine aW X0 hx (D 13 rfl) ?_ rfl rfl
   refine giconst X0 hx (D 14 rfl) ?_
   refine qIa X0 hx hZ e0 VS ⟨by decide, by decide⟩ (v := (.int (iN s_))) rfl (D 15 rfl) ?_
   refine jN X0 hx (D 16 rfl) ?_ rfl
   refine zS X0 hx hZ hown hw 46 47 48 4 (rmFk l hw aC kC c_ s_ i_ Z0 VC (by omega) (by omega)) e0 hml (D 17 rfl) pd43 (W := 0) (rest := []) ?_ rfl rfl rfl rfl (by decide) (lq rfl) rfl rfl rfl
   rintro T32 L32 v32 X32 ⟨rfl, N32q, eh32⟩
   have N32 := Fr.app N0 N32q
   refine gistore X32 hx (D 18 rfl) (l' := #[rv r, rv aC, iv (iN n), iv (iN i_), rv aS, iv (iN (fk c_ s_ i_)), .unset]) rfl ?_
   refine aN X32 hx (D 19 rfl) ?_ rfl rfl
   refine jW X32 hx (D 20 rfl) ?_ rfl
   show Gt T32 m 34 _ [(.int (iN (fk c_ s_ i_))), (.ref aC)]
   refine jN X32 hx (D 21 rfl) ?_ rfl
   refine zS X32 hx hZ hown hw 49 50 51 4 (rmLk l hw aC kC c_ (fk c_ s_ i_) i_ Z0 VC (by omega) hf1) eh32 hml (D 22 rfl) pd43 (W := 0) (rest := []) ?_ rfl rfl rfl rfl (by decide) (lq rfl) rfl rfl rfl
   rintro T33 L33 v33 X33 ⟨rfl, N33q, eh33⟩
   have N33 := Fr.app N32 N33q
   refine gistore X33 hx (D 23 rfl) (l' := #[rv r, rv aC, iv (iN n), iv (iN i_), rv aS, iv (iN (fk c_ s_ i_)), iv (iN (lk c_ (fk c_ s_ i_) i_))]) rfl ?_
   refine jW X33 hx (D 24 rfl) ?_ rfl
   refine jW X33 hx (D 25 rfl) ?_ rfl
   show Gt T33 m 44 _ [(.int (iN (lk c_ (fk c_ s_ i_) i_))), (.int (iN (fk c_ s_ i_)))]
   rcases Nat.lt_or_ge (fk c_ s_ i_) (lk c_ (fk c_ s_ i_) i_) with cLT | cLE
   ·have hit := sp_hit hs1 hq cX cLT hF
    rw [hMk] at hit
    rcases hit2 hit with ⟨hk0, hk1, hk2⟩ | ⟨hk0, hk1, hk2⟩
    ·have he1 : lo0 = fk c_ s_ i_ := hk1
     have he2 : hi0 = lk c_ (fk c_ s_ i_) i_ := hk2
     show Gt T33 m 44 _ [(.int (iN (lk c_ (fk c_ s_ i_) i_))), (.int (iN (fk c_ s_ i_)))]
     refine gicmpNo X33 hx (D 26 rfl) (tlt (ylN (fk c_ s_ i_) (lk c_ (fk c_ s_ i_) i_) (by omega) (by omega) (by omega))).2.1 ?_
     refine aW X33 hx (D 27 rfl) ?_ rfl rfl
     refine giconst X33 hx (D 28 rfl) ?_
     refine qIa X33 hx hZ eh33 VS ⟨by decide, by decide⟩ (v := (.int (iN k_))) rfl (D 29 rfl) ?_
     refine aN X33 hx (D 30 rfl) ?_ rfl rfl
     refine zI X33 hx hZ hown hw 52 rfl 53 (mvT hZ (hw 54 rfl)) 316 317 318 319 320 321 285 (rmZs2 l hw r eM j1 Z0 F1 Sem (exaNe B1.1 Eo (by decide))) eh33 Er hml (D 31 rfl) pd20 (W := 1) (rest := [(.int (iN k_))]) ?_ rfl rfl rfl rfl rfl rfl rfl rfl (by decide) (lq rfl) rfl rfl rfl
     rintro T35 L35 v35 X35 ⟨rfl, N35q, eh35⟩
     have N35 := Fr.app N33 N35q
     refine gicmpNo X35 hx (D 32 rfl) (tlt (ylN k_ 2 (by omega) (by omega) (by omega))).2.1 ?_
     refine aN X35 hx (D 33 rfl) ?_ rfl rfl
     refine aW X35 hx (D 34 rfl) ?_ rfl rfl
     show Gt T35 m 63 _ [(.ref aS), (.ref r)]
     refine giconst X35 hx (D 35 rfl) ?_
     refine qIa X35 hx hZ eh35 VS ⟨by decide, by decide⟩ (v := (.int (iN k_))) rfl (D 36 rfl) ?_
     show Gt T35 m 65 _ [(.int (iN k_)), (.ref r)]
     rw [show (iN k_) = (0 : Int32) from by rw [hk0]; rfl]
     refine zI X35 hx hZ hown hw 322 rfl 323 (mvT hZ (hw 324 rfl)) 325 326 327 328 320 329 285 (rmGe0 l hw r j0 Z0 F0) eh35 Er hml (D 37 rfl) pd44 (W := 0) (rest := []) ?_ rfl rfl rfl rfl rfl rfl rfl rfl (by decide) (lq rfl) rfl rfl rfl
     rintro T37 L37 v37 X37 ⟨rfl, N37q, eh37⟩
     have N37 := Fr.app N35 N37q
     refine qCY X37 hx hZ hown (hw 6 rfl) eh37 (Ins.self B0.1) (D 38 rfl) ?_
     intro T38 X38 e38
     refine aN X38 hx (D 39 rfl) ?_ rfl rfl
     refine jW X38 hx (D 40 rfl) ?_ rfl
     refine jW X38 hx (D 41 rfl) ?_ rfl
     refine zS X38 hx hZ hown hw 330 331 332 4 (rmEq l hw j0 q0 y0 w0 (hi0 - lo0) (fun i => c_ (lo0 + i)) aC kC c_ (fk c_ s_ i_) (lk c_ (fk c_ s_ i_) i_) cs fm Z0 Scs hcs Sd Sh Sl Sfm hfm VC B0 (by rw [he1, he2]) cLT (by omega) (fun i _ => by show c_ (lo0 + i) = _; rw [he1])) e38 hml (D 42 rfl) pd45 (W := 0) (rest := []) ?_ rfl rfl rfl rfl (by decide) (lq rfl) rfl rfl rfl
     rintro T39 L39 v39 X39 ⟨rfl, N39q, eh39⟩
     have N39 := Fr.app N37 N39q
     refine gT X39 hx (pc := 81) (pc' := 89) (D 43 rfl) (by decide) ?_ (by decide) (by decide)
     refine aW X39 hx (D 44 rfl) ?_ rfl rfl
     refine giconst X39 hx (D 45 rfl) ?_
     show Gt T39 m 92 _ [(.int 1), (.ref aS)]
     refine aW X39 hx (D 46 rfl) ?_ rfl rfl
     refine giconst X39 hx (D 47 rfl) ?_
     refine qIa X39 hx hZ eh39 VS ⟨by decide, by decide⟩ (v := (.int (iN k_))) rfl (D 48 rfl) ?_
     refine giconst X39 hx (D 49 rfl) ?_
     refine giadd X39 hx (D 50 rfl) ?_
     show Gt T39 m 98 _ [(.int ((iN k_) + (1 : Int32))), (.int 1), (.ref aS)]
     rw [show ((iN k_) + (1 : Int32)) = (iN (k_ + 1)) from iN_add k_ 1]
     obtain ⟨cl41, Ar41, qk41, Sz41, qz41, Ha41, Gf41⟩ := id VS
     obtain ⟨T41, h41, X41, e41, W41, st41⟩ := stI X39 hx hZ eh39 Ar41 (inb_of Sz41 ⟨by decide, by decide⟩) (g := (mkF m 98 #[rv r, rv aC, iv (iN n), iv (iN i_), rv aS, iv (iN (fk c_ s_ i_)), iv (iN (lk c_ (fk c_ s_ i_) i_))] [(.int (iN (k_ + 1))), (.int 1), (.ref aS)])) rfl rfl (D 51 rfl)
     have N41 := Fr.snoc X41 N39 gS
     have V41 : Arv Z h41 aS kS .int 3 [(.int (iN s_)), (.int (iN (k_ + 1))), (.int 1)] (.int 0) := (Arv.set Ar41 qk41 Sz41 qz41 Ha41 Gf41 rfl W41 1 (by decide) (by simp))
     refine Goes.st st41 ?_
     have KK42 := K0.wr W41 (Or.inl (mI 0 rfl))
     have Z41 : n0 ≤ h41.size := by have := W41.size; have := Z0; omega
     refine aW X41 hx (D 52 rfl) ?_ rfl rfl
     refine giconst X41 hx (D 53 rfl) ?_
     refine jN X41 hx (D 54 rfl) ?_ rfl
     refine giconst X41 hx (D 55 rfl) ?_
     refine giadd X41 hx (D 56 rfl) ?_
     show Gt T41 m 105 #[rv r, rv aC, iv (iN n), iv (iN i_), rv aS, iv (iN (fk c_ s_ i_)), iv (iN (lk c_ (fk c_ s_ i_) i_))] [(.int ((iN i_) + (1 : Int32))), (.int 0), (.ref aS)]
     rw [show ((iN i_) + (1 : Int32)) = (iN (i_ + 1)) from iN_add i_ 1]
     obtain ⟨cl43, Ar43, qk43, Sz43, qz43, Ha43, Gf43⟩ := id V41
     obtain ⟨T43, h43, X43, e43, W43, st43⟩ := stI X41 hx hZ e41 Ar43 (inb_of Sz43 ⟨by decide, by decide⟩) (g := (mkF m 105 #[rv r, rv aC, iv (iN n), iv (iN i_), rv aS, iv (iN (fk c_ s_ i_)), iv (iN (lk c_ (fk c_ s_ i_) i_))] [(.int (iN (i_ + 1))), (.int 0), (.ref aS)])) rfl rfl (D 57 rfl)
     have N43 := Fr.snoc X43 N41 gS
     have V43 : Arv Z h43 aS kS .int 3 [(.int (iN (i_ + 1))), (.int (iN (k_ + 1))), (.int 1)] (.int 0) := (Arv.set Ar43 qk43 Sz43 qz43 Ha43 Gf43 rfl W43 0 (by decide) (by simp))
     refine Goes.st st43 ?_
     have KK44 := KK42.wr W43 (Or.inl (mI 0 rfl))
     have Z43 : n0 ≤ h43.size := by have := W43.size; have := Z41; omega
     refine rV X43 hx hret (D 58 rfl) hlk ?_ (by decide) (by decide)
     rw [e43]
     exact ⟨(i_ + 1), (k_ + 1), _, rfl, N43, KK44, V43, spm1 (sp_add hs1 hq cLT) cX, by rw [List.length_append, hMk]; rfl⟩
    ·have he1 : lo1 = fk c_ s_ i_ := hk1
     have he2 : hi1 = lk c_ (fk c_ s_ i_) i_ := hk2
     show Gt T33 m 44 _ [(.int (iN (lk c_ (fk c_ s_ i_) i_))), (.int (iN (fk c_ s_ i_)))]
     refine gicmpNo X33 hx (D 26 rfl) (tlt (ylN (fk c_ s_ i_) (lk c_ (fk c_ s_ i_) i_) (by omega) (by omega) (by omega))).2.1 ?_
     refine aW X33 hx (D 27 rfl) ?_ rfl rfl
     refine giconst X33 hx (D 28 rfl) ?_
     refine qIa X33 hx hZ eh33 VS ⟨by decide, by decide⟩ (v := (.int (iN k_))) rfl (D 29 rfl) ?_
     refine aN X33 hx (D 30 rfl) ?_ rfl rfl
     refine zI X33 hx hZ hown hw 52 rfl 53 (mvT hZ (hw 54 rfl)) 316 317 318 319 320 321 285 (rmZs2 l hw r eM j1 Z0 F1 Sem (exaNe B1.1 Eo (by decide))) eh33 Er hml (D 31 rfl) pd20 (W := 1) (rest := [(.int (iN k_))]) ?_ rfl rfl rfl rfl rfl rfl rfl rfl (by decide) (lq rfl) rfl rfl rfl
     rintro T46 L46 v46 X46 ⟨rfl, N46q, eh46⟩
     have N46 := Fr.app N33 N46q
     refine gicmpNo X46 hx (D 32 rfl) (tlt (ylN k_ 2 (by omega) (by omega) (by omega))).2.1 ?_
     refine aN X46 hx (D 33 rfl) ?_ rfl rfl
     refine aW X46 hx (D 34 rfl) ?_ rfl rfl
     show Gt T46 m 63 _ [(.ref aS), (.ref r)]
     refine giconst X46 hx (D 35 rfl) ?_
     refine qIa X46 hx hZ eh46 VS ⟨by decide, by decide⟩ (v := (.int (iN k_))) rfl (D 36 rfl) ?_
     show Gt T46 m 65 _ [(.int (iN k_)), (.ref r)]
     rw [show (iN k_) = (1 : Int32) from by rw [hk0]; rfl]
     refine zI X46 hx hZ hown hw 322 rfl 323 (mvT hZ (hw 324 rfl)) 325 326 327 328 320 329 285 (rmGe1 l hw r eM j1 Z0 F1 Sem (exaNe B1.1 Eo (by decide))) eh46 Er hml (D 37 rfl) pd44 (W := 0) (rest := []) ?_ rfl rfl rfl rfl rfl rfl rfl rfl (by decide) (lq rfl) rfl rfl rfl
     rintro T48 L48 v48 X48 ⟨rfl, N48q, eh48⟩
     have N48 := Fr.app N46 N48q
     refine qCY X48 hx hZ hown (hw 6 rfl) eh48 (Ins.self B1.1) (D 38 rfl) ?_
     intro T49 X49 e49
     refine aN X49 hx (D 39 rfl) ?_ rfl rfl
     refine jW X49 hx (D 40 rfl) ?_ rfl
     refine jW X49 hx (D 41 rfl) ?_ rfl
     refine zS X49 hx hZ hown hw 330 331 332 4 (rmEq l hw j1 q1 y1 w1 (hi1 - lo1) (fun i => c_ (lo1 + i)) aC kC c_ (fk c_ s_ i_) (lk c_ (fk c_ s_ i_) i_) cs fm Z0 Scs hcs Sd Sh Sl Sfm hfm VC B1 (by rw [he1, he2]) cLT (by omega) (fun i _ => by show c_ (lo1 + i) = _; rw [he1])) e49 hml (D 42 rfl) pd45 (W := 0) (rest := []) ?_ rfl rfl rfl rfl (by decide) (lq rfl) rfl rfl rfl
     rintro T50 L50 v50 X50 ⟨rfl, N50q, eh50⟩
     have N50 := Fr.app N48 N50q
     refine gT X50 hx (pc := 81) (pc' := 89) (D 43 rfl) (by decide) ?_ (by decide) (by decide)
     refine aW X50 hx (D 44 rfl) ?_ rfl rfl
     refine giconst X50 hx (D 45 rfl) ?_
     show Gt T50 m 92 _ [(.int 1), (.ref aS)]
     refine aW X50 hx (D 46 rfl) ?_ rfl rfl
     refine giconst X50 hx (D 47 rfl) ?_
     refine qIa X50 hx hZ eh50 VS ⟨by decide, by decide⟩ (v := (.int (iN k_))) rfl (D 48 rfl) ?_
     refine giconst X50 hx (D 49 rfl) ?_
     refine giadd X50 hx (D 50 rfl) ?_
     show Gt T50 m 98 _ [(.int ((iN k_) + (1 : Int32))), (.int 1), (.ref aS)]
     rw [show ((iN k_) + (1 : Int32)) = (iN (k_ + 1)) from iN_add k_ 1]
     obtain ⟨cl52, Ar52, qk52, Sz52, qz52, Ha52, Gf52⟩ := id VS
     obtain ⟨T52, h52, X52, e52, W52, st52⟩ := stI X50 hx hZ eh50 Ar52 (inb_of Sz52 ⟨by decide, by decide⟩) (g := (mkF m 98 #[rv r, rv aC, iv (iN n), iv (iN i_), rv aS, iv (iN (fk c_ s_ i_)), iv (iN (lk c_ (fk c_ s_ i_) i_))] [(.int (iN (k_ + 1))), (.int 1), (.ref aS)])) rfl rfl (D 51 rfl)
     have N52 := Fr.snoc X52 N50 gS
     have V52 : Arv Z h52 aS kS .int 3 [(.int (iN s_)), (.int (iN (k_ + 1))), (.int 1)] (.int 0) := (Arv.set Ar52 qk52 Sz52 qz52 Ha52 Gf52 rfl W52 1 (by decide) (by simp))
     refine Goes.st st52 ?_
     have KK53 := K0.wr W52 (Or.inl (mI 0 rfl))
     have Z52 : n0 ≤ h52.size := by have := W52.size; have := Z0; omega
     refine aW X52 hx (D 52 rfl) ?_ rfl rfl
     refine giconst X52 hx (D 53 rfl) ?_
     refine jN X52 hx (D 54 rfl) ?_ rfl
     refine giconst X52 hx (D 55 rfl) ?_
     refine giadd X52 hx (D 56 rfl) ?_
     show Gt T52 m 105 #[rv r, rv aC, iv (iN n), iv (iN i_), rv aS, iv (iN (fk c_ s_ i_)), iv (iN (lk c_ (fk c_ s_ i_) i_))] [(.int ((iN i_) + (1 : Int32))), (.int 0), (.ref aS)]
     rw [show ((iN i_) + (1 : Int32)) = (iN (i_ + 1)) from iN_add i_ 1]
     obtain ⟨cl54, Ar54, qk54, Sz54, qz54, Ha54, Gf54⟩ := id V52
     obtain ⟨T54, h54, X54, e54, W54, st54⟩ := stI X52 hx hZ e52 Ar54 (inb_of Sz54 ⟨by decide, by decide⟩) (g := (mkF m 105 #[rv r, rv aC, iv (iN n), iv (iN i_), rv aS, iv (iN (fk c_ s_ i_)), iv (iN (lk c_ (fk c_ s_ i_) i_))] [(.int (iN (i_ + 1))), (.int 0), (.ref aS)])) rfl rfl (D 57 rfl)
     have N54 := Fr.snoc X54 N52 gS
     have V54 : Arv Z h54 aS kS .int 3 [(.int (iN (i_ + 1))), (.int (iN (k_ + 1))), (.int 1)] (.int 0) := (Arv.set Ar54 qk54 Sz54 qz54 Ha54 Gf54 rfl W54 0 (by decide) (by simp))
     refine Goes.st st54 ?_
     have KK55 := KK53.wr W54 (Or.inl (mI 0 rfl))
     have Z54 : n0 ≤ h54.size := by have := W54.size; have := Z52; omega
     refine rV X54 hx hret (D 58 rfl) hlk ?_ (by decide) (by decide)
     rw [e54]
     exact ⟨(i_ + 1), (k_ + 1), _, rfl, N54, KK55, V54, spm1 (sp_add hs1 hq cLT) cX, by rw [List.length_append, hMk]; rfl⟩
   ·have cLN := Nat.not_lt.mpr cLE
    refine gY X33 hx (pc := 44) (pc' := 99) (D 26 rfl) (flt (nlN (fk c_ s_ i_) (lk c_ (fk c_ s_ i_) i_) (by omega) (by omega) (by omega))).2.1 ?_ (by decide) (by decide)
    refine aW X33 hx (D 52 rfl) ?_ rfl rfl
    refine giconst X33 hx (D 53 rfl) ?_
    refine jN X33 hx (D 54 rfl) ?_ rfl
    refine giconst X33 hx (D 55 rfl) ?_
    refine giadd X33 hx (D 56 rfl) ?_
    show Gt T33 m 105 _ [(.int ((iN i_) + (1 : Int32))), (.int 0), (.ref aS)]
    rw [show ((iN i_) + (1 : Int32)) = (iN (i_ + 1)) from iN_add i_ 1]
    obtain ⟨cl56, Ar56, qk56, Sz56, qz56, Ha56, Gf56⟩ := id VS
    obtain ⟨T56, h56, X56, e56, W56, st56⟩ := stI X33 hx hZ eh33 Ar56 (inb_of Sz56 ⟨by decide, by decide⟩) (g := (mkF m 105 #[rv r, rv aC, iv (iN n), iv (iN i_), rv aS, iv (iN (fk c_ s_ i_)), iv (iN (lk c_ (fk c_ s_ i_) i_))] [(.int (iN (i_ + 1))), (.int 0), (.ref aS)])) rfl rfl (D 57 rfl)
    have N56 := Fr.snoc X56 N33 gS
    have V56 : Arv Z h56 aS kS .int 3 [(.int (iN (i_ + 1))), (.int (iN k_)), (.int 1)] (.int 0) := (Arv.set Ar56 qk56 Sz56 qz56 Ha56 Gf56 rfl W56 0 (by decide) (by simp))
    refine Goes.st st56 ?_
    have KK57 := K0.wr W56 (Or.inl (mI 0 rfl))
    have Z56 : n0 ≤ h56.size := by have := W56.size; have := Z0; omega
    refine rV X56 hx hret (D 58 rfl) hlk ?_ (by decide) (by decide)
    rw [e56]
    exact ⟨(i_ + 1), k_, _, rfl, N56, KK57, V56, spm1 (sp_nil hs1 hq cLN) cX, hMk⟩
def c4 (a b c d : Int32) (i : Nat) : Int32 := match i with | 0 => a | 1 => b | 2 => c | _ => d
theorem c4_ok {a b c d : Int32} (ha : 0 ≤ a.toInt ∧ a.toInt < 65536) (hb : 0 ≤ b.toInt ∧ b.toInt < 65536) (hc : 0 ≤ c.toInt ∧ c.toInt < 65536) (hd : 0 ≤ d.toInt ∧ d.toInt < 65536) (i : Nat) : 0 ≤ (c4 a b c d i).toInt ∧ (c4 a b c d i).toInt < 65536 := by
 unfold c4; split <;> assumption
theorem own_rem5 (x : Int32) : ∃ n, n ≤ 4 ∧ (x &&& (2147483647 : Int32)) % (5 : Int32) = iN n := by
 have h : 0 ≤ (x &&& (2147483647 : Int32)).toInt := by
  have hm : (x &&& (2147483647 : Int32)).toBitVec.msb = false := by
   rw [Int32.toBitVec_and, BitVec.msb_and, show (2147483647 : Int32).toBitVec.msb = false from by decide, Bool.and_false]
  show 0 ≤ (x &&& (2147483647 : Int32)).toBitVec.toInt
  rw [BitVec.toInt_eq_msb_cond, hm]; simp
 have e : ((x &&& (2147483647 : Int32)) % (5 : Int32)).toInt = (x &&& (2147483647 : Int32)).toInt.tmod 5 := Int32.toInt_mod ..
 have r0 := Int.tmod_nonneg 5 h
 have r1 := Int.tmod_lt_of_pos (x &&& (2147483647 : Int32)).toInt (b := 5) (by decide)
 refine ⟨((x &&& (2147483647 : Int32)).toInt.tmod 5).toNat, by omega, Int32.toInt_inj.mp ?_⟩
 rw [e, Int32.toInt_ofNat_of_lt (by omega)]; omega
def Q0 (Z : State) (x0 x1 x2 x3 x4 : Int32) (cs : Int32) (fm : Value) (dE : Addr) (kD : ClassId) (eL eM mO eA : Addr) (kA : ClassId) (h0 : Heap) (n0 : Nat) (v : Option Value) (h : Heap) (L : List Loc) : Prop := v = some (.int 1) ∧ Fr n0 L
theorem pd46 : parseMethodDescriptor "(Ljava/util/List;[CII[I)V" = some ⟨[(.object "java/util/List"), (.array .char), .int, .int, (.array .int)], none⟩ := by decide +kernel
theorem lwS0 {p : Program} {l : Launch} {e : Env} {s : State} {m : MethodId} {args : Array Value} {below : List Frame} {meth : Method} {c : Code}  (Z : State) (a0 : Array Value) (hw : HW a0 Z) (hx : p.tables.exec = Jvm.exec) (hby : c.code = code) (hlk : meth.locks = false) (hret : meth.sig.returnType = some .boolean) (hml : c.maxLocals = 10) (hnm : meth.name = "law") (vm0 : Vm) (kS0 : Nat) (hS : s.Since vm0 kS0) (hown : (s.setVm vm0).vm.findClass "com/example/engarce/engarce/NameListSplitPinLaw" = some m.cls) (hZ : Z.Warmed39 (s.setVm vm0).vm) (x0 x1 x2 x3 x4 : Int32) (cs : Int32) (fm : Value) (dE : Addr) (kD : ClassId) (mO : Addr) (eL eM eA : Addr) (kA : ClassId) (r rb : Addr) (aC : Addr) (kC : ClassId) (c_ : Nat → Int32) (n : Nat) (h0 hh : Heap) (n0 : Nat) (T0 : State) (locs0 : List Loc) (X0 : Stand p l e room_1 (s.setVm vm0) m args below meth c T0 locs0 37 300) (e0 : T0.heap = hh) (N0 : Fr n0 locs0) (Z0 : n0 ≤ hh.size) (hk : kS0 ≤ hh.size) (hH : CHv Z ELs vm0 hh) (Scs : S_0 Z hh (.int cs)) (hcs : ¬ cs = (0 : Int32)) (Sd : S_2 Z hh (.int 1)) (Sh : S_3 Z hh (.int 0)) (Sl : S_4 Z hh (.int 8)) (Sfm : S_1 Z hh fm) (hfm : fm.isRef = true) (VC : Arv Z hh aC kC .char 4 (rg 4 (fun i => .int (c_ i))) (.int 0)) (Er : X_4 Z hh r) (Fl : F_7 Z hh r (.ref eA)) (Aa : Arv Z hh eA kA (.object "java/lang/Object") 0 [] .null) (hn4 : n ≤ 4) (hF : (sp c_ n (n + 1)).2 = []) :
  Goes p e below (EV s (Q0 Z x0 x1 x2 x3 x4 cs fm dE kD eL eM mO eA kA h0 n0) 48 3328) (T0.setTop (mkF m 221 #[iv x0, iv x1, iv x2, iv x3, iv x4, iv (iN n), rv aC, rv rb, rv r, .unset] [])) := by
 have hR := CHr.refl hH
 show Gt T0 m 221 _ []
 refine giconst X0 hx (hb hby at_221) ?_
 obtain ⟨T1, h1, cA1, X1, e1, E1, A1, EA1, st1⟩ := newPE X0 hx hZ (hw 42 rfl) e0 (g := (mkF m 222 #[iv x0, iv x1, iv x2, iv x3, iv x4, iv (iN n), rv aC, rv rb, rv r, .unset] [(.int 3)])) rfl (hb hby at_222) rfl (by decide) (cap := 3) (by decide) (by decide) (by decide) (by decide) (ad := "[I") (by decide)
 obtain ⟨b1, g1⟩ : ∃ z, z = hh.size := ⟨_, rfl⟩
 rw [← g1] at A1 st1 EA1
 have lo_b1 := loB Z0 g1
 have hk := lT hk E1.1
 have hR := hR.trans (CHr.ext E1 hR.1)
 have V1 : Arv Z h1 b1 cA1 .int 3 [(.int 0), (.int 0), (.int 0)] (.int 0) := (Arv.new A1 (by decide)).pad (pad_rep [] _ 3)
 refine Goes.st st1 ?_
 have Z1 := lT Z0 E1.1
 refine gdup X1 hx (hb hby at_224) rfl ?_
 refine giconst X1 hx (hb hby at_225) ?_
 refine giconst X1 hx (hb hby at_226) ?_
 show Gt T1 m 227 #[iv x0, iv x1, iv x2, iv x3, iv x4, iv (iN n), rv aC, rv rb, rv r, .unset] [(.int 0), (.int 0), (.ref b1), (.ref b1)]
 obtain ⟨cl3, Ar3, qk3, Sz3, qz3, Ha3, Gf3⟩ := id V1
 obtain ⟨T3, h3, X3, e3, W3, st3⟩ := stI X1 hx hZ e1 Ar3 (inb_of Sz3 ⟨by decide, by decide⟩) (g := (mkF m 227 #[iv x0, iv x1, iv x2, iv x3, iv x4, iv (iN n), rv aC, rv rb, rv r, .unset] [(.int 0), (.int 0), (.ref b1), (.ref b1)])) rfl rfl (hb hby at_227)
 have N3 := Fr.snoc X3 N0 lo_b1
 have V3 : Arv Z h3 b1 cA1 .int 3 [(.int 0), (.int 0), (.int 0)] (.int 0) := (Arv.set Ar3 qk3 Sz3 qz3 Ha3 Gf3 rfl W3 0 (by decide) (by simp))
 refine Goes.st st3 ?_
 have hk := lT hk (Nat.le_of_eq W3.size.symm)
 have hR := hR.trans (CHr.wr W3 (Safe.exa hZ.alike EA1 (by decide) (by decide)) hR.1)
 have Z3 : n0 ≤ h3.size := by have := W3.size; have := Z1; omega
 refine gdup X3 hx (hb hby at_228) rfl ?_
 refine giconst X3 hx (hb hby at_229) ?_
 refine giconst X3 hx (hb hby at_230) ?_
 show Gt T3 m 231 #[iv x0, iv x1, iv x2, iv x3, iv x4, iv (iN n), rv aC, rv rb, rv r, .unset] [(.int 0), (.int 1), (.ref b1), (.ref b1)]
 obtain ⟨cl5, Ar5, qk5, Sz5, qz5, Ha5, Gf5⟩ := id V3
 obtain ⟨T5, h5, X5, e5, W5, st5⟩ := stI X3 hx hZ e3 Ar5 (inb_of Sz5 ⟨by decide, by decide⟩) (g := (mkF m 231 #[iv x0, iv x1, iv x2, iv x3, iv x4, iv (iN n), rv aC, rv rb, rv r, .unset] [(.int 0), (.int 1), (.ref b1), (.ref b1)])) rfl rfl (hb hby at_231)
 have N5 := Fr.snoc X5 N3 lo_b1
 have V5 : Arv Z h5 b1 cA1 .int 3 [(.int 0), (.int 0), (.int 0)] (.int 0) := (Arv.set Ar5 qk5 Sz5 qz5 Ha5 Gf5 rfl W5 1 (by decide) (by simp))
 refine Goes.st st5 ?_
 have hk := lT hk (Nat.le_of_eq W5.size.symm)
 have f6 := (EA1.wr W3)
 have hR := hR.trans (CHr.wr W5 (Safe.exa hZ.alike f6 (by decide) (by decide)) hR.1)
 have Z5 : n0 ≤ h5.size := by have := W5.size; have := Z3; omega
 refine gdup X5 hx (hb hby at_232) rfl ?_
 refine giconst X5 hx (hb hby at_233) ?_
 refine giconst X5 hx (hb hby at_234) ?_
 show Gt T5 m 235 #[iv x0, iv x1, iv x2, iv x3, iv x4, iv (iN n), rv aC, rv rb, rv r, .unset] [(.int 1), (.int 2), (.ref b1), (.ref b1)]
 obtain ⟨cl8, Ar8, qk8, Sz8, qz8, Ha8, Gf8⟩ := id V5
 obtain ⟨T8, h8, X8, e8, W8, st8⟩ := stI X5 hx hZ e5 Ar8 (inb_of Sz8 ⟨by decide, by decide⟩) (g := (mkF m 235 #[iv x0, iv x1, iv x2, iv x3, iv x4, iv (iN n), rv aC, rv rb, rv r, .unset] [(.int 1), (.int 2), (.ref b1), (.ref b1)])) rfl rfl (hb hby at_235)
 have N8 := Fr.snoc X8 N5 lo_b1
 have V8 : Arv Z h8 b1 cA1 .int 3 [(.int 0), (.int 0), (.int 1)] (.int 0) := (Arv.set Ar8 qk8 Sz8 qz8 Ha8 Gf8 rfl W8 2 (by decide) (by simp))
 refine Goes.st st8 ?_
 have hk := lT hk (Nat.le_of_eq W8.size.symm)
 have f9 := (f6.wr W5)
 have hR := hR.trans (CHr.wr W8 (Safe.exa hZ.alike f9 (by decide) (by decide)) hR.1)
 have Z8 : n0 ≤ h8.size := by have := W8.size; have := Z5; omega
 refine gastore X8 hx (hb hby at_236) rfl (l' := #[iv x0, iv x1, iv x2, iv x3, iv x4, iv (iN n), rv aC, rv rb, rv r, rv b1]) rfl ?_
 refine gaload X8 hx (hb hby at_238) rfl rfl ?_
 refine gaload X8 hx (hb hby at_240) rfl rfl ?_
 refine giload X8 hx (hb hby at_242) rfl ?_
 refine giconst X8 hx (hb hby at_244) ?_
 refine gaload X8 hx (hb hby at_245) rfl rfl ?_
 have f11 := ((((Scs.ext E1).wr W3).wr W5).wr W8)
 have f12 := ((((Sd.ext E1).wr W3).wr W5).wr W8)
 have f13 := ((((Sh.ext E1).wr W3).wr W5).wr W8)
 have f14 := ((((Sl.ext E1).wr W3).wr W5).wr W8)
 have f15 := ((((Sfm.ext E1).wr W3).wr W5).wr W8)
 have ne16 := neB VC.lt g1
 have f17 := ((((VC.ext E1).other W3 ne16).other W5 ne16).other W8 ne16)
 have f18 := ((((Er.ext E1).wr W3).wr W5).wr W8)
 have ne19 := neB Er.lt g1
 have f20 := ((((Fl.ext E1).other W3 (Or.inl ne19)).other W5 (Or.inl ne19)).other W8 (Or.inl ne19))
 have ne21 := neB Aa.lt g1
 have f22 := ((((Aa.ext E1).other W3 ne21).other W5 ne21).other W8 ne21)
 have f23 := (f9.wr W8)
 refine zS X8 hx hZ hown hw 43 44 45 4 (rmSq0 l hw r aC kC c_ n 0 b1 cA1 0 0 [] cs fm eL eM eA kA Z8 f11 hcs f12 f13 f14 f15 hfm f17 V8 lo_b1 f18 f20 f22 hn4 (by decide) (by rw [Nat.zero_min]; rfl) rfl hF) e8 hml (hb hby at_247) pd46 (W := 0) (rest := []) ?_ rfl rfl rfl rfl (by decide) (lq rfl) rfl rfl rfl
 rintro T24 L24 v24 X24 ⟨s24, k24, M24, rfl, N24q, K24, V24, sp24, hM24⟩
 have hk := lT hk K24.1
 have hR := hR.trans (CHr.keep K24 (sfS (Safe.exa hZ.alike f23 (by decide) (by decide)) sf0) hR.1)
 have Z24 := lT Z8 K24.1
 have N24 := Fr.app N8 N24q
 refine gaload X24 hx (hb hby at_250) rfl rfl ?_
 show Gt T24 m 252 _ [(.ref r)]
 refine gaload X24 hx (hb hby at_252) rfl rfl ?_
 refine giload X24 hx (hb hby at_254) rfl ?_
 refine giconst X24 hx (hb hby at_256) ?_
 refine gaload X24 hx (hb hby at_257) rfl rfl ?_
 have f26 := (f11.kept K24 (nsS (Exa.nostat f23) ns0))
 have f27 := (f12.kept K24 (nsS (Exa.nostat f23) ns0))
 have f28 := (f13.kept K24 (nsS (Exa.nostat f23) ns0))
 have f29 := (f14.kept K24 (nsS (Exa.nostat f23) ns0))
 have f30 := (f15.kept K24 (nsS (Exa.nostat f23) ns0))
 have f31 := (f17.keep K24 (ninS ne16 nin0))
 have f32 := (f18.keep K24)
 have f33 := (f20.keep K24 (ninS ne19 nin0))
 have f34 := (f22.keep K24 (ninS ne21 nin0))
 have f35 := (f23.keep K24)
 refine zS X24 hx hZ hown hw 43 44 45 4 (rmSq0 l hw r aC kC c_ n 1 b1 cA1 s24 k24 M24 cs fm eL eM eA kA Z24 f26 hcs f27 f28 f29 f30 hfm f31 V24 lo_b1 f32 f33 f34 hn4 (by decide) sp24 hM24 hF) rfl hml (hb hby at_259) pd46 (W := 0) (rest := []) ?_ rfl rfl rfl rfl (by decide) (lq rfl) rfl rfl rfl
 rintro T36 L36 v36 X36 ⟨s36, k36, M36, rfl, N36q, K36, V36, sp36, hM36⟩
 have hk := lT hk K36.1
 have hR := hR.trans (CHr.keep K36 (sfS (Safe.exa hZ.alike f35 (by decide) (by decide)) sf0) hR.1)
 have Z36 := lT Z24 K36.1
 have N36 := Fr.app N24 N36q
 refine gaload X36 hx (hb hby at_262) rfl rfl ?_
 refine gaload X36 hx (hb hby at_264) rfl rfl ?_
 refine giload X36 hx (hb hby at_266) rfl ?_
 refine giconst X36 hx (hb hby at_268) ?_
 show Gt T36 m 269 _ [(.int 2), (.int (iN n)), (.ref aC), (.ref r)]
 refine gaload X36 hx (hb hby at_269) rfl rfl ?_
 have f38 := (f26.kept K36 (nsS (Exa.nostat f35) ns0))
 have f39 := (f27.kept K36 (nsS (Exa.nostat f35) ns0))
 have f40 := (f28.kept K36 (nsS (Exa.nostat f35) ns0))
 have f41 := (f29.kept K36 (nsS (Exa.nostat f35) ns0))
 have f42 := (f30.kept K36 (nsS (Exa.nostat f35) ns0))
 have f43 := (f31.keep K36 (ninS ne16 nin0))
 have f44 := (f32.keep K36)
 have f45 := (f33.keep K36 (ninS ne19 nin0))
 have f46 := (f34.keep K36 (ninS ne21 nin0))
 have f47 := (f35.keep K36)
 refine zS X36 hx hZ hown hw 43 44 45 4 (rmSq0 l hw r aC kC c_ n 2 b1 cA1 s36 k36 M36 cs fm eL eM eA kA Z36 f38 hcs f39 f40 f41 f42 hfm f43 V36 lo_b1 f44 f45 f46 hn4 (by decide) sp36 hM36 hF) rfl hml (hb hby at_271) pd46 (W := 0) (rest := []) ?_ rfl rfl rfl rfl (by decide) (lq rfl) rfl rfl rfl
 rintro T48 L48 v48 X48 ⟨s48, k48, M48, rfl, N48q, K48, V48, sp48, hM48⟩
 have hk := lT hk K48.1
 have hR := hR.trans (CHr.keep K48 (sfS (Safe.exa hZ.alike f47 (by decide) (by decide)) sf0) hR.1)
 have Z48 := lT Z36 K48.1
 have N48 := Fr.app N36 N48q
 refine gaload X48 hx (hb hby at_274) rfl rfl ?_
 refine gaload X48 hx (hb hby at_276) rfl rfl ?_
 refine giload X48 hx (hb hby at_278) rfl ?_
 refine giconst X48 hx (hb hby at_280) ?_
 refine gaload X48 hx (hb hby at_281) rfl rfl ?_
 have f50 := (f38.kept K48 (nsS (Exa.nostat f47) ns0))
 have f51 := (f39.kept K48 (nsS (Exa.nostat f47) ns0))
 have f52 := (f40.kept K48 (nsS (Exa.nostat f47) ns0))
 have f53 := (f41.kept K48 (nsS (Exa.nostat f47) ns0))
 have f54 := (f42.kept K48 (nsS (Exa.nostat f47) ns0))
 have f55 := (f43.keep K48 (ninS ne16 nin0))
 have f56 := (f44.keep K48)
 have f57 := (f45.keep K48 (ninS ne19 nin0))
 have f58 := (f46.keep K48 (ninS ne21 nin0))
 have f59 := (f47.keep K48)
 refine zS X48 hx hZ hown hw 43 44 45 4 (rmSq0 l hw r aC kC c_ n 3 b1 cA1 s48 k48 M48 cs fm eL eM eA kA Z48 f50 hcs f51 f52 f53 f54 hfm f55 V48 lo_b1 f56 f57 f58 hn4 (by decide) sp48 hM48 hF) rfl hml (hb hby at_283) pd46 (W := 0) (rest := []) ?_ rfl rfl rfl rfl (by decide) (lq rfl) rfl rfl rfl
 rintro T60 L60 v60 X60 ⟨s60, k60, M60, rfl, N60q, K60, V60, sp60, hM60⟩
 have hk := lT hk K60.1
 have hR := hR.trans (CHr.keep K60 (sfS (Safe.exa hZ.alike f59 (by decide) (by decide)) sf0) hR.1)
 have Z60 := lT Z48 K60.1
 have N60 := Fr.app N48 N60q
 refine gaload X60 hx (hb hby at_286) rfl rfl ?_
 show Gt T60 m 288 _ [(.ref r)]
 refine gaload X60 hx (hb hby at_288) rfl rfl ?_
 refine giload X60 hx (hb hby at_290) rfl ?_
 refine giconst X60 hx (hb hby at_292) ?_
 refine gaload X60 hx (hb hby at_293) rfl rfl ?_
 have f62 := (f50.kept K60 (nsS (Exa.nostat f59) ns0))
 have f63 := (f51.kept K60 (nsS (Exa.nostat f59) ns0))
 have f64 := (f52.kept K60 (nsS (Exa.nostat f59) ns0))
 have f65 := (f53.kept K60 (nsS (Exa.nostat f59) ns0))
 have f66 := (f54.kept K60 (nsS (Exa.nostat f59) ns0))
 have f67 := (f55.keep K60 (ninS ne16 nin0))
 have f68 := (f56.keep K60)
 have f69 := (f57.keep K60 (ninS ne19 nin0))
 have f70 := (f58.keep K60 (ninS ne21 nin0))
 have f71 := (f59.keep K60)
 refine zS X60 hx hZ hown hw 43 44 45 4 (rmSq0 l hw r aC kC c_ n 4 b1 cA1 s60 k60 M60 cs fm eL eM eA kA Z60 f62 hcs f63 f64 f65 f66 hfm f67 V60 lo_b1 f68 f69 f70 hn4 (by decide) sp60 hM60 hF) rfl hml (hb hby at_295) pd46 (W := 0) (rest := []) ?_ rfl rfl rfl rfl (by decide) (lq rfl) rfl rfl rfl
 rintro T72 L72 v72 X72 ⟨s72, k72, M72, rfl, N72q, K72, V72, sp72, hM72⟩
 have hk := lT hk K72.1
 have hR := hR.trans (CHr.keep K72 (sfS (Safe.exa hZ.alike f71 (by decide) (by decide)) sf0) hR.1)
 have Z72 := lT Z60 K72.1
 have N72 := Fr.app N60 N72q
 show Gt T72 m 298 _ []
 rw [show min (4 + 1) (n + 1) = n + 1 by omega] at sp72
 have hkk : k72 = 0 := by rw [sp72] at hF; rw [← hM72, show M72 = _ from hF]; rfl
 show Gt T72 m 298 _ []
 refine gaload X72 hx (hb hby at_298) rfl rfl ?_
 refine giconst X72 hx (hb hby at_300) ?_
 refine qIa X72 hx hZ rfl V72 ⟨by decide, by decide⟩ (v := (.int 1)) rfl (hb hby at_301) ?_
 refine giconst X72 hx (hb hby at_302) ?_
 refine gicmpNo X72 hx (hb hby at_303) (by decide) ?_
 refine gaload X72 hx (hb hby at_306) rfl rfl ?_
 have f75 := (f69.keep K72 (ninS ne19 nin0))
 have f76 := (f70.keep K72 (ninS ne21 nin0))
 have f78 := (f68.keep K72)
 refine zI X72 hx hZ hown hw 52 rfl 53 (mvT hZ (hw 54 rfl)) 55 56 57 58 59 61 60 (rmZn l hw r eA kA Z72 f75 f76) rfl f78 hml (hb hby at_308) pd20 (W := 0) (rest := []) ?_ rfl rfl rfl rfl rfl rfl rfl rfl (by decide) (lq rfl) rfl rfl rfl
 rintro T77 L77 v77 X77 ⟨rfl, N77q, eh77⟩
 have N77 := Fr.app N72 N77q
 refine gaload X77 hx (hb hby at_313) rfl rfl ?_
 refine giconst X77 hx (hb hby at_315) ?_
 show Gt T77 m 316 _ [(.int 1), (.ref b1), (.int 0)]
 refine qIa X77 hx hZ eh77 V72 ⟨by decide, by decide⟩ (v := (.int (iN k72))) rfl (hb hby at_316) ?_
 refine gicmpNo X77 hx (hb hby at_317) (teq (yeN 0 k72 (by omega) (by omega) (by omega))).2 ?_
 refine giconst X77 hx (hb hby at_320) ?_
 refine gG X77 hx (pc := 321) (pc' := 325) (hb hby at_321) ?_ (by decide) (by decide)
 refine Goes.retN X77 hx hret (by simp) (hb hby at_325) (by decide) (lvV X77 hlk hS (by rw [eh77]; exact hk) (vsome hret) ?_ (by decide) (by decide))
 rw [eh77]
 exact ⟨rfl, N77⟩
theorem lwS1 {p : Program} {l : Launch} {e : Env} {s : State} {m : MethodId} {args : Array Value} {below : List Frame} {meth : Method} {c : Code}  (Z : State) (a0 : Array Value) (hw : HW a0 Z) (hx : p.tables.exec = Jvm.exec) (hby : c.code = code) (hlk : meth.locks = false) (hret : meth.sig.returnType = some .boolean) (hml : c.maxLocals = 10) (hnm : meth.name = "law") (vm0 : Vm) (kS0 : Nat) (hS : s.Since vm0 kS0) (hown : (s.setVm vm0).vm.findClass "com/example/engarce/engarce/NameListSplitPinLaw" = some m.cls) (hZ : Z.Warmed39 (s.setVm vm0).vm) (x0 x1 x2 x3 x4 : Int32) (cs : Int32) (fm : Value) (dE : Addr) (kD : ClassId) (mO : Addr) (eL eM eA : Addr) (kA : ClassId) (j0 q0 : Addr) (y0 : ClassId) (w0 : Bool) (lo0 hi0 : Nat) (r rb : Addr) (aC : Addr) (kC : ClassId) (c_ : Nat → Int32) (n : Nat) (h0 hh : Heap) (n0 : Nat) (T0 : State) (locs0 : List Loc) (X0 : Stand p l e room_1 (s.setVm vm0) m args below meth c T0 locs0 37 300) (e0 : T0.heap = hh) (N0 : Fr n0 locs0) (Z0 : n0 ≤ hh.size) (hk : kS0 ≤ hh.size) (hH : CHv Z ELs vm0 hh) (Scs : S_0 Z hh (.int cs)) (hcs : ¬ cs = (0 : Int32)) (Sd : S_2 Z hh (.int 1)) (Sh : S_3 Z hh (.int 0)) (Sl : S_4 Z hh (.int 8)) (Sfm : S_1 Z hh fm) (hfm : fm.isRef = true) (VC : Arv Z hh aC kC .char 4 (rg 4 (fun i => .int (c_ i))) (.int 0)) (Er : X_3 Z hh r) (F0 : F_5 Z hh r (.ref j0)) (F1 : F_6 Z hh r (.ref eM)) (Sem : S_7 Z hh (.ref eM)) (Eo : X_5 Z hh eM) (B0 : Sb Z hh j0 q0 y0 w0 (hi0 - lo0) (fun i => c_ (lo0 + i))) (hn4 : n ≤ 4) (hF : (sp c_ n (n + 1)).2 = [(lo0, hi0)]) :
  Goes p e below (EV s (Q0 Z x0 x1 x2 x3 x4 cs fm dE kD eL eM mO eA kA h0 n0) 48 3328) (T0.setTop (mkF m 221 #[iv x0, iv x1, iv x2, iv x3, iv x4, iv (iN n), rv aC, rv rb, rv r, .unset] [])) := by
 have hR := CHr.refl hH
 show Gt T0 m 221 _ []
 refine giconst X0 hx (hb hby at_221) ?_
 obtain ⟨T1, h1, cA1, X1, e1, E1, A1, EA1, st1⟩ := newPE X0 hx hZ (hw 42 rfl) e0 (g := (mkF m 222 #[iv x0, iv x1, iv x2, iv x3, iv x4, iv (iN n), rv aC, rv rb, rv r, .unset] [(.int 3)])) rfl (hb hby at_222) rfl (by decide) (cap := 3) (by decide) (by decide) (by decide) (by decide) (ad := "[I") (by decide)
 obtain ⟨b1, g1⟩ : ∃ z, z = hh.size := ⟨_, rfl⟩
 rw [← g1] at A1 st1 EA1
 have lo_b1 := loB Z0 g1
 have hk := lT hk E1.1
 have hR := hR.trans (CHr.ext E1 hR.1)
 have V1 : Arv Z h1 b1 cA1 .int 3 [(.int 0), (.int 0), (.int 0)] (.int 0) := (Arv.new A1 (by decide)).pad (pad_rep [] _ 3)
 refine Goes.st st1 ?_
 have Z1 := lT Z0 E1.1
 refine gdup X1 hx (hb hby at_224) rfl ?_
 refine giconst X1 hx (hb hby at_225) ?_
 refine giconst X1 hx (hb hby at_226) ?_
 show Gt T1 m 227 #[iv x0, iv x1, iv x2, iv x3, iv x4, iv (iN n), rv aC, rv rb, rv r, .unset] [(.int 0), (.int 0), (.ref b1), (.ref b1)]
 obtain ⟨cl3, Ar3, qk3, Sz3, qz3, Ha3, Gf3⟩ := id V1
 obtain ⟨T3, h3, X3, e3, W3, st3⟩ := stI X1 hx hZ e1 Ar3 (inb_of Sz3 ⟨by decide, by decide⟩) (g := (mkF m 227 #[iv x0, iv x1, iv x2, iv x3, iv x4, iv (iN n), rv aC, rv rb, rv r, .unset] [(.int 0), (.int 0), (.ref b1), (.ref b1)])) rfl rfl (hb hby at_227)
 have N3 := Fr.snoc X3 N0 lo_b1
 have V3 : Arv Z h3 b1 cA1 .int 3 [(.int 0), (.int 0), (.int 0)] (.int 0) := (Arv.set Ar3 qk3 Sz3 qz3 Ha3 Gf3 rfl W3 0 (by decide) (by simp))
 refine Goes.st st3 ?_
 have hk := lT hk (Nat.le_of_eq W3.size.symm)
 have hR := hR.trans (CHr.wr W3 (Safe.exa hZ.alike EA1 (by decide) (by decide)) hR.1)
 have Z3 : n0 ≤ h3.size := by have := W3.size; have := Z1; omega
 refine gdup X3 hx (hb hby at_228) rfl ?_
 refine giconst X3 hx (hb hby at_229) ?_
 refine giconst X3 hx (hb hby at_230) ?_
 show Gt T3 m 231 #[iv x0, iv x1, iv x2, iv x3, iv x4, iv (iN n), rv aC, rv rb, rv r, .unset] [(.int 0), (.int 1), (.ref b1), (.ref b1)]
 obtain ⟨cl5, Ar5, qk5, Sz5, qz5, Ha5, Gf5⟩ := id V3
 obtain ⟨T5, h5, X5, e5, W5, st5⟩ := stI X3 hx hZ e3 Ar5 (inb_of Sz5 ⟨by decide, by decide⟩) (g := (mkF m 231 #[iv x0, iv x1, iv x2, iv x3, iv x4, iv (iN n), rv aC, rv rb, rv r, .unset] [(.int 0), (.int 1), (.ref b1), (.ref b1)])) rfl rfl (hb hby at_231)
 have N5 := Fr.snoc X5 N3 lo_b1
 have V5 : Arv Z h5 b1 cA1 .int 3 [(.int 0), (.int 0), (.int 0)] (.int 0) := (Arv.set Ar5 qk5 Sz5 qz5 Ha5 Gf5 rfl W5 1 (by decide) (by simp))
 refine Goes.st st5 ?_
 have hk := lT hk (Nat.le_of_eq W5.size.symm)
 have f6 := (EA1.wr W3)
 have hR := hR.trans (CHr.wr W5 (Safe.exa hZ.alike f6 (by decide) (by decide)) hR.1)
 have Z5 : n0 ≤ h5.size := by have := W5.size; have := Z3; omega
 refine gdup X5 hx (hb hby at_232) rfl ?_
 refine giconst X5 hx (hb hby at_233) ?_
 refine giconst X5 hx (hb hby at_234) ?_
 show Gt T5 m 235 #[iv x0, iv x1, iv x2, iv x3, iv x4, iv (iN n), rv aC, rv rb, rv r, .unset] [(.int 1), (.int 2), (.ref b1), (.ref b1)]
 obtain ⟨cl8, Ar8, qk8, Sz8, qz8, Ha8, Gf8⟩ := id V5
 obtain ⟨T8, h8, X8, e8, W8, st8⟩ := stI X5 hx hZ e5 Ar8 (inb_of Sz8 ⟨by decide, by decide⟩) (g := (mkF m 235 #[iv x0, iv x1, iv x2, iv x3, iv x4, iv (iN n), rv aC, rv rb, rv r, .unset] [(.int 1), (.int 2), (.ref b1), (.ref b1)])) rfl rfl (hb hby at_235)
 have N8 := Fr.snoc X8 N5 lo_b1
 have V8 : Arv Z h8 b1 cA1 .int 3 [(.int 0), (.int 0), (.int 1)] (.int 0) := (Arv.set Ar8 qk8 Sz8 qz8 Ha8 Gf8 rfl W8 2 (by decide) (by simp))
 refine Goes.st st8 ?_
 have hk := lT hk (Nat.le_of_eq W8.size.symm)
 have f9 := (f6.wr W5)
 have hR := hR.trans (CHr.wr W8 (Safe.exa hZ.alike f9 (by decide) (by decide)) hR.1)
 have Z8 : n0 ≤ h8.size := by have := W8.size; have := Z5; omega
 refine gastore X8 hx (hb hby at_236) rfl (l' := #[iv x0, iv x1, iv x2, iv x3, iv x4, iv (iN n), rv aC, rv rb, rv r, rv b1]) rfl ?_
 refine gaload X8 hx (hb hby at_238) rfl rfl ?_
 refine gaload X8 hx (hb hby at_240) rfl rfl ?_
 refine giload X8 hx (hb hby at_242) rfl ?_
 refine giconst X8 hx (hb hby at_244) ?_
 refine gaload X8 hx (hb hby at_245) rfl rfl ?_
 have f11 := ((((Scs.ext E1).wr W3).wr W5).wr W8)
 have f12 := ((((Sd.ext E1).wr W3).wr W5).wr W8)
 have f13 := ((((Sh.ext E1).wr W3).wr W5).wr W8)
 have f14 := ((((Sl.ext E1).wr W3).wr W5).wr W8)
 have f15 := ((((Sfm.ext E1).wr W3).wr W5).wr W8)
 have ne16 := neB VC.lt g1
 have f17 := ((((VC.ext E1).other W3 ne16).other W5 ne16).other W8 ne16)
 have f18 := ((((Er.ext E1).wr W3).wr W5).wr W8)
 have ne19 := neB Er.lt g1
 have f20 := ((((F0.ext E1).other W3 (Or.inl ne19)).other W5 (Or.inl ne19)).other W8 (Or.inl ne19))
 have f21 := ((((F1.ext E1).other W3 (Or.inl ne19)).other W5 (Or.inl ne19)).other W8 (Or.inl ne19))
 have f22 := ((((Sem.ext E1).wr W3).wr W5).wr W8)
 have f23 := ((((Eo.ext E1).wr W3).wr W5).wr W8)
 have ne24 := neB (B0.lt 1 rfl) g1
 have ne25 := neB (B0.lt 0 rfl) g1
 have f26 := ((((B0.keep (kx E1) nb0).keep (Keep.of_wr W3) (bS (ninS ne25 nin0) (bS (ninS ne24 nin0) b0))).keep (Keep.of_wr W5) (bS (ninS ne25 nin0) (bS (ninS ne24 nin0) b0))).keep (Keep.of_wr W8) (bS (ninS ne25 nin0) (bS (ninS ne24 nin0) b0)))
 have f27 := (f9.wr W8)
 refine zS X8 hx hZ hown hw 43 44 45 4 (rmSq1 l hw r aC kC c_ n 0 b1 cA1 0 0 [] cs fm eL eM eA kA j0 q0 y0 w0 lo0 hi0 Z8 f11 hcs f12 f13 f14 f15 hfm f17 V8 lo_b1 f18 f20 f21 f22 f23 f26 hn4 (by decide) (by rw [Nat.zero_min]; rfl) rfl hF) e8 hml (hb hby at_247) pd46 (W := 0) (rest := []) ?_ rfl rfl rfl rfl (by decide) (lq rfl) rfl rfl rfl
 rintro T28 L28 v28 X28 ⟨s28, k28, M28, rfl, N28q, K28, V28, sp28, hM28⟩
 have hk := lT hk K28.1
 have hR := hR.trans (CHr.keep K28 (sfS (Safe.exa hZ.alike f27 (by decide) (by decide)) sf0) hR.1)
 have Z28 := lT Z8 K28.1
 have N28 := Fr.app N8 N28q
 refine gaload X28 hx (hb hby at_250) rfl rfl ?_
 show Gt T28 m 252 _ [(.ref r)]
 refine gaload X28 hx (hb hby at_252) rfl rfl ?_
 refine giload X28 hx (hb hby at_254) rfl ?_
 refine giconst X28 hx (hb hby at_256) ?_
 refine gaload X28 hx (hb hby at_257) rfl rfl ?_
 have f30 := (f11.kept K28 (nsS (Exa.nostat f27) ns0))
 have f31 := (f12.kept K28 (nsS (Exa.nostat f27) ns0))
 have f32 := (f13.kept K28 (nsS (Exa.nostat f27) ns0))
 have f33 := (f14.kept K28 (nsS (Exa.nostat f27) ns0))
 have f34 := (f15.kept K28 (nsS (Exa.nostat f27) ns0))
 have f35 := (f17.keep K28 (ninS ne16 nin0))
 have f36 := (f18.keep K28)
 have f37 := (f20.keep K28 (ninS ne19 nin0))
 have f38 := (f21.keep K28 (ninS ne19 nin0))
 have f39 := (f22.kept K28 (nsS (Exa.nostat f27) ns0))
 have f40 := (f23.keep K28)
 have f41 := (f26.keep K28 (bS (ninS ne25 nin0) (bS (ninS ne24 nin0) b0)))
 have f42 := (f27.keep K28)
 refine zS X28 hx hZ hown hw 43 44 45 4 (rmSq1 l hw r aC kC c_ n 1 b1 cA1 s28 k28 M28 cs fm eL eM eA kA j0 q0 y0 w0 lo0 hi0 Z28 f30 hcs f31 f32 f33 f34 hfm f35 V28 lo_b1 f36 f37 f38 f39 f40 f41 hn4 (by decide) sp28 hM28 hF) rfl hml (hb hby at_259) pd46 (W := 0) (rest := []) ?_ rfl rfl rfl rfl (by decide) (lq rfl) rfl rfl rfl
 rintro T43 L43 v43 X43 ⟨s43, k43, M43, rfl, N43q, K43, V43, sp43, hM43⟩
 have hk := lT hk K43.1
 have hR := hR.trans (CHr.keep K43 (sfS (Safe.exa hZ.alike f42 (by decide) (by decide)) sf0) hR.1)
 have Z43 := lT Z28 K43.1
 have N43 := Fr.app N28 N43q
 refine gaload X43 hx (hb hby at_262) rfl rfl ?_
 refine gaload X43 hx (hb hby at_264) rfl rfl ?_
 refine giload X43 hx (hb hby at_266) rfl ?_
 refine giconst X43 hx (hb hby at_268) ?_
 show Gt T43 m 269 _ [(.int 2), (.int (iN n)), (.ref aC), (.ref r)]
 refine gaload X43 hx (hb hby at_269) rfl rfl ?_
 have f45 := (f30.kept K43 (nsS (Exa.nostat f42) ns0))
 have f46 := (f31.kept K43 (nsS (Exa.nostat f42) ns0))
 have f47 := (f32.kept K43 (nsS (Exa.nostat f42) ns0))
 have f48 := (f33.kept K43 (nsS (Exa.nostat f42) ns0))
 have f49 := (f34.kept K43 (nsS (Exa.nostat f42) ns0))
 have f50 := (f35.keep K43 (ninS ne16 nin0))
 have f51 := (f36.keep K43)
 have f52 := (f37.keep K43 (ninS ne19 nin0))
 have f53 := (f38.keep K43 (ninS ne19 nin0))
 have f54 := (f39.kept K43 (nsS (Exa.nostat f42) ns0))
 have f55 := (f40.keep K43)
 have f56 := (f41.keep K43 (bS (ninS ne25 nin0) (bS (ninS ne24 nin0) b0)))
 have f57 := (f42.keep K43)
 refine zS X43 hx hZ hown hw 43 44 45 4 (rmSq1 l hw r aC kC c_ n 2 b1 cA1 s43 k43 M43 cs fm eL eM eA kA j0 q0 y0 w0 lo0 hi0 Z43 f45 hcs f46 f47 f48 f49 hfm f50 V43 lo_b1 f51 f52 f53 f54 f55 f56 hn4 (by decide) sp43 hM43 hF) rfl hml (hb hby at_271) pd46 (W := 0) (rest := []) ?_ rfl rfl rfl rfl (by decide) (lq rfl) rfl rfl rfl
 rintro T58 L58 v58 X58 ⟨s58, k58, M58, rfl, N58q, K58, V58, sp58, hM58⟩
 have hk := lT hk K58.1
 have hR := hR.trans (CHr.keep K58 (sfS (Safe.exa hZ.alike f57 (by decide) (by decide)) sf0) hR.1)
 have Z58 := lT Z43 K58.1
 have N58 := Fr.app N43 N58q
 refine gaload X58 hx (hb hby at_274) rfl rfl ?_
 refine gaload X58 hx (hb hby at_276) rfl rfl ?_
 refine giload X58 hx (hb hby at_278) rfl ?_
 refine giconst X58 hx (hb hby at_280) ?_
 refine gaload X58 hx (hb hby at_281) rfl rfl ?_
 have f60 := (f45.kept K58 (nsS (Exa.nostat f57) ns0))
 have f61 := (f46.kept K58 (nsS (Exa.nostat f57) ns0))
 have f62 := (f47.kept K58 (nsS (Exa.nostat f57) ns0))
 have f63 := (f48.kept K58 (nsS (Exa.nostat f57) ns0))
 have f64 := (f49.kept K58 (nsS (Exa.nostat f57) ns0))
 have f65 := (f50.keep K58 (ninS ne16 nin0))
 have f66 := (f51.keep K58)
 have f67 := (f52.keep K58 (ninS ne19 nin0))
 have f68 := (f53.keep K58 (ninS ne19 nin0))
 have f69 := (f54.kept K58 (nsS (Exa.nostat f57) ns0))
 have f70 := (f55.keep K58)
 have f71 := (f56.keep K58 (bS (ninS ne25 nin0) (bS (ninS ne24 nin0) b0)))
 have f72 := (f57.keep K58)
 refine zS X58 hx hZ hown hw 43 44 45 4 (rmSq1 l hw r aC kC c_ n 3 b1 cA1 s58 k58 M58 cs fm eL eM eA kA j0 q0 y0 w0 lo0 hi0 Z58 f60 hcs f61 f62 f63 f64 hfm f65 V58 lo_b1 f66 f67 f68 f69 f70 f71 hn4 (by decide) sp58 hM58 hF) rfl hml (hb hby at_283) pd46 (W := 0) (rest := []) ?_ rfl rfl rfl rfl (by decide) (lq rfl) rfl rfl rfl
 rintro T73 L73 v73 X73 ⟨s73, k73, M73, rfl, N73q, K73, V73, sp73, hM73⟩
 have hk := lT hk K73.1
 have hR := hR.trans (CHr.keep K73 (sfS (Safe.exa hZ.alike f72 (by decide) (by decide)) sf0) hR.1)
 have Z73 := lT Z58 K73.1
 have N73 := Fr.app N58 N73q
 refine gaload X73 hx (hb hby at_286) rfl rfl ?_
 show Gt T73 m 288 _ [(.ref r)]
 refine gaload X73 hx (hb hby at_288) rfl rfl ?_
 refine giload X73 hx (hb hby at_290) rfl ?_
 refine giconst X73 hx (hb hby at_292) ?_
 refine gaload X73 hx (hb hby at_293) rfl rfl ?_
 have f75 := (f60.kept K73 (nsS (Exa.nostat f72) ns0))
 have f76 := (f61.kept K73 (nsS (Exa.nostat f72) ns0))
 have f77 := (f62.kept K73 (nsS (Exa.nostat f72) ns0))
 have f78 := (f63.kept K73 (nsS (Exa.nostat f72) ns0))
 have f79 := (f64.kept K73 (nsS (Exa.nostat f72) ns0))
 have f80 := (f65.keep K73 (ninS ne16 nin0))
 have f81 := (f66.keep K73)
 have f82 := (f67.keep K73 (ninS ne19 nin0))
 have f83 := (f68.keep K73 (ninS ne19 nin0))
 have f84 := (f69.kept K73 (nsS (Exa.nostat f72) ns0))
 have f85 := (f70.keep K73)
 have f86 := (f71.keep K73 (bS (ninS ne25 nin0) (bS (ninS ne24 nin0) b0)))
 have f87 := (f72.keep K73)
 refine zS X73 hx hZ hown hw 43 44 45 4 (rmSq1 l hw r aC kC c_ n 4 b1 cA1 s73 k73 M73 cs fm eL eM eA kA j0 q0 y0 w0 lo0 hi0 Z73 f75 hcs f76 f77 f78 f79 hfm f80 V73 lo_b1 f81 f82 f83 f84 f85 f86 hn4 (by decide) sp73 hM73 hF) rfl hml (hb hby at_295) pd46 (W := 0) (rest := []) ?_ rfl rfl rfl rfl (by decide) (lq rfl) rfl rfl rfl
 rintro T88 L88 v88 X88 ⟨s88, k88, M88, rfl, N88q, K88, V88, sp88, hM88⟩
 have hk := lT hk K88.1
 have hR := hR.trans (CHr.keep K88 (sfS (Safe.exa hZ.alike f87 (by decide) (by decide)) sf0) hR.1)
 have Z88 := lT Z73 K88.1
 have N88 := Fr.app N73 N88q
 show Gt T88 m 298 _ []
 rw [show min (4 + 1) (n + 1) = n + 1 by omega] at sp88
 have hkk : k88 = 1 := by rw [sp88] at hF; rw [← hM88, show M88 = _ from hF]; rfl
 show Gt T88 m 298 _ []
 refine gaload X88 hx (hb hby at_298) rfl rfl ?_
 refine giconst X88 hx (hb hby at_300) ?_
 refine qIa X88 hx hZ rfl V88 ⟨by decide, by decide⟩ (v := (.int 1)) rfl (hb hby at_301) ?_
 refine giconst X88 hx (hb hby at_302) ?_
 refine gicmpNo X88 hx (hb hby at_303) (by decide) ?_
 refine gaload X88 hx (hb hby at_306) rfl rfl ?_
 have f91 := (f83.keep K88 (ninS ne19 nin0))
 have f92 := (f84.kept K88 (nsS (Exa.nostat f87) ns0))
 have f94 := (f81.keep K88)
 refine zI X88 hx hZ hown hw 52 rfl 53 (mvT hZ (hw 54 rfl)) 316 317 318 319 320 321 285 (rmZs1 l hw r eM Z88 f91 f92) rfl f94 hml (hb hby at_308) pd20 (W := 0) (rest := []) ?_ rfl rfl rfl rfl rfl rfl rfl rfl (by decide) (lq rfl) rfl rfl rfl
 rintro T93 L93 v93 X93 ⟨rfl, N93q, eh93⟩
 have N93 := Fr.app N88 N93q
 refine gaload X93 hx (hb hby at_313) rfl rfl ?_
 refine giconst X93 hx (hb hby at_315) ?_
 show Gt T93 m 316 _ [(.int 1), (.ref b1), (.int 1)]
 refine qIa X93 hx hZ eh93 V88 ⟨by decide, by decide⟩ (v := (.int (iN k88))) rfl (hb hby at_316) ?_
 refine gicmpNo X93 hx (hb hby at_317) (teq (yeN 1 k88 (by omega) (by omega) (by omega))).2 ?_
 refine giconst X93 hx (hb hby at_320) ?_
 refine gG X93 hx (pc := 321) (pc' := 325) (hb hby at_321) ?_ (by decide) (by decide)
 refine Goes.retN X93 hx hret (by simp) (hb hby at_325) (by decide) (lvV X93 hlk hS (by rw [eh93]; exact hk) (vsome hret) ?_ (by decide) (by decide))
 rw [eh93]
 exact ⟨rfl, N93⟩
theorem lwS2 {p : Program} {l : Launch} {e : Env} {s : State} {m : MethodId} {args : Array Value} {below : List Frame} {meth : Method} {c : Code}  (Z : State) (a0 : Array Value) (hw : HW a0 Z) (hx : p.tables.exec = Jvm.exec) (hby : c.code = code) (hlk : meth.locks = false) (hret : meth.sig.returnType = some .boolean) (hml : c.maxLocals = 10) (hnm : meth.name = "law") (vm0 : Vm) (kS0 : Nat) (hS : s.Since vm0 kS0) (hown : (s.setVm vm0).vm.findClass "com/example/engarce/engarce/NameListSplitPinLaw" = some m.cls) (hZ : Z.Warmed39 (s.setVm vm0).vm) (x0 x1 x2 x3 x4 : Int32) (cs : Int32) (fm : Value) (dE : Addr) (kD : ClassId) (mO : Addr) (eL eM eA : Addr) (kA : ClassId) (j0 q0 : Addr) (y0 : ClassId) (w0 : Bool) (lo0 hi0 : Nat) (j1 q1 : Addr) (y1 : ClassId) (w1 : Bool) (lo1 hi1 : Nat) (r rb : Addr) (aC : Addr) (kC : ClassId) (c_ : Nat → Int32) (n : Nat) (h0 hh : Heap) (n0 : Nat) (T0 : State) (locs0 : List Loc) (X0 : Stand p l e room_1 (s.setVm vm0) m args below meth c T0 locs0 37 300) (e0 : T0.heap = hh) (N0 : Fr n0 locs0) (Z0 : n0 ≤ hh.size) (hk : kS0 ≤ hh.size) (hH : CHv Z ELs vm0 hh) (Scs : S_0 Z hh (.int cs)) (hcs : ¬ cs = (0 : Int32)) (Sd : S_2 Z hh (.int 1)) (Sh : S_3 Z hh (.int 0)) (Sl : S_4 Z hh (.int 8)) (Sfm : S_1 Z hh fm) (hfm : fm.isRef = true) (VC : Arv Z hh aC kC .char 4 (rg 4 (fun i => .int (c_ i))) (.int 0)) (Er : X_3 Z hh r) (F0 : F_5 Z hh r (.ref j0)) (F1 : F_6 Z hh r (.ref j1)) (Sem : S_7 Z hh (.ref eM)) (Eo : X_5 Z hh eM) (B0 : Sb Z hh j0 q0 y0 w0 (hi0 - lo0) (fun i => c_ (lo0 + i))) (B1 : Sb Z hh j1 q1 y1 w1 (hi1 - lo1) (fun i => c_ (lo1 + i))) (hn4 : n ≤ 4) (hF : (sp c_ n (n + 1)).2 = [(lo0, hi0), (lo1, hi1)]) :
  Goes p e below (EV s (Q0 Z x0 x1 x2 x3 x4 cs fm dE kD eL eM mO eA kA h0 n0) 48 3328) (T0.setTop (mkF m 221 #[iv x0, iv x1, iv x2, iv x3, iv x4, iv (iN n), rv aC, rv rb, rv r, .unset] [])) := by
 have hR := CHr.refl hH
 show Gt T0 m 221 _ []
 refine giconst X0 hx (hb hby at_221) ?_
 obtain ⟨T1, h1, cA1, X1, e1, E1, A1, EA1, st1⟩ := newPE X0 hx hZ (hw 42 rfl) e0 (g := (mkF m 222 #[iv x0, iv x1, iv x2, iv x3, iv x4, iv (iN n), rv aC, rv rb, rv r, .unset] [(.int 3)])) rfl (hb hby at_222) rfl (by decide) (cap := 3) (by decide) (by decide) (by decide) (by decide) (ad := "[I") (by decide)
 obtain ⟨b1, g1⟩ : ∃ z, z = hh.size := ⟨_, rfl⟩
 rw [← g1] at A1 st1 EA1
 have lo_b1 := loB Z0 g1
 have hk := lT hk E1.1
 have hR := hR.trans (CHr.ext E1 hR.1)
 have V1 : Arv Z h1 b1 cA1 .int 3 [(.int 0), (.int 0), (.int 0)] (.int 0) := (Arv.new A1 (by decide)).pad (pad_rep [] _ 3)
 refine Goes.st st1 ?_
 have Z1 := lT Z0 E1.1
 refine gdup X1 hx (hb hby at_224) rfl ?_
 refine giconst X1 hx (hb hby at_225) ?_
 refine giconst X1 hx (hb hby at_226) ?_
 show Gt T1 m 227 #[iv x0, iv x1, iv x2, iv x3, iv x4, iv (iN n), rv aC, rv rb, rv r, .unset] [(.int 0), (.int 0), (.ref b1), (.ref b1)]
 obtain ⟨cl3, Ar3, qk3, Sz3, qz3, Ha3, Gf3⟩ := id V1
 obtain ⟨T3, h3, X3, e3, W3, st3⟩ := stI X1 hx hZ e1 Ar3 (inb_of Sz3 ⟨by decide, by decide⟩) (g := (mkF m 227 #[iv x0, iv x1, iv x2, iv x3, iv x4, iv (iN n), rv aC, rv rb, rv r, .unset] [(.int 0), (.int 0), (.ref b1), (.ref b1)])) rfl rfl (hb hby at_227)
 have N3 := Fr.snoc X3 N0 lo_b1
 have V3 : Arv Z h3 b1 cA1 .int 3 [(.int 0), (.int 0), (.int 0)] (.int 0) := (Arv.set Ar3 qk3 Sz3 qz3 Ha3 Gf3 rfl W3 0 (by decide) (by simp))
 refine Goes.st st3 ?_
 have hk := lT hk (Nat.le_of_eq W3.size.symm)
 have hR := hR.trans (CHr.wr W3 (Safe.exa hZ.alike EA1 (by decide) (by decide)) hR.1)
 have Z3 : n0 ≤ h3.size := by have := W3.size; have := Z1; omega
 refine gdup X3 hx (hb hby at_228) rfl ?_
 refine giconst X3 hx (hb hby at_229) ?_
 refine giconst X3 hx (hb hby at_230) ?_
 show Gt T3 m 231 #[iv x0, iv x1, iv x2, iv x3, iv x4, iv (iN n), rv aC, rv rb, rv r, .unset] [(.int 0), (.int 1), (.ref b1), (.ref b1)]
 obtain ⟨cl5, Ar5, qk5, Sz5, qz5, Ha5, Gf5⟩ := id V3
 obtain ⟨T5, h5, X5, e5, W5, st5⟩ := stI X3 hx hZ e3 Ar5 (inb_of Sz5 ⟨by decide, by decide⟩) (g := (mkF m 231 #[iv x0, iv x1, iv x2, iv x3, iv x4, iv (iN n), rv aC, rv rb, rv r, .unset] [(.int 0), (.int 1), (.ref b1), (.ref b1)])) rfl rfl (hb hby at_231)
 have N5 := Fr.snoc X5 N3 lo_b1
 have V5 : Arv Z h5 b1 cA1 .int 3 [(.int 0), (.int 0), (.int 0)] (.int 0) := (Arv.set Ar5 qk5 Sz5 qz5 Ha5 Gf5 rfl W5 1 (by decide) (by simp))
 refine Goes.st st5 ?_
 have hk := lT hk (Nat.le_of_eq W5.size.symm)
 have f6 := (EA1.wr W3)
 have hR := hR.trans (CHr.wr W5 (Safe.exa hZ.alike f6 (by decide) (by decide)) hR.1)
 have Z5 : n0 ≤ h5.size := by have := W5.size; have := Z3; omega
 refine gdup X5 hx (hb hby at_232) rfl ?_
 refine giconst X5 hx (hb hby at_233) ?_
 refine giconst X5 hx (hb hby at_234) ?_
 show Gt T5 m 235 #[iv x0, iv x1, iv x2, iv x3, iv x4, iv (iN n), rv aC, rv rb, rv r, .unset] [(.int 1), (.int 2), (.ref b1), (.ref b1)]
 obtain ⟨cl8, Ar8, qk8, Sz8, qz8, Ha8, Gf8⟩ := id V5
 obtain ⟨T8, h8, X8, e8, W8, st8⟩ := stI X5 hx hZ e5 Ar8 (inb_of Sz8 ⟨by decide, by decide⟩) (g := (mkF m 235 #[iv x0, iv x1, iv x2, iv x3, iv x4, iv (iN n), rv aC, rv rb, rv r, .unset] [(.int 1), (.int 2), (.ref b1), (.ref b1)])) rfl rfl (hb hby at_235)
 have N8 := Fr.snoc X8 N5 lo_b1
 have V8 : Arv Z h8 b1 cA1 .int 3 [(.int 0), (.int 0), (.int 1)] (.int 0) := (Arv.set Ar8 qk8 Sz8 qz8 Ha8 Gf8 rfl W8 2 (by decide) (by simp))
 refine Goes.st st8 ?_
 have hk := lT hk (Nat.le_of_eq W8.size.symm)
 have f9 := (f6.wr W5)
 have hR := hR.trans (CHr.wr W8 (Safe.exa hZ.alike f9 (by decide) (by decide)) hR.1)
 have Z8 : n0 ≤ h8.size := by have := W8.size; have := Z5; omega
 refine gastore X8 hx (hb hby at_236) rfl (l' := #[iv x0, iv x1, iv x2, iv x3, iv x4, iv (iN n), rv aC, rv rb, rv r, rv b1]) rfl ?_
 refine gaload X8 hx (hb hby at_238) rfl rfl ?_
 refine gaload X8 hx (hb hby at_240) rfl rfl ?_
 refine giload X8 hx (hb hby at_242) rfl ?_
 refine giconst X8 hx (hb hby at_244) ?_
 refine gaload X8 hx (hb hby at_245) rfl rfl ?_
 have f11 := ((((Scs.ext E1).wr W3).wr W5).wr W8)
 have f12 := ((((Sd.ext E1).wr W3).wr W5).wr W8)
 have f13 := ((((Sh.ext E1).wr W3).wr W5).wr W8)
 have f14 := ((((Sl.ext E1).wr W3).wr W5).wr W8)
 have f15 := ((((Sfm.ext E1).wr W3).wr W5).wr W8)
 have ne16 := neB VC.lt g1
 have f17 := ((((VC.ext E1).other W3 ne16).other W5 ne16).other W8 ne16)
 have f18 := ((((Er.ext E1).wr W3).wr W5).wr W8)
 have ne19 := neB Er.lt g1
 have f20 := ((((F0.ext E1).other W3 (Or.inl ne19)).other W5 (Or.inl ne19)).other W8 (Or.inl ne19))
 have f21 := ((((F1.ext E1).other W3 (Or.inl ne19)).other W5 (Or.inl ne19)).other W8 (Or.inl ne19))
 have f22 := ((((Sem.ext E1).wr W3).wr W5).wr W8)
 have f23 := ((((Eo.ext E1).wr W3).wr W5).wr W8)
 have ne24 := neB (B0.lt 1 rfl) g1
 have ne25 := neB (B0.lt 0 rfl) g1
 have f26 := ((((B0.keep (kx E1) nb0).keep (Keep.of_wr W3) (bS (ninS ne25 nin0) (bS (ninS ne24 nin0) b0))).keep (Keep.of_wr W5) (bS (ninS ne25 nin0) (bS (ninS ne24 nin0) b0))).keep (Keep.of_wr W8) (bS (ninS ne25 nin0) (bS (ninS ne24 nin0) b0)))
 have ne27 := neB (B1.lt 1 rfl) g1
 have ne28 := neB (B1.lt 0 rfl) g1
 have f29 := ((((B1.keep (kx E1) nb0).keep (Keep.of_wr W3) (bS (ninS ne28 nin0) (bS (ninS ne27 nin0) b0))).keep (Keep.of_wr W5) (bS (ninS ne28 nin0) (bS (ninS ne27 nin0) b0))).keep (Keep.of_wr W8) (bS (ninS ne28 nin0) (bS (ninS ne27 nin0) b0)))
 have f30 := (f9.wr W8)
 refine zS X8 hx hZ hown hw 43 44 45 4 (rmSq2 l hw r aC kC c_ n 0 b1 cA1 0 0 [] cs fm eL eM eA kA j0 q0 y0 w0 lo0 hi0 j1 q1 y1 w1 lo1 hi1 Z8 f11 hcs f12 f13 f14 f15 hfm f17 V8 lo_b1 f18 f20 f21 f22 f23 f26 f29 hn4 (by decide) (by rw [Nat.zero_min]; rfl) rfl hF) e8 hml (hb hby at_247) pd46 (W := 0) (rest := []) ?_ rfl rfl rfl rfl (by decide) (lq rfl) rfl rfl rfl
 rintro T31 L31 v31 X31 ⟨s31, k31, M31, rfl, N31q, K31, V31, sp31, hM31⟩
 have hk := lT hk K31.1
 have hR := hR.trans (CHr.keep K31 (sfS (Safe.exa hZ.alike f30 (by decide) (by decide)) sf0) hR.1)
 have Z31 := lT Z8 K31.1
 have N31 := Fr.app N8 N31q
 refine gaload X31 hx (hb hby at_250) rfl rfl ?_
 show Gt T31 m 252 _ [(.ref r)]
 refine gaload X31 hx (hb hby at_252) rfl rfl ?_
 refine giload X31 hx (hb hby at_254) rfl ?_
 refine giconst X31 hx (hb hby at_256) ?_
 refine gaload X31 hx (hb hby at_257) rfl rfl ?_
 have f33 := (f11.kept K31 (nsS (Exa.nostat f30) ns0))
 have f34 := (f12.kept K31 (nsS (Exa.nostat f30) ns0))
 have f35 := (f13.kept K31 (nsS (Exa.nostat f30) ns0))
 have f36 := (f14.kept K31 (nsS (Exa.nostat f30) ns0))
 have f37 := (f15.kept K31 (nsS (Exa.nostat f30) ns0))
 have f38 := (f17.keep K31 (ninS ne16 nin0))
 have f39 := (f18.keep K31)
 have f40 := (f20.keep K31 (ninS ne19 nin0))
 have f41 := (f21.keep K31 (ninS ne19 nin0))
 have f42 := (f22.kept K31 (nsS (Exa.nostat f30) ns0))
 have f43 := (f23.keep K31)
 have f44 := (f26.keep K31 (bS (ninS ne25 nin0) (bS (ninS ne24 nin0) b0)))
 have f45 := (f29.keep K31 (bS (ninS ne28 nin0) (bS (ninS ne27 nin0) b0)))
 have f46 := (f30.keep K31)
 refine zS X31 hx hZ hown hw 43 44 45 4 (rmSq2 l hw r aC kC c_ n 1 b1 cA1 s31 k31 M31 cs fm eL eM eA kA j0 q0 y0 w0 lo0 hi0 j1 q1 y1 w1 lo1 hi1 Z31 f33 hcs f34 f35 f36 f37 hfm f38 V31 lo_b1 f39 f40 f41 f42 f43 f44 f45 hn4 (by decide) sp31 hM31 hF) rfl hml (hb hby at_259) pd46 (W := 0) (rest := []) ?_ rfl rfl rfl rfl (by decide) (lq rfl) rfl rfl rfl
 rintro T47 L47 v47 X47 ⟨s47, k47, M47, rfl, N47q, K47, V47, sp47, hM47⟩
 have hk := lT hk K47.1
 have hR := hR.trans (CHr.keep K47 (sfS (Safe.exa hZ.alike f46 (by decide) (by decide)) sf0) hR.1)
 have Z47 := lT Z31 K47.1
 have N47 := Fr.app N31 N47q
 refine gaload X47 hx (hb hby at_262) rfl rfl ?_
 refine gaload X47 hx (hb hby at_264) rfl rfl ?_
 refine giload X47 hx (hb hby at_266) rfl ?_
 refine giconst X47 hx (hb hby at_268) ?_
 show Gt T47 m 269 _ [(.int 2), (.int (iN n)), (.ref aC), (.ref r)]
 refine gaload X47 hx (hb hby at_269) rfl rfl ?_
 have f49 := (f33.kept K47 (nsS (Exa.nostat f46) ns0))
 have f50 := (f34.kept K47 (nsS (Exa.nostat f46) ns0))
 have f51 := (f35.kept K47 (nsS (Exa.nostat f46) ns0))
 have f52 := (f36.kept K47 (nsS (Exa.nostat f46) ns0))
 have f53 := (f37.kept K47 (nsS (Exa.nostat f46) ns0))
 have f54 := (f38.keep K47 (ninS ne16 nin0))
 have f55 := (f39.keep K47)
 have f56 := (f40.keep K47 (ninS ne19 nin0))
 have f57 := (f41.keep K47 (ninS ne19 nin0))
 have f58 := (f42.kept K47 (nsS (Exa.nostat f46) ns0))
 have f59 := (f43.keep K47)
 have f60 := (f44.keep K47 (bS (ninS ne25 nin0) (bS (ninS ne24 nin0) b0)))
 have f61 := (f45.keep K47 (bS (ninS ne28 nin0) (bS (ninS ne27 nin0) b0)))
 have f62 := (f46.keep K47)
 refine zS X47 hx hZ hown hw 43 44 45 4 (rmSq2 l hw r aC kC c_ n 2 b1 cA1 s47 k47 M47 cs fm eL eM eA kA j0 q0 y0 w0 lo0 hi0 j1 q1 y1 w1 lo1 hi1 Z47 f49 hcs f50 f51 f52 f53 hfm f54 V47 lo_b1 f55 f56 f57 f58 f59 f60 f61 hn4 (by decide) sp47 hM47 hF) rfl hml (hb hby at_271) pd46 (W := 0) (rest := []) ?_ rfl rfl rfl rfl (by decide) (lq rfl) rfl rfl rfl
 rintro T63 L63 v63 X63 ⟨s63, k63, M63, rfl, N63q, K63, V63, sp63, hM63⟩
 have hk := lT hk K63.1
 have hR := hR.trans (CHr.keep K63 (sfS (Safe.exa hZ.alike f62 (by decide) (by decide)) sf0) hR.1)
 have Z63 := lT Z47 K63.1
 have N63 := Fr.app N47 N63q
 refine gaload X63 hx (hb hby at_274) rfl rfl ?_
 refine gaload X63 hx (hb hby at_276) rfl rfl ?_
 refine giload X63 hx (hb hby at_278) rfl ?_
 refine giconst X63 hx (hb hby at_280) ?_
 refine gaload X63 hx (hb hby at_281) rfl rfl ?_
 have f65 := (f49.kept K63 (nsS (Exa.nostat f62) ns0))
 have f66 := (f50.kept K63 (nsS (Exa.nostat f62) ns0))
 have f67 := (f51.kept K63 (nsS (Exa.nostat f62) ns0))
 have f68 := (f52.kept K63 (nsS (Exa.nostat f62) ns0))
 have f69 := (f53.kept K63 (nsS (Exa.nostat f62) ns0))
 have f70 := (f54.keep K63 (ninS ne16 nin0))
 have f71 := (f55.keep K63)
 have f72 := (f56.keep K63 (ninS ne19 nin0))
 have f73 := (f57.keep K63 (ninS ne19 nin0))
 have f74 := (f58.kept K63 (nsS (Exa.nostat f62) ns0))
 have f75 := (f59.keep K63)
 have f76 := (f60.keep K63 (bS (ninS ne25 nin0) (bS (ninS ne24 nin0) b0)))
 have f77 := (f61.keep K63 (bS (ninS ne28 nin0) (bS (ninS ne27 nin0) b0)))
 have f78 := (f62.keep K63)
 refine zS X63 hx hZ hown hw 43 44 45 4 (rmSq2 l hw r aC kC c_ n 3 b1 cA1 s63 k63 M63 cs fm eL eM eA kA j0 q0 y0 w0 lo0 hi0 j1 q1 y1 w1 lo1 hi1 Z63 f65 hcs f66 f67 f68 f69 hfm f70 V63 lo_b1 f71 f72 f73 f74 f75 f76 f77 hn4 (by decide) sp63 hM63 hF) rfl hml (hb hby at_283) pd46 (W := 0) (rest := []) ?_ rfl rfl rfl rfl (by decide) (lq rfl) rfl rfl rfl
 rintro T79 L79 v79 X79 ⟨s79, k79, M79, rfl, N79q, K79, V79, sp79, hM79⟩
 have hk := lT hk K79.1
 have hR := hR.trans (CHr.keep K79 (sfS (Safe.exa hZ.alike f78 (by decide) (by decide)) sf0) hR.1)
 have Z79 := lT Z63 K79.1
 have N79 := Fr.app N63 N79q
 refine gaload X79 hx (hb hby at_286) rfl rfl ?_
 show Gt T79 m 288 _ [(.ref r)]
 refine gaload X79 hx (hb hby at_288) rfl rfl ?_
 refine giload X79 hx (hb hby at_290) rfl ?_
 refine giconst X79 hx (hb hby at_292) ?_
 refine gaload X79 hx (hb hby at_293) rfl rfl ?_
 have f81 := (f65.kept K79 (nsS (Exa.nostat f78) ns0))
 have f82 := (f66.kept K79 (nsS (Exa.nostat f78) ns0))
 have f83 := (f67.kept K79 (nsS (Exa.nostat f78) ns0))
 have f84 := (f68.kept K79 (nsS (Exa.nostat f78) ns0))
 have f85 := (f69.kept K79 (nsS (Exa.nostat f78) ns0))
 have f86 := (f70.keep K79 (ninS ne16 nin0))
 have f87 := (f71.keep K79)
 have f88 := (f72.keep K79 (ninS ne19 nin0))
 have f89 := (f73.keep K79 (ninS ne19 nin0))
 have f90 := (f74.kept K79 (nsS (Exa.nostat f78) ns0))
 have f91 := (f75.keep K79)
 have f92 := (f76.keep K79 (bS (ninS ne25 nin0) (bS (ninS ne24 nin0) b0)))
 have f93 := (f77.keep K79 (bS (ninS ne28 nin0) (bS (ninS ne27 nin0) b0)))
 have f94 := (f78.keep K79)
 refine zS X79 hx hZ hown hw 43 44 45 4 (rmSq2 l hw r aC kC c_ n 4 b1 cA1 s79 k79 M79 cs fm eL eM eA kA j0 q0 y0 w0 lo0 hi0 j1 q1 y1 w1 lo1 hi1 Z79 f81 hcs f82 f83 f84 f85 hfm f86 V79 lo_b1 f87 f88 f89 f90 f91 f92 f93 hn4 (by decide) sp79 hM79 hF) rfl hml (hb hby at_295) pd46 (W := 0) (rest := []) ?_ rfl rfl rfl rfl (by decide) (lq rfl) rfl rfl rfl
 rintro T95 L95 v95 X95 ⟨s95, k95, M95, rfl, N95q, K95, V95, sp95, hM95⟩
 have hk := lT hk K95.1
 have hR := hR.trans (CHr.keep K95 (sfS (Safe.exa hZ.alike f94 (by decide) (by decide)) sf0) hR.1)
 have Z95 := lT Z79 K95.1
 have N95 := Fr.app N79 N95q
 show Gt T95 m 298 _ []
 rw [show min (4 + 1) (n + 1) = n + 1 by omega] at sp95
 have hkk : k95 = 2 := by rw [sp95] at hF; rw [← hM95, show M95 = _ from hF]; rfl
 show Gt T95 m 298 _ []
 refine gaload X95 hx (hb hby at_298) rfl rfl ?_
 refine giconst X95 hx (hb hby at_300) ?_
 refine qIa X95 hx hZ rfl V95 ⟨by decide, by decide⟩ (v := (.int 1)) rfl (hb hby at_301) ?_
 refine giconst X95 hx (hb hby at_302) ?_
 refine gicmpNo X95 hx (hb hby at_303) (by decide) ?_
 refine gaload X95 hx (hb hby at_306) rfl rfl ?_
 have f98 := (f89.keep K95 (ninS ne19 nin0))
 have f99 := (f90.kept K95 (nsS (Exa.nostat f94) ns0))
 have f100 := (((((((((B1.1.ext E1).wr W3).wr W5).wr W8).keep K31).keep K47).keep K63).keep K79).keep K95)
 have f101 := (f91.keep K95)
 have f103 := (f87.keep K95)
 refine zI X95 hx hZ hown hw 52 rfl 53 (mvT hZ (hw 54 rfl)) 316 317 318 319 320 321 285 (rmZs2 l hw r eM j1 Z95 f98 f99 (exaNe f100 f101 (by decide))) rfl f103 hml (hb hby at_308) pd20 (W := 0) (rest := []) ?_ rfl rfl rfl rfl rfl rfl rfl rfl (by decide) (lq rfl) rfl rfl rfl
 rintro T102 L102 v102 X102 ⟨rfl, N102q, eh102⟩
 have N102 := Fr.app N95 N102q
 refine gaload X102 hx (hb hby at_313) rfl rfl ?_
 refine giconst X102 hx (hb hby at_315) ?_
 show Gt T102 m 316 _ [(.int 1), (.ref b1), (.int 2)]
 refine qIa X102 hx hZ eh102 V95 ⟨by decide, by decide⟩ (v := (.int (iN k95))) rfl (hb hby at_316) ?_
 refine gicmpNo X102 hx (hb hby at_317) (teq (yeN 2 k95 (by omega) (by omega) (by omega))).2 ?_
 refine giconst X102 hx (hb hby at_320) ?_
 refine gG X102 hx (pc := 321) (pc' := 325) (hb hby at_321) ?_ (by decide) (by decide)
 refine Goes.retN X102 hx hret (by simp) (hb hby at_325) (by decide) (lvV X102 hlk hS (by rw [eh102]; exact hk) (vsome hret) ?_ (by decide) (by decide))
 rw [eh102]
 exact ⟨rfl, N102⟩
theorem lwT {p : Program} {l : Launch} {e : Env} {s : State} {m : MethodId} {args : Array Value} {below : List Frame} {meth : Method} {c : Code}  (Z : State) (a0 : Array Value) (hw : HW a0 Z) (hx : p.tables.exec = Jvm.exec) (hby : c.code = code) (hlk : meth.locks = false) (hret : meth.sig.returnType = some .boolean) (hml : c.maxLocals = 10) (hnm : meth.name = "law") (vm0 : Vm) (kS0 : Nat) (hS : s.Since vm0 kS0) (hown : (s.setVm vm0).vm.findClass "com/example/engarce/engarce/NameListSplitPinLaw" = some m.cls) (hZ : Z.Warmed39 (s.setVm vm0).vm) (x0 x1 x2 x3 x4 : Int32) (cs : Int32) (fm : Value) (dE : Addr) (kD : ClassId) (eL eM mO eA : Addr) (kA : ClassId) (rb bb : Addr) (kb : ClassId) (u : Bool) (n : Nat) (aC : Addr) (kC : ClassId) (c_ : Nat → Int32) (h0 hh : Heap) (n0 : Nat) (T0 : State) (locs0 : List Loc) (X0 : Stand p l e room_1 (s.setVm vm0) m args below meth c T0 locs0 6 40) (e0 : T0.heap = hh) (N0 : Fr n0 locs0) (Z0 : n0 ≤ hh.size) (hk : kS0 ≤ hh.size) (hH : CHv Z ELs vm0 hh) (Scs : S_0 Z hh (.int cs)) (hcs : ¬ cs = (0 : Int32)) (Sd : S_2 Z hh (.int 1)) (Sh : S_3 Z hh (.int 0)) (Sl : S_4 Z hh (.int 8)) (Sfm : S_1 Z hh fm) (hfm : fm.isRef = true) (Sde : S_5 Z hh (.ref dE)) (Ade : Arv Z hh dE kD (.object "java/lang/Object") 0 [] .null) (Sem : S_7 Z hh (.ref eM)) (Sel : S_6 Z hh (.ref eL)) (Mo : Mir Z "[Ljava/lang/Object;" mO) (Eo : X_5 Z hh eM) (Xl : X_4 Z hh eL) (Fl : F_7 Z hh eL (.ref eA)) (Aa : Arv Z hh eA kA (.object "java/lang/Object") 0 [] .null) (VC : Arv Z hh aC kC .char 4 (rg 4 (fun i => .int (c_ i))) (.int 0)) (Bs : Sb Z hh rb bb kb u n c_) :
  Goes p e below (EV s (Q0 Z x0 x1 x2 x3 x4 cs fm dE kD eL eM mO eA kA h0 n0) 48 3328) (T0.setTop (mkF m 207 #[iv x0, iv x1, iv x2, iv x3, iv x4, iv (iN n), rv aC, rv rb, .unset, .unset] [])) := by
 have hR := CHr.refl hH
 have hn4 := Bs.2.2.2.2.1
 show Gt T0 m 207 _ []
 refine gaload X0 hx (hb hby at_207) rfl rfl ?_
 obtain ⟨_, _, ⟨T1, L1, k1, n1⟩, -, X1, hS1, hg1, ⟨Lc1, hQ1, l1, y1, z1, hCr1⟩, st1⟩ := callSS X0 hx (y := mN62) hown (mvT hZ (hw 27 rfl)) (mvT hZ (hw 28 rfl)) (mvT hZ (hw 29 rfl)) (mvT hZ (hw 30 rfl)) (by decide) (backOfSH (W := 0) (rmSp l hw rb bb kb u n c_ cs fm dE kD eL eM mO Z0 Scs hcs Sd Sh Sl Sfm hfm Sde Ade Sem Sel Mo Bs) hZ (hw 30 rfl) (hw 29 rfl) (by decide) (by decide) (hELs hw) hR.1) (g := (mkF m 209 #[iv x0, iv x1, iv x2, iv x3, iv x4, iv (iN n), rv aC, rv rb, .unset, .unset] [(.ref rb)])) rfl hml.symm (argsL := [(.ref rb)]) (rest := []) (lenOf pd42 rfl) rfl (by show 2 * 0 + _ ≤ _; exact Nat.le_of_eq rfl) (hb hby at_209) (fun _ _ => ⟨rfl, e0, (by decide : 6 + 29 ≤ 48), (by decide : 40 + 190 ≤ 3328)⟩)
 dsimp only [Pt.U, Pt.locs, Pt.cells, Pt.slots] at X1 l1 y1 z1 st1 hQ1 hS1 hg1 hCr1
 subst l1 y1 z1
 obtain ⟨X1, hS, hZ, hown⟩ := rebS hS (by rw [e0]; exact hk) X1 hS1 hg1 hZ hown
 have hk := Nat.le_refl T1.heap.size
 have hR := hR.trans hCr1
 obtain ⟨r1, rfl, N1q, K1, Rs1⟩ := hQ1
 have Z1 := lT Z0 K1.1
 have N1 := Fr.app N0 N1q
 refine Goes.sts st1 ?_
 refine gastore X1 hx (hb hby at_212) rfl (l' := #[iv x0, iv x1, iv x2, iv x3, iv x4, iv (iN n), rv aC, rv rb, rv r1, .unset]) rfl ?_
 refine gaload X1 hx (hb hby at_214) rfl rfl ?_
 refine Goes.st (fun tg kg => XT.ifnonnullYes X1.here hx rfl (pc0 := 216) (pc' := 221) rfl (hb hby at_216) rfl (by decide) (by decide) kg) ?_
 show Gt T1 m 221 #[iv x0, iv x1, iv x2, iv x3, iv x4, iv (iN n), rv aC, rv rb, rv r1, .unset] []
 obtain ⟨F, hF⟩ : ∃ F, (sp c_ n (n + 1)).2 = F := ⟨_, rfl⟩
 rw [hF] at Rs1
 rcases F with _ | ⟨⟨lo0, hi0⟩, _ | ⟨⟨lo1, hi1⟩, _ | ⟨t_, F⟩⟩⟩
 ·rw [show r1 = eL from Rs1]
  show Gt T1 m 221 _ []
  have f3 := (Scs.kept K1 ns0)
  have f4 := (Sd.kept K1 ns0)
  have f5 := (Sh.kept K1 ns0)
  have f6 := (Sl.kept K1 ns0)
  have f7 := (Sfm.kept K1 ns0)
  have f8 := (VC.keep K1 nin0)
  have f9 := (Xl.keep K1)
  have f10 := (Fl.keep K1 nin0)
  have f11 := (Aa.keep K1 nin0)
  exact lwS0 Z a0 hw hx hby hlk hret hml hnm _ _ hS hown hZ x0 x1 x2 x3 x4 cs fm dE kD mO eL eM eA kA eL rb aC kC c_ n h0 T1.heap n0 T1 _ (X1.more (by decide : 35 ≤ 37) (by decide : 230 ≤ 300)) rfl N1 Z1 hk hR.1 f3 hcs f4 f5 f6 f7 hfm f8 f9 f10 f11 hn4 hF
 ·obtain ⟨j0, q0, y0, w0, Xr, Fe0, Fe1, Bj0⟩ := Rs1
  have f12 := (Scs.kept K1 ns0)
  have f13 := (Sd.kept K1 ns0)
  have f14 := (Sh.kept K1 ns0)
  have f15 := (Sl.kept K1 ns0)
  have f16 := (Sfm.kept K1 ns0)
  have f17 := (VC.keep K1 nin0)
  have f18 := (Sem.kept K1 ns0)
  have f19 := (Eo.keep K1)
  exact lwS1 Z a0 hw hx hby hlk hret hml hnm _ _ hS hown hZ x0 x1 x2 x3 x4 cs fm dE kD mO eL eM eA kA j0 q0 y0 w0 lo0 hi0 r1 rb aC kC c_ n h0 T1.heap n0 T1 _ (X1.more (by decide : 35 ≤ 37) (by decide : 230 ≤ 300)) rfl N1 Z1 hk hR.1 f12 hcs f13 f14 f15 f16 hfm f17 Xr Fe0 Fe1 f18 f19 Bj0 hn4 hF
 ·obtain ⟨j0, q0, y0, w0, j1, q1, y1, w1, Xr, Fe0, Fe1, Bj0, Bj1⟩ := Rs1
  have f20 := (Scs.kept K1 ns0)
  have f21 := (Sd.kept K1 ns0)
  have f22 := (Sh.kept K1 ns0)
  have f23 := (Sl.kept K1 ns0)
  have f24 := (Sfm.kept K1 ns0)
  have f25 := (VC.keep K1 nin0)
  have f26 := (Sem.kept K1 ns0)
  have f27 := (Eo.keep K1)
  exact lwS2 Z a0 hw hx hby hlk hret hml hnm _ _ hS hown hZ x0 x1 x2 x3 x4 cs fm dE kD mO eL eM eA kA j0 q0 y0 w0 lo0 hi0 j1 q1 y1 w1 lo1 hi1 r1 rb aC kC c_ n h0 T1.heap n0 T1 _ (X1.more (by decide : 35 ≤ 37) (by decide : 230 ≤ 300)) rfl N1 Z1 hk hR.1 f20 hcs f21 f22 f23 f24 hfm f25 Xr Fe0 Fe1 f26 f27 Bj0 Bj1 hn4 hF
 ·exact absurd Rs1 id
theorem pd47 : parseMethodDescriptor "([C)V" = some ⟨[(.array .char)], none⟩ := by decide +kernel
theorem ef_0 (m : MethodId) (x0 : Int32) (x1 : Int32) (x2 : Int32) (x3 : Int32) (x4 : Int32) : entryFrame m #[(.int x0), (.int x1), (.int x2), (.int x3), (.int x4)] maxLocals = mkF m 0 #[iv x0, iv x1, iv x2, iv x3, iv x4, .unset, .unset, .unset, .unset, .unset] [] := by first | (simp [entryFrame, mkF, argsToLocals, Value.category, maxLocals]; done) | rfl
theorem rm0 (l : Launch) (Z : State) (a0 : Array Value) (hw : HW a0 Z) (ws : List Jvm.Cond) (x0 x1 x2 x3 x4 : Int32) (cs : Int32) (fm : Value) (dE : Addr) (kD : ClassId) (eL eM mO eA : Addr) (kA : ClassId) (h0 : Heap) (n0 : Nat) (Z0 : n0 ≤ h0.size) (Scs : S_0 Z h0 (.int cs)) (hcs : ¬ cs = (0 : Int32)) (Sd : S_2 Z h0 (.int 1)) (Sh : S_3 Z h0 (.int 0)) (Sl : S_4 Z h0 (.int 8)) (Sfm : S_1 Z h0 fm) (hfm : fm.isRef = true) (Sde : S_5 Z h0 (.ref dE)) (Ade : Arv Z h0 dE kD (.object "java/lang/Object") 0 [] .null) (Sem : S_7 Z h0 (.ref eM)) (Sel : S_6 Z h0 (.ref eL)) (Mo : Mir Z "[Ljava/lang/Object;" mO) (Eo : X_5 Z h0 eM) (Xl : X_4 Z h0 eL) (Fl : F_7 Z h0 eL (.ref eA)) (Aa : Arv Z h0 eA kA (.object "java/lang/Object") 0 [] .null) :
  MetFree l x (head1 (Jvm.Cond.code x code maxLocals ret :: ws) room_1) (fun aa U => aa = #[(.int x0), (.int x1), (.int x2), (.int x3), (.int x4)] ∧ Z.Warmed39 U.vm ∧ U.heap = h0 ∧ CHv Z ELs U.vm h0) (fun _ _ _ _ _ => True) (fun _ u1_ o_ u2_ => ∃ v_ l_, o_ = .returned v_ ∧ Q0 Z x0 x1 x2 x3 x4 cs fm dE kD eL eM mO eA kA h0 n0 v_ u2_.heap l_ ∧ ReturnedEndW u1_ o_ u2_ l_ 48 3328) := by
 refine MetFree.of_bodySF (pfn pn15) hisR ?_
 intro p e s m args below meth c s₁ Bd hml0 hP hK
 obtain ⟨rfl, hZ, hh, hH⟩ := hP
 have hR := CHr.refl hH
 have hx := Bd.exec
 have hby := Bd.bytes
 have hlk := BodyLoose.notSynchronized Bd
 have hret := Bd.returns
 have hml : c.maxLocals = 10 := hml0
 have hown : s.vm.findClass "com/example/engarce/engarce/NameListSplitPinLaw" = some m.cls := findClass_of_methodNamed Bd.named
 have hnm := (name_of_methodNamed Bd.named Bd.method).1
 have X0 : Stand p l e room_1 (s.setVm s.vm) m #[(.int x0), (.int x1), (.int x2), (.int x3), (.int x4)] below meth c s₁ [] 0 0 := Stand.of_body Bd
 have hS := (State.WarmedH.refl s).since 0
 have hk : 0 ≤ h0.size := Nat.zero_le _
 have e0 : s₁.heap = h0 := by rw [← hh, Bd.state]; rfl
 refine Goes.st (E := (EV s (Q0 Z x0 x1 x2 x3 x4 cs fm dE kD eL eM mO eA kA h0 n0) 48 3328)) (fun tg kg => castTop (ef_0 m x0 x1 x2 x3 x4) kg) ?_
 show Gt s₁ m 0 #[iv x0, iv x1, iv x2, iv x3, iv x4, .unset, .unset, .unset, .unset, .unset] []
 refine giload X0 hx (hb hby at_0) rfl ?_
 show Gt s₁ m 2 _ [(.int x4)]
 refine Goes.st (fun tg kg => X0.ldcInt hx hown (mvT hZ (hw 0 rfl)) (g := (mkF m 2 #[iv x0, iv x1, iv x2, iv x3, iv x4, .unset, .unset, .unset, .unset, .unset] [(.int x4)])) rfl (hb hby at_2) tg kg) ?_
 refine giand X0 hx (hb hby at_4) ?_
 refine giconst X0 hx (hb hby at_5) ?_
 refine Goes.st (fun tg kg => iremM X0 hx rfl (hb hby at_6) rfl (by decide) kg) ?_
 show Gt s₁ m 7 #[iv x0, iv x1, iv x2, iv x3, iv x4, .unset, .unset, .unset, .unset, .unset] [(.int ((x4 &&& (2147483647 : Int32)) % (5 : Int32)))]
 obtain ⟨n, hn4, hne⟩ := own_rem5 x4
 rw [hne]
 show Gt s₁ m 7 _ [(.int (iN n))]
 refine gistore X0 hx (hb hby at_7) (l' := #[iv x0, iv x1, iv x2, iv x3, iv x4, iv (iN n), .unset, .unset, .unset, .unset]) rfl ?_
 refine giconst X0 hx (hb hby at_9) ?_
 obtain ⟨T1, h1, cA1, X1, e1, E1, A1, EA1, st1⟩ := newPE X0 hx hZ (hw 1 rfl) e0 (g := (mkF m 10 #[iv x0, iv x1, iv x2, iv x3, iv x4, iv (iN n), .unset, .unset, .unset, .unset] [(.int 4)])) rfl (hb hby at_10) rfl (by decide) (cap := 4) (by decide) (by decide) (by decide) (by decide) (ad := "[C") (by decide)
 obtain ⟨b1, g1⟩ : ∃ z, z = h0.size := ⟨_, rfl⟩
 rw [← g1] at A1 st1 EA1
 have lo_b1 := loB Z0 g1
 have hk := lT hk E1.1
 have hR := hR.trans (CHr.ext E1 hR.1)
 have V1 : Arv Z h1 b1 cA1 .char 4 [(.int 0), (.int 0), (.int 0), (.int 0)] (.int 0) := (Arv.new A1 (by decide)).pad (pad_rep [] _ 4)
 refine Goes.st st1 ?_
 have Z1 := lT Z0 E1.1
 refine gdup X1 hx (hb hby at_12) rfl ?_
 refine giconst X1 hx (hb hby at_13) ?_
 refine giloadN X1 hx (hb hby at_14) rfl ?_
 refine zS X1 hx hZ hown hw 2 3 5 4 (rmPk l hw x0 Z1 ) e1 hml (hb hby at_15) pd40 (W := 3) (rest := [(.int 0), (.ref b1), (.ref b1)]) ?_ rfl rfl rfl rfl (by decide) (lq rfl) rfl rfl rfl
 rintro T3 L3 v3 X3 ⟨ch3, rfl, N3q, eh3, ck3⟩
 have N3 := Fr.app (Fr.nil n0) N3q
 show Gt T3 m 18 #[iv x0, iv x1, iv x2, iv x3, iv x4, iv (iN n), .unset, .unset, .unset, .unset] [(.int ch3), (.int 0), (.ref b1), (.ref b1)]
 obtain ⟨cl4, Ar4, qk4, Sz4, qz4, Ha4, Gf4⟩ := id V1
 obtain ⟨T4, h4, X4, e4, W4, st4⟩ := stC X3 hx hZ eh3 Ar4 (inb_of Sz4 ⟨by decide, by decide⟩) (g := (mkF m 18 #[iv x0, iv x1, iv x2, iv x3, iv x4, iv (iN n), .unset, .unset, .unset, .unset] [(.int ch3), (.int 0), (.ref b1), (.ref b1)])) rfl rfl (hb hby at_18)
 have N4 := Fr.snoc X4 N3 lo_b1
 have V4 : Arv Z h4 b1 cA1 .char 4 [(.int (nar .char ch3)), (.int 0), (.int 0), (.int 0)] (.int 0) := (Arv.set Ar4 qk4 Sz4 qz4 Ha4 Gf4 (fits_nar_char _) W4 0 (by decide) (by simp))
 refine Goes.st st4 ?_
 have hk := lT hk (Nat.le_of_eq W4.size.symm)
 have hR := hR.trans (CHr.wr W4 (Safe.exa hZ.alike EA1 (by decide) (by decide)) hR.1)
 have Z4 : n0 ≤ h4.size := by have := W4.size; have := Z1; omega
 refine gdup X4 hx (hb hby at_19) rfl ?_
 refine giconst X4 hx (hb hby at_20) ?_
 refine giloadN X4 hx (hb hby at_21) rfl ?_
 refine zS X4 hx hZ hown hw 2 3 5 4 (rmPk l hw x1 Z4 ) e4 hml (hb hby at_22) pd40 (W := 3) (rest := [(.int 1), (.ref b1), (.ref b1)]) ?_ rfl rfl rfl rfl (by decide) (lq rfl) rfl rfl rfl
 rintro T6 L6 v6 X6 ⟨ch6, rfl, N6q, eh6, ck6⟩
 have N6 := Fr.app N4 N6q
 show Gt T6 m 25 #[iv x0, iv x1, iv x2, iv x3, iv x4, iv (iN n), .unset, .unset, .unset, .unset] [(.int ch6), (.int 1), (.ref b1), (.ref b1)]
 obtain ⟨cl7, Ar7, qk7, Sz7, qz7, Ha7, Gf7⟩ := id V4
 obtain ⟨T7, h7, X7, e7, W7, st7⟩ := stC X6 hx hZ eh6 Ar7 (inb_of Sz7 ⟨by decide, by decide⟩) (g := (mkF m 25 #[iv x0, iv x1, iv x2, iv x3, iv x4, iv (iN n), .unset, .unset, .unset, .unset] [(.int ch6), (.int 1), (.ref b1), (.ref b1)])) rfl rfl (hb hby at_25)
 have N7 := Fr.snoc X7 N6 lo_b1
 have V7 : Arv Z h7 b1 cA1 .char 4 [(.int (nar .char ch3)), (.int (nar .char ch6)), (.int 0), (.int 0)] (.int 0) := (Arv.set Ar7 qk7 Sz7 qz7 Ha7 Gf7 (fits_nar_char _) W7 1 (by decide) (by simp))
 refine Goes.st st7 ?_
 have hk := lT hk (Nat.le_of_eq W7.size.symm)
 have f8 := (EA1.wr W4)
 have hR := hR.trans (CHr.wr W7 (Safe.exa hZ.alike f8 (by decide) (by decide)) hR.1)
 have Z7 : n0 ≤ h7.size := by have := W7.size; have := Z4; omega
 refine gdup X7 hx (hb hby at_26) rfl ?_
 refine giconst X7 hx (hb hby at_27) ?_
 refine giloadN X7 hx (hb hby at_28) rfl ?_
 refine zS X7 hx hZ hown hw 2 3 5 4 (rmPk l hw x2 Z7 ) e7 hml (hb hby at_29) pd40 (W := 3) (rest := [(.int 2), (.ref b1), (.ref b1)]) ?_ rfl rfl rfl rfl (by decide) (lq rfl) rfl rfl rfl
 rintro T10 L10 v10 X10 ⟨ch10, rfl, N10q, eh10, ck10⟩
 have N10 := Fr.app N7 N10q
 show Gt T10 m 32 #[iv x0, iv x1, iv x2, iv x3, iv x4, iv (iN n), .unset, .unset, .unset, .unset] [(.int ch10), (.int 2), (.ref b1), (.ref b1)]
 obtain ⟨cl11, Ar11, qk11, Sz11, qz11, Ha11, Gf11⟩ := id V7
 obtain ⟨T11, h11, X11, e11, W11, st11⟩ := stC X10 hx hZ eh10 Ar11 (inb_of Sz11 ⟨by decide, by decide⟩) (g := (mkF m 32 #[iv x0, iv x1, iv x2, iv x3, iv x4, iv (iN n), .unset, .unset, .unset, .unset] [(.int ch10), (.int 2), (.ref b1), (.ref b1)])) rfl rfl (hb hby at_32)
 have N11 := Fr.snoc X11 N10 lo_b1
 have V11 : Arv Z h11 b1 cA1 .char 4 [(.int (nar .char ch3)), (.int (nar .char ch6)), (.int (nar .char ch10)), (.int 0)] (.int 0) := (Arv.set Ar11 qk11 Sz11 qz11 Ha11 Gf11 (fits_nar_char _) W11 2 (by decide) (by simp))
 refine Goes.st st11 ?_
 have hk := lT hk (Nat.le_of_eq W11.size.symm)
 have f12 := (f8.wr W7)
 have hR := hR.trans (CHr.wr W11 (Safe.exa hZ.alike f12 (by decide) (by decide)) hR.1)
 have Z11 : n0 ≤ h11.size := by have := W11.size; have := Z7; omega
 refine gdup X11 hx (hb hby at_33) rfl ?_
 refine giconst X11 hx (hb hby at_34) ?_
 refine giloadN X11 hx (hb hby at_35) rfl ?_
 refine zS X11 hx hZ hown hw 2 3 5 4 (rmPk l hw x3 Z11 ) e11 hml (hb hby at_36) pd40 (W := 3) (rest := [(.int 3), (.ref b1), (.ref b1)]) ?_ rfl rfl rfl rfl (by decide) (lq rfl) rfl rfl rfl
 rintro T14 L14 v14 X14 ⟨ch14, rfl, N14q, eh14, ck14⟩
 have N14 := Fr.app N11 N14q
 show Gt T14 m 39 #[iv x0, iv x1, iv x2, iv x3, iv x4, iv (iN n), .unset, .unset, .unset, .unset] [(.int ch14), (.int 3), (.ref b1), (.ref b1)]
 obtain ⟨cl15, Ar15, qk15, Sz15, qz15, Ha15, Gf15⟩ := id V11
 obtain ⟨T15, h15, X15, e15, W15, st15⟩ := stC X14 hx hZ eh14 Ar15 (inb_of Sz15 ⟨by decide, by decide⟩) (g := (mkF m 39 #[iv x0, iv x1, iv x2, iv x3, iv x4, iv (iN n), .unset, .unset, .unset, .unset] [(.int ch14), (.int 3), (.ref b1), (.ref b1)])) rfl rfl (hb hby at_39)
 have N15 := Fr.snoc X15 N14 lo_b1
 have V15 : Arv Z h15 b1 cA1 .char 4 [(.int (nar .char ch3)), (.int (nar .char ch6)), (.int (nar .char ch10)), (.int (nar .char ch14))] (.int 0) := (Arv.set Ar15 qk15 Sz15 qz15 Ha15 Gf15 (fits_nar_char _) W15 3 (by decide) (by simp))
 refine Goes.st st15 ?_
 have hk := lT hk (Nat.le_of_eq W15.size.symm)
 have f16 := (f12.wr W11)
 have hR := hR.trans (CHr.wr W15 (Safe.exa hZ.alike f16 (by decide) (by decide)) hR.1)
 have Z15 : n0 ≤ h15.size := by have := W15.size; have := Z11; omega
 show Gt T15 m 40 #[iv x0, iv x1, iv x2, iv x3, iv x4, iv (iN n), .unset, .unset, .unset, .unset] [(.ref b1)]
 have V18 : Arv Z h15 b1 cA1 .char 4 [(.int ch3), (.int ch6), (.int ch10), (.int ch14)] (.int 0) := by have q := V15; rw [own_nc ck3, own_nc ck6, own_nc ck10, own_nc ck14] at q; exact q
 rcases (by omega : n = 0 ∨ n = 1 ∨ n = 2 ∨ n = 3 ∨ n = 4) with cN | cN | cN | cN | cN
 ·have hz : n = 0 := by omega
  refine gastore X15 hx (hb hby at_40) rfl (l' := #[iv x0, iv x1, iv x2, iv x3, iv x4, iv (iN n), rv b1, .unset, .unset, .unset]) rfl ?_
  refine giload X15 hx (hb hby at_42) rfl ?_
  refine gifNo X15 hx (hb hby at_44) ((if0 _ _).trans (teq (yeN n 0 (by omega) (by omega) (by omega))).2) ?_
  obtain ⟨T19, h19, X19, e19, E19, A19, D19, -, st19⟩ := newO X15 hx hZ hown (hw 6 rfl) (hw 7 rfl) (hw 8 rfl) e15 (g := (mkF m 47 #[iv x0, iv x1, iv x2, iv x3, iv x4, iv (iN n), rv b1, .unset, .unset, .unset] [])) rfl (hb hby at_47) (by decide) (by decide)
  obtain ⟨b19, g19⟩ : ∃ z, z = h15.size := ⟨_, rfl⟩
  rw [← g19] at A19 D19 st19
  have ne20 := neB Ade.lt g1
  have ne21 := neB Aa.lt g1
  have lo_b19 := loB Z15 g19
  refine Goes.st st19 ?_
  have hk := lT hk E19.1
  have hR := hR.trans (CHr.ext E19 hR.1)
  have Z19 := lT Z15 E19.1
  have F19_value : F_0 Z h19 b19 .null := D19 (Or.inr (hw 21 rfl)) (ty := (.array .byte)) (by decide)
  have F19_coder : F_1 Z h19 b19 (.int 0) := D19 (Or.inr (hw 22 rfl)) (ty := .byte) (by decide)
  refine gdup X19 hx (hb hby at_50) rfl ?_
  refine giconst X19 hx (hb hby at_51) ?_
  obtain ⟨T23, h23, cA23, X23, e23, E23, A23, EA23, st23⟩ := newPE X19 hx hZ (hw 1 rfl) e19 (g := (mkF m 52 #[iv x0, iv x1, iv x2, iv x3, iv x4, iv (iN n), rv b1, .unset, .unset, .unset] [(.int 0), (.ref b19), (.ref b19)])) rfl (hb hby at_52) rfl (by decide) (cap := 0) (by decide) (by decide) (by decide) (by decide) (ad := "[C") (by decide)
  obtain ⟨b23, g23⟩ : ∃ z, z = h19.size := ⟨_, rfl⟩
  rw [← g23] at A23 st23 EA23
  have lo_b23 := loB Z19 g23
  have hk := lT hk E23.1
  have hR := hR.trans (CHr.ext E23 hR.1)
  have V23 : Arv Z h23 b23 cA23 .char 0 [] (.int 0) := (Arv.new A23 (by decide)).pad (pad_rep [] _ 0)
  refine Goes.st st23 ?_
  have Z23 := lT Z19 E23.1
  show Gt T23 m 54 #[iv x0, iv x1, iv x2, iv x3, iv x4, iv (iN n), rv b1, .unset, .unset, .unset] [(.ref b23), (.ref b19), (.ref b19)]
  have f25 := (A19.ext E23)
  have f26 := (F19_value.ext E23)
  have f27 := (F19_coder.ext E23)
  obtain ⟨_, _, ⟨T28, L28, k28, n28⟩, -, X28, hS28, hg28, ⟨Lc28, hQ28, l28, y28, z28, hCr28⟩, st28⟩ := X23.specialBackS hx (y := mN38) rfl hown (mvT hZ (hw 9 rfl)) (mvT hZ (hw 10 rfl)) (mvT hZ (hw 11 rfl)) (by decide) (backOfSH (W := 1) (rmIc0 l hw b19 b23 cA23 Z23 f25 lo_b19 f26 f27 V23) hZ (hw 11 rfl) (hw 8 rfl) (by decide) (by decide) (hELs hw) hR.1) (g := (mkF m 54 #[iv x0, iv x1, iv x2, iv x3, iv x4, iv (iN n), rv b1, .unset, .unset, .unset] [(.ref b23), (.ref b19), (.ref b19)])) rfl hml.symm (Steps.refl _) (a := b19) (argsL := [(.ref b23)]) (rest := [(.ref b19)]) (lenOf pd47 rfl) rfl (by show 2 * 0 + _ ≤ _; exact Nat.le_of_eq rfl) (hb hby at_54) (fun _ _ => ⟨rfl, e23, (by decide : 3 + 2 ≤ 48), (by decide : 8 + 4 ≤ 3328)⟩)
  dsimp only [Pt.U, Pt.locs, Pt.cells, Pt.slots] at X28 l28 y28 z28 st28 hQ28 hS28 hg28 hCr28
  subst l28 y28 z28
  obtain ⟨X28, hS, hZ, hown⟩ := rebS hS (by rw [e23]; exact hk) X28 hS28 hg28 hZ hown
  have hk := Nat.le_refl T28.heap.size
  have hR := hR.trans hCr28
  obtain ⟨bb28, kB28, u28, rfl, N28q, K28, Sb28⟩ := hQ28
  have Z28 := lT Z23 K28.1
  have N28 := Fr.app N15 N28q
  refine Goes.sts st28 ?_
  refine gastore X28 hx (hb hby at_57) rfl (l' := #[iv x0, iv x1, iv x2, iv x3, iv x4, iv (iN n), rv b1, rv b19, .unset, .unset]) rfl ?_
  refine gG X28 hx (pc := 59) (pc' := 207) (hb hby at_59) ?_ (by decide) (by decide)
  show Gt T28 m 207 _ []
  subst hz
  have f30 := ((((((((Scs.ext E1).wr W4).wr W7).wr W11).wr W15).ext E19).ext E23).kept K28 (nsS (Exa.nostat f25) ns0))
  have f31 := ((((((((Sd.ext E1).wr W4).wr W7).wr W11).wr W15).ext E19).ext E23).kept K28 (nsS (Exa.nostat f25) ns0))
  have f32 := ((((((((Sh.ext E1).wr W4).wr W7).wr W11).wr W15).ext E19).ext E23).kept K28 (nsS (Exa.nostat f25) ns0))
  have f33 := ((((((((Sl.ext E1).wr W4).wr W7).wr W11).wr W15).ext E19).ext E23).kept K28 (nsS (Exa.nostat f25) ns0))
  have f34 := ((((((((Sfm.ext E1).wr W4).wr W7).wr W11).wr W15).ext E19).ext E23).kept K28 (nsS (Exa.nostat f25) ns0))
  have f35 := ((((((((Sde.ext E1).wr W4).wr W7).wr W11).wr W15).ext E19).ext E23).kept K28 (nsS (Exa.nostat f25) ns0))
  have ne36 := neB (((((Ade.ext E1).other W4 ne20).other W7 ne20).other W11 ne20).other W15 ne20).lt g19
  have f37 := ((((((((Ade.ext E1).other W4 ne20).other W7 ne20).other W11 ne20).other W15 ne20).ext E19).ext E23).keep K28 (ninS ne36 nin0))
  have f38 := ((((((((Sem.ext E1).wr W4).wr W7).wr W11).wr W15).ext E19).ext E23).kept K28 (nsS (Exa.nostat f25) ns0))
  have f39 := ((((((((Sel.ext E1).wr W4).wr W7).wr W11).wr W15).ext E19).ext E23).kept K28 (nsS (Exa.nostat f25) ns0))
  have f40 := ((((((((Eo.ext E1).wr W4).wr W7).wr W11).wr W15).ext E19).ext E23).keep K28)
  have f41 := ((((((((Xl.ext E1).wr W4).wr W7).wr W11).wr W15).ext E19).ext E23).keep K28)
  have ne42 := neB Xl.lt g1
  have ne43 := neB (((((Xl.ext E1).wr W4).wr W7).wr W11).wr W15).lt g19
  have f44 := ((((((((Fl.ext E1).other W4 (Or.inl ne42)).other W7 (Or.inl ne42)).other W11 (Or.inl ne42)).other W15 (Or.inl ne42)).ext E19).ext E23).keep K28 (ninS ne43 nin0))
  have ne45 := neB (((((Aa.ext E1).other W4 ne21).other W7 ne21).other W11 ne21).other W15 ne21).lt g19
  have f46 := ((((((((Aa.ext E1).other W4 ne21).other W7 ne21).other W11 ne21).other W15 ne21).ext E19).ext E23).keep K28 (ninS ne45 nin0))
  have ne47 := neB V18.lt g19
  have f48 := (((V18.ext E19).ext E23).keep K28 (ninS ne47 nin0))
  exact lwT Z a0 hw hx hby hlk hret hml hnm _ _ hS hown hZ x0 x1 x2 x3 x4 cs fm dE kD eL eM mO eA kA b19 bb28 kB28 u28 0 b1 cA1 (c4 ch3 ch6 ch10 ch14) h0 T28.heap n0 T28 _ (X28.more (by decide : 5 ≤ 6) (by decide : 12 ≤ 40)) rfl N28 Z28 hk hR.1 f30 hcs f31 f32 f33 f34 hfm f35 f37 f38 f39 Mo f40 f41 f44 f46 f48 (Sb.cast Sb28 rfl (fun i hi => absurd hi (by omega)))
 ·have hz : n = 1 := by omega
  refine gastore X15 hx (hb hby at_40) rfl (l' := #[iv x0, iv x1, iv x2, iv x3, iv x4, iv (iN n), rv b1, .unset, .unset, .unset]) rfl ?_
  refine giload X15 hx (hb hby at_42) rfl ?_
  refine gT X15 hx (pc := 44) (pc' := 62) (hb hby at_44) ((if0 _ _).trans (feq (neN n 0 (by omega) (by omega) (by omega))).2) ?_ (by decide) (by decide)
  refine giload X15 hx (hb hby at_62) rfl ?_
  refine giconst X15 hx (hb hby at_64) ?_
  refine gicmpNo X15 hx (hb hby at_65) (teq (yeN n 1 (by omega) (by omega) (by omega))).2 ?_
  obtain ⟨T49, h49, X49, e49, E49, A49, D49, -, st49⟩ := newO X15 hx hZ hown (hw 6 rfl) (hw 7 rfl) (hw 8 rfl) e15 (g := (mkF m 68 #[iv x0, iv x1, iv x2, iv x3, iv x4, iv (iN n), rv b1, .unset, .unset, .unset] [])) rfl (hb hby at_68) (by decide) (by decide)
  obtain ⟨b49, g49⟩ : ∃ z, z = h15.size := ⟨_, rfl⟩
  rw [← g49] at A49 D49 st49
  have ne50 := neB Ade.lt g1
  have ne51 := neB Aa.lt g1
  have lo_b49 := loB Z15 g49
  refine Goes.st st49 ?_
  have hk := lT hk E49.1
  have hR := hR.trans (CHr.ext E49 hR.1)
  have Z49 := lT Z15 E49.1
  have F49_value : F_0 Z h49 b49 .null := D49 (Or.inr (hw 21 rfl)) (ty := (.array .byte)) (by decide)
  have F49_coder : F_1 Z h49 b49 (.int 0) := D49 (Or.inr (hw 22 rfl)) (ty := .byte) (by decide)
  refine gdup X49 hx (hb hby at_71) rfl ?_
  refine giconst X49 hx (hb hby at_72) ?_
  show Gt T49 m 73 #[iv x0, iv x1, iv x2, iv x3, iv x4, iv (iN n), rv b1, .unset, .unset, .unset] [(.int 1), (.ref b49), (.ref b49)]
  obtain ⟨T53, h53, cA53, X53, e53, E53, A53, EA53, st53⟩ := newPE X49 hx hZ (hw 1 rfl) e49 (g := (mkF m 73 #[iv x0, iv x1, iv x2, iv x3, iv x4, iv (iN n), rv b1, .unset, .unset, .unset] [(.int 1), (.ref b49), (.ref b49)])) rfl (hb hby at_73) rfl (by decide) (cap := 1) (by decide) (by decide) (by decide) (by decide) (ad := "[C") (by decide)
  obtain ⟨b53, g53⟩ : ∃ z, z = h49.size := ⟨_, rfl⟩
  rw [← g53] at A53 st53 EA53
  have lo_b53 := loB Z49 g53
  have hk := lT hk E53.1
  have hR := hR.trans (CHr.ext E53 hR.1)
  have V53 : Arv Z h53 b53 cA53 .char 1 [(.int 0)] (.int 0) := (Arv.new A53 (by decide)).pad (pad_rep [] _ 1)
  refine Goes.st st53 ?_
  have Z53 := lT Z49 E53.1
  refine gdup X53 hx (hb hby at_75) rfl ?_
  refine giconst X53 hx (hb hby at_76) ?_
  refine gaload X53 hx (hb hby at_77) rfl rfl ?_
  refine giconst X53 hx (hb hby at_79) ?_
  have f55 := ((V18.ext E49).ext E53)
  refine qCa X53 hx hZ e53 f55 ⟨by decide, by decide⟩ (v := (.int ch3)) rfl (hb hby at_80) ?_
  show Gt T53 m 81 #[iv x0, iv x1, iv x2, iv x3, iv x4, iv (iN n), rv b1, .unset, .unset, .unset] [(.int ch3), (.int 0), (.ref b53), (.ref b53), (.ref b49), (.ref b49)]
  obtain ⟨cl57, Ar57, qk57, Sz57, qz57, Ha57, Gf57⟩ := id V53
  obtain ⟨T57, h57, X57, e57, W57, st57⟩ := stC X53 hx hZ e53 Ar57 (inb_of Sz57 ⟨by decide, by decide⟩) (g := (mkF m 81 #[iv x0, iv x1, iv x2, iv x3, iv x4, iv (iN n), rv b1, .unset, .unset, .unset] [(.int ch3), (.int 0), (.ref b53), (.ref b53), (.ref b49), (.ref b49)])) rfl rfl (hb hby at_81)
  have N57 := Fr.snoc X57 N15 lo_b53
  have V57 : Arv Z h57 b53 cA53 .char 1 [(.int (nar .char ch3))] (.int 0) := (Arv.set Ar57 qk57 Sz57 qz57 Ha57 Gf57 (fits_nar_char _) W57 0 (by decide) (by simp))
  refine Goes.st st57 ?_
  have hk := lT hk (Nat.le_of_eq W57.size.symm)
  have hR := hR.trans (CHr.wr W57 (Safe.exa hZ.alike EA53 (by decide) (by decide)) hR.1)
  have Z57 : n0 ≤ h57.size := by have := W57.size; have := Z53; omega
  show Gt T57 m 82 #[iv x0, iv x1, iv x2, iv x3, iv x4, iv (iN n), rv b1, .unset, .unset, .unset] [(.ref b53), (.ref b49), (.ref b49)]
  have V59 : Arv Z h57 b53 cA53 .char 1 [(.int ch3)] (.int 0) := by have q := V57; rw [own_nc ck3] at q; exact q
  have f60 := ((A49.ext E53).wr W57)
  have ne61 := neB A49.lt g53
  have f62 := ((F49_value.ext E53).other W57 (Or.inl ne61))
  have f63 := ((F49_coder.ext E53).other W57 (Or.inl ne61))
  have f64 := ((((((((Scs.ext E1).wr W4).wr W7).wr W11).wr W15).ext E49).ext E53).wr W57)
  have f65 := ((((((((Sd.ext E1).wr W4).wr W7).wr W11).wr W15).ext E49).ext E53).wr W57)
  have f66 := ((((((((Sh.ext E1).wr W4).wr W7).wr W11).wr W15).ext E49).ext E53).wr W57)
  have f67 := ((((((((Sl.ext E1).wr W4).wr W7).wr W11).wr W15).ext E49).ext E53).wr W57)
  refine zC X57 hx hZ hown hw 9 10 11 8 (rmIc l hw b49 b53 cA53 1 (c4 ch3 ch6 ch10 ch14) cs Z57 f64 hcs f65 f66 f67 f60 lo_b49 f62 f63 V59 (by omega) (by omega) (fun i _ => c4_ok ck3 ck6 ck10 ck14 i)) e57 hml (hb hby at_82) pd47 (W := 1) (rest := [(.ref b49)]) ?_ rfl rfl rfl rfl (by decide) (lq rfl) rfl rfl rfl
  rintro T68 L68 v68 X68 ⟨bb68, kB68, u68, rfl, N68q, K68, Sb68⟩
  have hk := lT hk K68.1
  have hR := hR.trans (CHr.keep K68 (sfS (Safe.nul hZ.alike f60 f62) sf0) hR.1)
  have Z68 := lT Z57 K68.1
  have N68 := Fr.app N57 N68q
  refine gastore X68 hx (hb hby at_85) rfl (l' := #[iv x0, iv x1, iv x2, iv x3, iv x4, iv (iN n), rv b1, rv b49, .unset, .unset]) rfl ?_
  refine gG X68 hx (pc := 87) (pc' := 207) (hb hby at_87) ?_ (by decide) (by decide)
  show Gt T68 m 207 _ []
  subst hz
  have f70 := (f64.kept K68 (nsS (Exa.nostat f60) ns0))
  have f71 := (f65.kept K68 (nsS (Exa.nostat f60) ns0))
  have f72 := (f66.kept K68 (nsS (Exa.nostat f60) ns0))
  have f73 := (f67.kept K68 (nsS (Exa.nostat f60) ns0))
  have f74 := (((((((((Sfm.ext E1).wr W4).wr W7).wr W11).wr W15).ext E49).ext E53).wr W57).kept K68 (nsS (Exa.nostat f60) ns0))
  have f75 := (((((((((Sde.ext E1).wr W4).wr W7).wr W11).wr W15).ext E49).ext E53).wr W57).kept K68 (nsS (Exa.nostat f60) ns0))
  have ne76 := neB ((((((Ade.ext E1).other W4 ne50).other W7 ne50).other W11 ne50).other W15 ne50).ext E49).lt g53
  have ne77 := neB (((((Ade.ext E1).other W4 ne50).other W7 ne50).other W11 ne50).other W15 ne50).lt g49
  have f78 := (((((((((Ade.ext E1).other W4 ne50).other W7 ne50).other W11 ne50).other W15 ne50).ext E49).ext E53).other W57 ne76).keep K68 (ninS ne77 nin0))
  have f79 := (((((((((Sem.ext E1).wr W4).wr W7).wr W11).wr W15).ext E49).ext E53).wr W57).kept K68 (nsS (Exa.nostat f60) ns0))
  have f80 := (((((((((Sel.ext E1).wr W4).wr W7).wr W11).wr W15).ext E49).ext E53).wr W57).kept K68 (nsS (Exa.nostat f60) ns0))
  have f81 := (((((((((Eo.ext E1).wr W4).wr W7).wr W11).wr W15).ext E49).ext E53).wr W57).keep K68)
  have f82 := (((((((((Xl.ext E1).wr W4).wr W7).wr W11).wr W15).ext E49).ext E53).wr W57).keep K68)
  have ne83 := neB Xl.lt g1
  have ne84 := neB ((((((Xl.ext E1).wr W4).wr W7).wr W11).wr W15).ext E49).lt g53
  have ne85 := neB (((((Xl.ext E1).wr W4).wr W7).wr W11).wr W15).lt g49
  have f86 := (((((((((Fl.ext E1).other W4 (Or.inl ne83)).other W7 (Or.inl ne83)).other W11 (Or.inl ne83)).other W15 (Or.inl ne83)).ext E49).ext E53).other W57 (Or.inl ne84)).keep K68 (ninS ne85 nin0))
  have ne87 := neB ((((((Aa.ext E1).other W4 ne51).other W7 ne51).other W11 ne51).other W15 ne51).ext E49).lt g53
  have ne88 := neB (((((Aa.ext E1).other W4 ne51).other W7 ne51).other W11 ne51).other W15 ne51).lt g49
  have f89 := (((((((((Aa.ext E1).other W4 ne51).other W7 ne51).other W11 ne51).other W15 ne51).ext E49).ext E53).other W57 ne87).keep K68 (ninS ne88 nin0))
  have ne90 := neB ((f16.wr W15).ext E49).lt g53
  have ne91 := neB V18.lt g49
  have f92 := ((f55.other W57 ne90).keep K68 (ninS ne91 nin0))
  exact lwT Z a0 hw hx hby hlk hret hml hnm _ _ hS hown hZ x0 x1 x2 x3 x4 cs fm dE kD eL eM mO eA kA b49 bb68 kB68 u68 1 b1 cA1 (c4 ch3 ch6 ch10 ch14) h0 T68.heap n0 T68 _ (X68.more (by decide : 5 ≤ 6) (by decide : 25 ≤ 40)) rfl N68 Z68 hk hR.1 f70 hcs f71 f72 f73 f74 hfm f75 f78 f79 f80 Mo f81 f82 f86 f89 f92 Sb68
 ·have hz : n = 2 := by omega
  refine gastore X15 hx (hb hby at_40) rfl (l' := #[iv x0, iv x1, iv x2, iv x3, iv x4, iv (iN n), rv b1, .unset, .unset, .unset]) rfl ?_
  refine giload X15 hx (hb hby at_42) rfl ?_
  refine gT X15 hx (pc := 44) (pc' := 62) (hb hby at_44) ((if0 _ _).trans (feq (neN n 0 (by omega) (by omega) (by omega))).2) ?_ (by decide) (by decide)
  refine giload X15 hx (hb hby at_62) rfl ?_
  refine giconst X15 hx (hb hby at_64) ?_
  refine gY X15 hx (pc := 65) (pc' := 90) (hb hby at_65) (feq (neN n 1 (by omega) (by omega) (by omega))).2 ?_ (by decide) (by decide)
  refine giload X15 hx (hb hby at_90) rfl ?_
  refine giconst X15 hx (hb hby at_92) ?_
  refine gicmpNo X15 hx (hb hby at_93) (teq (yeN n 2 (by omega) (by omega) (by omega))).2 ?_
  show Gt T15 m 96 _ []
  obtain ⟨T93, h93, X93, e93, E93, A93, D93, -, st93⟩ := newO X15 hx hZ hown (hw 6 rfl) (hw 7 rfl) (hw 8 rfl) e15 (g := (mkF m 96 #[iv x0, iv x1, iv x2, iv x3, iv x4, iv (iN n), rv b1, .unset, .unset, .unset] [])) rfl (hb hby at_96) (by decide) (by decide)
  obtain ⟨b93, g93⟩ : ∃ z, z = h15.size := ⟨_, rfl⟩
  rw [← g93] at A93 D93 st93
  have ne94 := neB Ade.lt g1
  have ne95 := neB Aa.lt g1
  have lo_b93 := loB Z15 g93
  refine Goes.st st93 ?_
  have hk := lT hk E93.1
  have hR := hR.trans (CHr.ext E93 hR.1)
  have Z93 := lT Z15 E93.1
  have F93_value : F_0 Z h93 b93 .null := D93 (Or.inr (hw 21 rfl)) (ty := (.array .byte)) (by decide)
  have F93_coder : F_1 Z h93 b93 (.int 0) := D93 (Or.inr (hw 22 rfl)) (ty := .byte) (by decide)
  refine gdup X93 hx (hb hby at_99) rfl ?_
  refine giconst X93 hx (hb hby at_100) ?_
  obtain ⟨T97, h97, cA97, X97, e97, E97, A97, EA97, st97⟩ := newPE X93 hx hZ (hw 1 rfl) e93 (g := (mkF m 101 #[iv x0, iv x1, iv x2, iv x3, iv x4, iv (iN n), rv b1, .unset, .unset, .unset] [(.int 2), (.ref b93), (.ref b93)])) rfl (hb hby at_101) rfl (by decide) (cap := 2) (by decide) (by decide) (by decide) (by decide) (ad := "[C") (by decide)
  obtain ⟨b97, g97⟩ : ∃ z, z = h93.size := ⟨_, rfl⟩
  rw [← g97] at A97 st97 EA97
  have lo_b97 := loB Z93 g97
  have hk := lT hk E97.1
  have hR := hR.trans (CHr.ext E97 hR.1)
  have V97 : Arv Z h97 b97 cA97 .char 2 [(.int 0), (.int 0)] (.int 0) := (Arv.new A97 (by decide)).pad (pad_rep [] _ 2)
  refine Goes.st st97 ?_
  have Z97 := lT Z93 E97.1
  refine gdup X97 hx (hb hby at_103) rfl ?_
  refine giconst X97 hx (hb hby at_104) ?_
  refine gaload X97 hx (hb hby at_105) rfl rfl ?_
  refine giconst X97 hx (hb hby at_107) ?_
  have f99 := ((V18.ext E93).ext E97)
  refine qCa X97 hx hZ e97 f99 ⟨by decide, by decide⟩ (v := (.int ch3)) rfl (hb hby at_108) ?_
  show Gt T97 m 109 #[iv x0, iv x1, iv x2, iv x3, iv x4, iv (iN n), rv b1, .unset, .unset, .unset] [(.int ch3), (.int 0), (.ref b97), (.ref b97), (.ref b93), (.ref b93)]
  obtain ⟨cl101, Ar101, qk101, Sz101, qz101, Ha101, Gf101⟩ := id V97
  obtain ⟨T101, h101, X101, e101, W101, st101⟩ := stC X97 hx hZ e97 Ar101 (inb_of Sz101 ⟨by decide, by decide⟩) (g := (mkF m 109 #[iv x0, iv x1, iv x2, iv x3, iv x4, iv (iN n), rv b1, .unset, .unset, .unset] [(.int ch3), (.int 0), (.ref b97), (.ref b97), (.ref b93), (.ref b93)])) rfl rfl (hb hby at_109)
  have N101 := Fr.snoc X101 N15 lo_b97
  have V101 : Arv Z h101 b97 cA97 .char 2 [(.int (nar .char ch3)), (.int 0)] (.int 0) := (Arv.set Ar101 qk101 Sz101 qz101 Ha101 Gf101 (fits_nar_char _) W101 0 (by decide) (by simp))
  refine Goes.st st101 ?_
  have hk := lT hk (Nat.le_of_eq W101.size.symm)
  have hR := hR.trans (CHr.wr W101 (Safe.exa hZ.alike EA97 (by decide) (by decide)) hR.1)
  have Z101 : n0 ≤ h101.size := by have := W101.size; have := Z97; omega
  refine gdup X101 hx (hb hby at_110) rfl ?_
  refine giconst X101 hx (hb hby at_111) ?_
  refine gaload X101 hx (hb hby at_112) rfl rfl ?_
  refine giconst X101 hx (hb hby at_114) ?_
  have ne103 := neB ((f16.wr W15).ext E93).lt g97
  have f104 := (f99.other W101 ne103)
  refine qCa X101 hx hZ e101 f104 ⟨by decide, by decide⟩ (v := (.int ch6)) rfl (hb hby at_115) ?_
  show Gt T101 m 116 #[iv x0, iv x1, iv x2, iv x3, iv x4, iv (iN n), rv b1, .unset, .unset, .unset] [(.int ch6), (.int 1), (.ref b97), (.ref b97), (.ref b93), (.ref b93)]
  obtain ⟨cl106, Ar106, qk106, Sz106, qz106, Ha106, Gf106⟩ := id V101
  obtain ⟨T106, h106, X106, e106, W106, st106⟩ := stC X101 hx hZ e101 Ar106 (inb_of Sz106 ⟨by decide, by decide⟩) (g := (mkF m 116 #[iv x0, iv x1, iv x2, iv x3, iv x4, iv (iN n), rv b1, .unset, .unset, .unset] [(.int ch6), (.int 1), (.ref b97), (.ref b97), (.ref b93), (.ref b93)])) rfl rfl (hb hby at_116)
  have N106 := Fr.snoc X106 N101 lo_b97
  have V106 : Arv Z h106 b97 cA97 .char 2 [(.int (nar .char ch3)), (.int (nar .char ch6))] (.int 0) := (Arv.set Ar106 qk106 Sz106 qz106 Ha106 Gf106 (fits_nar_char _) W106 1 (by decide) (by simp))
  refine Goes.st st106 ?_
  have hk := lT hk (Nat.le_of_eq W106.size.symm)
  have f107 := (EA97.wr W101)
  have hR := hR.trans (CHr.wr W106 (Safe.exa hZ.alike f107 (by decide) (by decide)) hR.1)
  have Z106 : n0 ≤ h106.size := by have := W106.size; have := Z101; omega
  show Gt T106 m 117 #[iv x0, iv x1, iv x2, iv x3, iv x4, iv (iN n), rv b1, .unset, .unset, .unset] [(.ref b97), (.ref b93), (.ref b93)]
  have V109 : Arv Z h106 b97 cA97 .char 2 [(.int ch3), (.int ch6)] (.int 0) := by have q := V106; rw [own_nc ck3, own_nc ck6] at q; exact q
  have f110 := (((A93.ext E97).wr W101).wr W106)
  have ne111 := neB A93.lt g97
  have f112 := (((F93_value.ext E97).other W101 (Or.inl ne111)).other W106 (Or.inl ne111))
  have f113 := (((F93_coder.ext E97).other W101 (Or.inl ne111)).other W106 (Or.inl ne111))
  have f114 := (((((((((Scs.ext E1).wr W4).wr W7).wr W11).wr W15).ext E93).ext E97).wr W101).wr W106)
  have f115 := (((((((((Sd.ext E1).wr W4).wr W7).wr W11).wr W15).ext E93).ext E97).wr W101).wr W106)
  have f116 := (((((((((Sh.ext E1).wr W4).wr W7).wr W11).wr W15).ext E93).ext E97).wr W101).wr W106)
  have f117 := (((((((((Sl.ext E1).wr W4).wr W7).wr W11).wr W15).ext E93).ext E97).wr W101).wr W106)
  refine zC X106 hx hZ hown hw 9 10 11 8 (rmIc l hw b93 b97 cA97 2 (c4 ch3 ch6 ch10 ch14) cs Z106 f114 hcs f115 f116 f117 f110 lo_b93 f112 f113 V109 (by omega) (by omega) (fun i _ => c4_ok ck3 ck6 ck10 ck14 i)) e106 hml (hb hby at_117) pd47 (W := 1) (rest := [(.ref b93)]) ?_ rfl rfl rfl rfl (by decide) (lq rfl) rfl rfl rfl
  rintro T118 L118 v118 X118 ⟨bb118, kB118, u118, rfl, N118q, K118, Sb118⟩
  have hk := lT hk K118.1
  have hR := hR.trans (CHr.keep K118 (sfS (Safe.nul hZ.alike f110 f112) sf0) hR.1)
  have Z118 := lT Z106 K118.1
  have N118 := Fr.app N106 N118q
  refine gastore X118 hx (hb hby at_120) rfl (l' := #[iv x0, iv x1, iv x2, iv x3, iv x4, iv (iN n), rv b1, rv b93, .unset, .unset]) rfl ?_
  refine gG X118 hx (pc := 122) (pc' := 207) (hb hby at_122) ?_ (by decide) (by decide)
  show Gt T118 m 207 _ []
  subst hz
  have f120 := (f114.kept K118 (nsS (Exa.nostat f110) ns0))
  have f121 := (f115.kept K118 (nsS (Exa.nostat f110) ns0))
  have f122 := (f116.kept K118 (nsS (Exa.nostat f110) ns0))
  have f123 := (f117.kept K118 (nsS (Exa.nostat f110) ns0))
  have f124 := ((((((((((Sfm.ext E1).wr W4).wr W7).wr W11).wr W15).ext E93).ext E97).wr W101).wr W106).kept K118 (nsS (Exa.nostat f110) ns0))
  have f125 := ((((((((((Sde.ext E1).wr W4).wr W7).wr W11).wr W15).ext E93).ext E97).wr W101).wr W106).kept K118 (nsS (Exa.nostat f110) ns0))
  have ne126 := neB ((((((Ade.ext E1).other W4 ne94).other W7 ne94).other W11 ne94).other W15 ne94).ext E93).lt g97
  have ne127 := neB (((((Ade.ext E1).other W4 ne94).other W7 ne94).other W11 ne94).other W15 ne94).lt g93
  have f128 := ((((((((((Ade.ext E1).other W4 ne94).other W7 ne94).other W11 ne94).other W15 ne94).ext E93).ext E97).other W101 ne126).other W106 ne126).keep K118 (ninS ne127 nin0))
  have f129 := ((((((((((Sem.ext E1).wr W4).wr W7).wr W11).wr W15).ext E93).ext E97).wr W101).wr W106).kept K118 (nsS (Exa.nostat f110) ns0))
  have f130 := ((((((((((Sel.ext E1).wr W4).wr W7).wr W11).wr W15).ext E93).ext E97).wr W101).wr W106).kept K118 (nsS (Exa.nostat f110) ns0))
  have f131 := ((((((((((Eo.ext E1).wr W4).wr W7).wr W11).wr W15).ext E93).ext E97).wr W101).wr W106).keep K118)
  have f132 := ((((((((((Xl.ext E1).wr W4).wr W7).wr W11).wr W15).ext E93).ext E97).wr W101).wr W106).keep K118)
  have ne133 := neB Xl.lt g1
  have ne134 := neB ((((((Xl.ext E1).wr W4).wr W7).wr W11).wr W15).ext E93).lt g97
  have ne135 := neB (((((Xl.ext E1).wr W4).wr W7).wr W11).wr W15).lt g93
  have f136 := ((((((((((Fl.ext E1).other W4 (Or.inl ne133)).other W7 (Or.inl ne133)).other W11 (Or.inl ne133)).other W15 (Or.inl ne133)).ext E93).ext E97).other W101 (Or.inl ne134)).other W106 (Or.inl ne134)).keep K118 (ninS ne135 nin0))
  have ne137 := neB ((((((Aa.ext E1).other W4 ne95).other W7 ne95).other W11 ne95).other W15 ne95).ext E93).lt g97
  have ne138 := neB (((((Aa.ext E1).other W4 ne95).other W7 ne95).other W11 ne95).other W15 ne95).lt g93
  have f139 := ((((((((((Aa.ext E1).other W4 ne95).other W7 ne95).other W11 ne95).other W15 ne95).ext E93).ext E97).other W101 ne137).other W106 ne137).keep K118 (ninS ne138 nin0))
  have ne140 := neB V18.lt g93
  have f141 := ((f104.other W106 ne103).keep K118 (ninS ne140 nin0))
  exact lwT Z a0 hw hx hby hlk hret hml hnm _ _ hS hown hZ x0 x1 x2 x3 x4 cs fm dE kD eL eM mO eA kA b93 bb118 kB118 u118 2 b1 cA1 (c4 ch3 ch6 ch10 ch14) h0 T118.heap n0 T118 _ (X118.more (by decide : 5 ≤ 6) (by decide : 26 ≤ 40)) rfl N118 Z118 hk hR.1 f120 hcs f121 f122 f123 f124 hfm f125 f128 f129 f130 Mo f131 f132 f136 f139 f141 Sb118
 ·have hz : n = 3 := by omega
  refine gastore X15 hx (hb hby at_40) rfl (l' := #[iv x0, iv x1, iv x2, iv x3, iv x4, iv (iN n), rv b1, .unset, .unset, .unset]) rfl ?_
  refine giload X15 hx (hb hby at_42) rfl ?_
  refine gT X15 hx (pc := 44) (pc' := 62) (hb hby at_44) ((if0 _ _).trans (feq (neN n 0 (by omega) (by omega) (by omega))).2) ?_ (by decide) (by decide)
  refine giload X15 hx (hb hby at_62) rfl ?_
  refine giconst X15 hx (hb hby at_64) ?_
  refine gY X15 hx (pc := 65) (pc' := 90) (hb hby at_65) (feq (neN n 1 (by omega) (by omega) (by omega))).2 ?_ (by decide) (by decide)
  refine giload X15 hx (hb hby at_90) rfl ?_
  refine giconst X15 hx (hb hby at_92) ?_
  refine gY X15 hx (pc := 93) (pc' := 125) (hb hby at_93) (feq (neN n 2 (by omega) (by omega) (by omega))).2 ?_ (by decide) (by decide)
  show Gt T15 m 125 _ []
  refine giload X15 hx (hb hby at_125) rfl ?_
  refine giconst X15 hx (hb hby at_127) ?_
  refine gicmpNo X15 hx (hb hby at_128) (teq (yeN n 3 (by omega) (by omega) (by omega))).2 ?_
  obtain ⟨T142, h142, X142, e142, E142, A142, D142, -, st142⟩ := newO X15 hx hZ hown (hw 6 rfl) (hw 7 rfl) (hw 8 rfl) e15 (g := (mkF m 131 #[iv x0, iv x1, iv x2, iv x3, iv x4, iv (iN n), rv b1, .unset, .unset, .unset] [])) rfl (hb hby at_131) (by decide) (by decide)
  obtain ⟨b142, g142⟩ : ∃ z, z = h15.size := ⟨_, rfl⟩
  rw [← g142] at A142 D142 st142
  have ne143 := neB Ade.lt g1
  have ne144 := neB Aa.lt g1
  have lo_b142 := loB Z15 g142
  refine Goes.st st142 ?_
  have hk := lT hk E142.1
  have hR := hR.trans (CHr.ext E142 hR.1)
  have Z142 := lT Z15 E142.1
  have F142_value : F_0 Z h142 b142 .null := D142 (Or.inr (hw 21 rfl)) (ty := (.array .byte)) (by decide)
  have F142_coder : F_1 Z h142 b142 (.int 0) := D142 (Or.inr (hw 22 rfl)) (ty := .byte) (by decide)
  refine gdup X142 hx (hb hby at_134) rfl ?_
  refine giconst X142 hx (hb hby at_135) ?_
  obtain ⟨T146, h146, cA146, X146, e146, E146, A146, EA146, st146⟩ := newPE X142 hx hZ (hw 1 rfl) e142 (g := (mkF m 136 #[iv x0, iv x1, iv x2, iv x3, iv x4, iv (iN n), rv b1, .unset, .unset, .unset] [(.int 3), (.ref b142), (.ref b142)])) rfl (hb hby at_136) rfl (by decide) (cap := 3) (by decide) (by decide) (by decide) (by decide) (ad := "[C") (by decide)
  obtain ⟨b146, g146⟩ : ∃ z, z = h142.size := ⟨_, rfl⟩
  rw [← g146] at A146 st146 EA146
  have lo_b146 := loB Z142 g146
  have hk := lT hk E146.1
  have hR := hR.trans (CHr.ext E146 hR.1)
  have V146 : Arv Z h146 b146 cA146 .char 3 [(.int 0), (.int 0), (.int 0)] (.int 0) := (Arv.new A146 (by decide)).pad (pad_rep [] _ 3)
  refine Goes.st st146 ?_
  have Z146 := lT Z142 E146.1
  refine gdup X146 hx (hb hby at_138) rfl ?_
  refine giconst X146 hx (hb hby at_139) ?_
  show Gt T146 m 140 #[iv x0, iv x1, iv x2, iv x3, iv x4, iv (iN n), rv b1, .unset, .unset, .unset] [(.int 0), (.ref b146), (.ref b146), (.ref b142), (.ref b142)]
  refine gaload X146 hx (hb hby at_140) rfl rfl ?_
  refine giconst X146 hx (hb hby at_142) ?_
  have f148 := ((V18.ext E142).ext E146)
  refine qCa X146 hx hZ e146 f148 ⟨by decide, by decide⟩ (v := (.int ch3)) rfl (hb hby at_143) ?_
  show Gt T146 m 144 _ [(.int ch3), (.int 0), (.ref b146), (.ref b146), (.ref b142), (.ref b142)]
  obtain ⟨cl150, Ar150, qk150, Sz150, qz150, Ha150, Gf150⟩ := id V146
  obtain ⟨T150, h150, X150, e150, W150, st150⟩ := stC X146 hx hZ e146 Ar150 (inb_of Sz150 ⟨by decide, by decide⟩) (g := (mkF m 144 #[iv x0, iv x1, iv x2, iv x3, iv x4, iv (iN n), rv b1, .unset, .unset, .unset] [(.int ch3), (.int 0), (.ref b146), (.ref b146), (.ref b142), (.ref b142)])) rfl rfl (hb hby at_144)
  have N150 := Fr.snoc X150 N15 lo_b146
  have V150 : Arv Z h150 b146 cA146 .char 3 [(.int (nar .char ch3)), (.int 0), (.int 0)] (.int 0) := (Arv.set Ar150 qk150 Sz150 qz150 Ha150 Gf150 (fits_nar_char _) W150 0 (by decide) (by simp))
  refine Goes.st st150 ?_
  have hk := lT hk (Nat.le_of_eq W150.size.symm)
  have hR := hR.trans (CHr.wr W150 (Safe.exa hZ.alike EA146 (by decide) (by decide)) hR.1)
  have Z150 : n0 ≤ h150.size := by have := W150.size; have := Z146; omega
  refine gdup X150 hx (hb hby at_145) rfl ?_
  refine giconst X150 hx (hb hby at_146) ?_
  refine gaload X150 hx (hb hby at_147) rfl rfl ?_
  refine giconst X150 hx (hb hby at_149) ?_
  have ne152 := neB ((f16.wr W15).ext E142).lt g146
  have f153 := (f148.other W150 ne152)
  refine qCa X150 hx hZ e150 f153 ⟨by decide, by decide⟩ (v := (.int ch6)) rfl (hb hby at_150) ?_
  show Gt T150 m 151 #[iv x0, iv x1, iv x2, iv x3, iv x4, iv (iN n), rv b1, .unset, .unset, .unset] [(.int ch6), (.int 1), (.ref b146), (.ref b146), (.ref b142), (.ref b142)]
  obtain ⟨cl155, Ar155, qk155, Sz155, qz155, Ha155, Gf155⟩ := id V150
  obtain ⟨T155, h155, X155, e155, W155, st155⟩ := stC X150 hx hZ e150 Ar155 (inb_of Sz155 ⟨by decide, by decide⟩) (g := (mkF m 151 #[iv x0, iv x1, iv x2, iv x3, iv x4, iv (iN n), rv b1, .unset, .unset, .unset] [(.int ch6), (.int 1), (.ref b146), (.ref b146), (.ref b142), (.ref b142)])) rfl rfl (hb hby at_151)
  have N155 := Fr.snoc X155 N150 lo_b146
  have V155 : Arv Z h155 b146 cA146 .char 3 [(.int (nar .char ch3)), (.int (nar .char ch6)), (.int 0)] (.int 0) := (Arv.set Ar155 qk155 Sz155 qz155 Ha155 Gf155 (fits_nar_char _) W155 1 (by decide) (by simp))
  refine Goes.st st155 ?_
  have hk := lT hk (Nat.le_of_eq W155.size.symm)
  have f156 := (EA146.wr W150)
  have hR := hR.trans (CHr.wr W155 (Safe.exa hZ.alike f156 (by decide) (by decide)) hR.1)
  have Z155 : n0 ≤ h155.size := by have := W155.size; have := Z150; omega
  refine gdup X155 hx (hb hby at_152) rfl ?_
  refine giconst X155 hx (hb hby at_153) ?_
  refine gaload X155 hx (hb hby at_154) rfl rfl ?_
  refine giconst X155 hx (hb hby at_156) ?_
  have f158 := (f153.other W155 ne152)
  refine qCa X155 hx hZ e155 f158 ⟨by decide, by decide⟩ (v := (.int ch10)) rfl (hb hby at_157) ?_
  show Gt T155 m 158 #[iv x0, iv x1, iv x2, iv x3, iv x4, iv (iN n), rv b1, .unset, .unset, .unset] [(.int ch10), (.int 2), (.ref b146), (.ref b146), (.ref b142), (.ref b142)]
  obtain ⟨cl160, Ar160, qk160, Sz160, qz160, Ha160, Gf160⟩ := id V155
  obtain ⟨T160, h160, X160, e160, W160, st160⟩ := stC X155 hx hZ e155 Ar160 (inb_of Sz160 ⟨by decide, by decide⟩) (g := (mkF m 158 #[iv x0, iv x1, iv x2, iv x3, iv x4, iv (iN n), rv b1, .unset, .unset, .unset] [(.int ch10), (.int 2), (.ref b146), (.ref b146), (.ref b142), (.ref b142)])) rfl rfl (hb hby at_158)
  have N160 := Fr.snoc X160 N155 lo_b146
  have V160 : Arv Z h160 b146 cA146 .char 3 [(.int (nar .char ch3)), (.int (nar .char ch6)), (.int (nar .char ch10))] (.int 0) := (Arv.set Ar160 qk160 Sz160 qz160 Ha160 Gf160 (fits_nar_char _) W160 2 (by decide) (by simp))
  refine Goes.st st160 ?_
  have hk := lT hk (Nat.le_of_eq W160.size.symm)
  have f161 := (f156.wr W155)
  have hR := hR.trans (CHr.wr W160 (Safe.exa hZ.alike f161 (by decide) (by decide)) hR.1)
  have Z160 : n0 ≤ h160.size := by have := W160.size; have := Z155; omega
  show Gt T160 m 159 #[iv x0, iv x1, iv x2, iv x3, iv x4, iv (iN n), rv b1, .unset, .unset, .unset] [(.ref b146), (.ref b142), (.ref b142)]
  have V163 : Arv Z h160 b146 cA146 .char 3 [(.int ch3), (.int ch6), (.int ch10)] (.int 0) := by have q := V160; rw [own_nc ck3, own_nc ck6, own_nc ck10] at q; exact q
  have f164 := ((((A142.ext E146).wr W150).wr W155).wr W160)
  have ne165 := neB A142.lt g146
  have f166 := ((((F142_value.ext E146).other W150 (Or.inl ne165)).other W155 (Or.inl ne165)).other W160 (Or.inl ne165))
  have f167 := ((((F142_coder.ext E146).other W150 (Or.inl ne165)).other W155 (Or.inl ne165)).other W160 (Or.inl ne165))
  have f168 := ((((((((((Scs.ext E1).wr W4).wr W7).wr W11).wr W15).ext E142).ext E146).wr W150).wr W155).wr W160)
  have f169 := ((((((((((Sd.ext E1).wr W4).wr W7).wr W11).wr W15).ext E142).ext E146).wr W150).wr W155).wr W160)
  have f170 := ((((((((((Sh.ext E1).wr W4).wr W7).wr W11).wr W15).ext E142).ext E146).wr W150).wr W155).wr W160)
  have f171 := ((((((((((Sl.ext E1).wr W4).wr W7).wr W11).wr W15).ext E142).ext E146).wr W150).wr W155).wr W160)
  refine zC X160 hx hZ hown hw 9 10 11 8 (rmIc l hw b142 b146 cA146 3 (c4 ch3 ch6 ch10 ch14) cs Z160 f168 hcs f169 f170 f171 f164 lo_b142 f166 f167 V163 (by omega) (by omega) (fun i _ => c4_ok ck3 ck6 ck10 ck14 i)) e160 hml (hb hby at_159) pd47 (W := 1) (rest := [(.ref b142)]) ?_ rfl rfl rfl rfl (by decide) (lq rfl) rfl rfl rfl
  rintro T172 L172 v172 X172 ⟨bb172, kB172, u172, rfl, N172q, K172, Sb172⟩
  have hk := lT hk K172.1
  have hR := hR.trans (CHr.keep K172 (sfS (Safe.nul hZ.alike f164 f166) sf0) hR.1)
  have Z172 := lT Z160 K172.1
  have N172 := Fr.app N160 N172q
  refine gastore X172 hx (hb hby at_162) rfl (l' := #[iv x0, iv x1, iv x2, iv x3, iv x4, iv (iN n), rv b1, rv b142, .unset, .unset]) rfl ?_
  refine gG X172 hx (pc := 164) (pc' := 207) (hb hby at_164) ?_ (by decide) (by decide)
  show Gt T172 m 207 _ []
  subst hz
  have f174 := (f168.kept K172 (nsS (Exa.nostat f164) ns0))
  have f175 := (f169.kept K172 (nsS (Exa.nostat f164) ns0))
  have f176 := (f170.kept K172 (nsS (Exa.nostat f164) ns0))
  have f177 := (f171.kept K172 (nsS (Exa.nostat f164) ns0))
  have f178 := (((((((((((Sfm.ext E1).wr W4).wr W7).wr W11).wr W15).ext E142).ext E146).wr W150).wr W155).wr W160).kept K172 (nsS (Exa.nostat f164) ns0))
  have f179 := (((((((((((Sde.ext E1).wr W4).wr W7).wr W11).wr W15).ext E142).ext E146).wr W150).wr W155).wr W160).kept K172 (nsS (Exa.nostat f164) ns0))
  have ne180 := neB ((((((Ade.ext E1).other W4 ne143).other W7 ne143).other W11 ne143).other W15 ne143).ext E142).lt g146
  have ne181 := neB (((((Ade.ext E1).other W4 ne143).other W7 ne143).other W11 ne143).other W15 ne143).lt g142
  have f182 := (((((((((((Ade.ext E1).other W4 ne143).other W7 ne143).other W11 ne143).other W15 ne143).ext E142).ext E146).other W150 ne180).other W155 ne180).other W160 ne180).keep K172 (ninS ne181 nin0))
  have f183 := (((((((((((Sem.ext E1).wr W4).wr W7).wr W11).wr W15).ext E142).ext E146).wr W150).wr W155).wr W160).kept K172 (nsS (Exa.nostat f164) ns0))
  have f184 := (((((((((((Sel.ext E1).wr W4).wr W7).wr W11).wr W15).ext E142).ext E146).wr W150).wr W155).wr W160).kept K172 (nsS (Exa.nostat f164) ns0))
  have f185 := (((((((((((Eo.ext E1).wr W4).wr W7).wr W11).wr W15).ext E142).ext E146).wr W150).wr W155).wr W160).keep K172)
  have f186 := (((((((((((Xl.ext E1).wr W4).wr W7).wr W11).wr W15).ext E142).ext E146).wr W150).wr W155).wr W160).keep K172)
  have ne187 := neB Xl.lt g1
  have ne188 := neB ((((((Xl.ext E1).wr W4).wr W7).wr W11).wr W15).ext E142).lt g146
  have ne189 := neB (((((Xl.ext E1).wr W4).wr W7).wr W11).wr W15).lt g142
  have f190 := (((((((((((Fl.ext E1).other W4 (Or.inl ne187)).other W7 (Or.inl ne187)).other W11 (Or.inl ne187)).other W15 (Or.inl ne187)).ext E142).ext E146).other W150 (Or.inl ne188)).other W155 (Or.inl ne188)).other W160 (Or.inl ne188)).keep K172 (ninS ne189 nin0))
  have ne191 := neB ((((((Aa.ext E1).other W4 ne144).other W7 ne144).other W11 ne144).other W15 ne144).ext E142).lt g146
  have ne192 := neB (((((Aa.ext E1).other W4 ne144).other W7 ne144).other W11 ne144).other W15 ne144).lt g142
  have f193 := (((((((((((Aa.ext E1).other W4 ne144).other W7 ne144).other W11 ne144).other W15 ne144).ext E142).ext E146).other W150 ne191).other W155 ne191).other W160 ne191).keep K172 (ninS ne192 nin0))
  have ne194 := neB V18.lt g142
  have f195 := ((f158.other W160 ne152).keep K172 (ninS ne194 nin0))
  exact lwT Z a0 hw hx hby hlk hret hml hnm _ _ hS hown hZ x0 x1 x2 x3 x4 cs fm dE kD eL eM mO eA kA b142 bb172 kB172 u172 3 b1 cA1 (c4 ch3 ch6 ch10 ch14) h0 T172.heap n0 T172 _ (X172.more (by decide : 5 ≤ 6) (by decide : 27 ≤ 40)) rfl N172 Z172 hk hR.1 f174 hcs f175 f176 f177 f178 hfm f179 f182 f183 f184 Mo f185 f186 f190 f193 f195 Sb172
 ·have hz : n = 4 := by omega
  refine gastore X15 hx (hb hby at_40) rfl (l' := #[iv x0, iv x1, iv x2, iv x3, iv x4, iv (iN n), rv b1, .unset, .unset, .unset]) rfl ?_
  refine giload X15 hx (hb hby at_42) rfl ?_
  refine gT X15 hx (pc := 44) (pc' := 62) (hb hby at_44) ((if0 _ _).trans (feq (neN n 0 (by omega) (by omega) (by omega))).2) ?_ (by decide) (by decide)
  refine giload X15 hx (hb hby at_62) rfl ?_
  refine giconst X15 hx (hb hby at_64) ?_
  refine gY X15 hx (pc := 65) (pc' := 90) (hb hby at_65) (feq (neN n 1 (by omega) (by omega) (by omega))).2 ?_ (by decide) (by decide)
  refine giload X15 hx (hb hby at_90) rfl ?_
  refine giconst X15 hx (hb hby at_92) ?_
  refine gY X15 hx (pc := 93) (pc' := 125) (hb hby at_93) (feq (neN n 2 (by omega) (by omega) (by omega))).2 ?_ (by decide) (by decide)
  show Gt T15 m 125 _ []
  refine giload X15 hx (hb hby at_125) rfl ?_
  refine giconst X15 hx (hb hby at_127) ?_
  refine gY X15 hx (pc := 128) (pc' := 167) (hb hby at_128) (feq (neN n 3 (by omega) (by omega) (by omega))).2 ?_ (by decide) (by decide)
  obtain ⟨T196, h196, X196, e196, E196, A196, D196, -, st196⟩ := newO X15 hx hZ hown (hw 6 rfl) (hw 7 rfl) (hw 8 rfl) e15 (g := (mkF m 167 #[iv x0, iv x1, iv x2, iv x3, iv x4, iv (iN n), rv b1, .unset, .unset, .unset] [])) rfl (hb hby at_167) (by decide) (by decide)
  obtain ⟨b196, g196⟩ : ∃ z, z = h15.size := ⟨_, rfl⟩
  rw [← g196] at A196 D196 st196
  have ne197 := neB Ade.lt g1
  have ne198 := neB Aa.lt g1
  have lo_b196 := loB Z15 g196
  refine Goes.st st196 ?_
  have hk := lT hk E196.1
  have hR := hR.trans (CHr.ext E196 hR.1)
  have Z196 := lT Z15 E196.1
  have F196_value : F_0 Z h196 b196 .null := D196 (Or.inr (hw 21 rfl)) (ty := (.array .byte)) (by decide)
  have F196_coder : F_1 Z h196 b196 (.int 0) := D196 (Or.inr (hw 22 rfl)) (ty := .byte) (by decide)
  refine gdup X196 hx (hb hby at_170) rfl ?_
  refine giconst X196 hx (hb hby at_171) ?_
  obtain ⟨T200, h200, cA200, X200, e200, E200, A200, EA200, st200⟩ := newPE X196 hx hZ (hw 1 rfl) e196 (g := (mkF m 172 #[iv x0, iv x1, iv x2, iv x3, iv x4, iv (iN n), rv b1, .unset, .unset, .unset] [(.int 4), (.ref b196), (.ref b196)])) rfl (hb hby at_172) rfl (by decide) (cap := 4) (by decide) (by decide) (by decide) (by decide) (ad := "[C") (by decide)
  obtain ⟨b200, g200⟩ : ∃ z, z = h196.size := ⟨_, rfl⟩
  rw [← g200] at A200 st200 EA200
  have lo_b200 := loB Z196 g200
  have hk := lT hk E200.1
  have hR := hR.trans (CHr.ext E200 hR.1)
  have V200 : Arv Z h200 b200 cA200 .char 4 [(.int 0), (.int 0), (.int 0), (.int 0)] (.int 0) := (Arv.new A200 (by decide)).pad (pad_rep [] _ 4)
  refine Goes.st st200 ?_
  have Z200 := lT Z196 E200.1
  refine gdup X200 hx (hb hby at_174) rfl ?_
  refine giconst X200 hx (hb hby at_175) ?_
  show Gt T200 m 176 #[iv x0, iv x1, iv x2, iv x3, iv x4, iv (iN n), rv b1, .unset, .unset, .unset] [(.int 0), (.ref b200), (.ref b200), (.ref b196), (.ref b196)]
  refine gaload X200 hx (hb hby at_176) rfl rfl ?_
  refine giconst X200 hx (hb hby at_178) ?_
  have f202 := ((V18.ext E196).ext E200)
  refine qCa X200 hx hZ e200 f202 ⟨by decide, by decide⟩ (v := (.int ch3)) rfl (hb hby at_179) ?_
  show Gt T200 m 180 _ [(.int ch3), (.int 0), (.ref b200), (.ref b200), (.ref b196), (.ref b196)]
  obtain ⟨cl204, Ar204, qk204, Sz204, qz204, Ha204, Gf204⟩ := id V200
  obtain ⟨T204, h204, X204, e204, W204, st204⟩ := stC X200 hx hZ e200 Ar204 (inb_of Sz204 ⟨by decide, by decide⟩) (g := (mkF m 180 #[iv x0, iv x1, iv x2, iv x3, iv x4, iv (iN n), rv b1, .unset, .unset, .unset] [(.int ch3), (.int 0), (.ref b200), (.ref b200), (.ref b196), (.ref b196)])) rfl rfl (hb hby at_180)
  have N204 := Fr.snoc X204 N15 lo_b200
  have V204 : Arv Z h204 b200 cA200 .char 4 [(.int (nar .char ch3)), (.int 0), (.int 0), (.int 0)] (.int 0) := (Arv.set Ar204 qk204 Sz204 qz204 Ha204 Gf204 (fits_nar_char _) W204 0 (by decide) (by simp))
  refine Goes.st st204 ?_
  have hk := lT hk (Nat.le_of_eq W204.size.symm)
  have hR := hR.trans (CHr.wr W204 (Safe.exa hZ.alike EA200 (by decide) (by decide)) hR.1)
  have Z204 : n0 ≤ h204.size := by have := W204.size; have := Z200; omega
  refine gdup X204 hx (hb hby at_181) rfl ?_
  refine giconst X204 hx (hb hby at_182) ?_
  refine gaload X204 hx (hb hby at_183) rfl rfl ?_
  refine giconst X204 hx (hb hby at_185) ?_
  have ne206 := neB ((f16.wr W15).ext E196).lt g200
  have f207 := (f202.other W204 ne206)
  refine qCa X204 hx hZ e204 f207 ⟨by decide, by decide⟩ (v := (.int ch6)) rfl (hb hby at_186) ?_
  show Gt T204 m 187 #[iv x0, iv x1, iv x2, iv x3, iv x4, iv (iN n), rv b1, .unset, .unset, .unset] [(.int ch6), (.int 1), (.ref b200), (.ref b200), (.ref b196), (.ref b196)]
  obtain ⟨cl209, Ar209, qk209, Sz209, qz209, Ha209, Gf209⟩ := id V204
  obtain ⟨T209, h209, X209, e209, W209, st209⟩ := stC X204 hx hZ e204 Ar209 (inb_of Sz209 ⟨by decide, by decide⟩) (g := (mkF m 187 #[iv x0, iv x1, iv x2, iv x3, iv x4, iv (iN n), rv b1, .unset, .unset, .unset] [(.int ch6), (.int 1), (.ref b200), (.ref b200), (.ref b196), (.ref b196)])) rfl rfl (hb hby at_187)
  have N209 := Fr.snoc X209 N204 lo_b200
  have V209 : Arv Z h209 b200 cA200 .char 4 [(.int (nar .char ch3)), (.int (nar .char ch6)), (.int 0), (.int 0)] (.int 0) := (Arv.set Ar209 qk209 Sz209 qz209 Ha209 Gf209 (fits_nar_char _) W209 1 (by decide) (by simp))
  refine Goes.st st209 ?_
  have hk := lT hk (Nat.le_of_eq W209.size.symm)
  have f210 := (EA200.wr W204)
  have hR := hR.trans (CHr.wr W209 (Safe.exa hZ.alike f210 (by decide) (by decide)) hR.1)
  have Z209 : n0 ≤ h209.size := by have := W209.size; have := Z204; omega
  refine gdup X209 hx (hb hby at_188) rfl ?_
  refine giconst X209 hx (hb hby at_189) ?_
  refine gaload X209 hx (hb hby at_190) rfl rfl ?_
  refine giconst X209 hx (hb hby at_192) ?_
  have f212 := (f207.other W209 ne206)
  refine qCa X209 hx hZ e209 f212 ⟨by decide, by decide⟩ (v := (.int ch10)) rfl (hb hby at_193) ?_
  show Gt T209 m 194 #[iv x0, iv x1, iv x2, iv x3, iv x4, iv (iN n), rv b1, .unset, .unset, .unset] [(.int ch10), (.int 2), (.ref b200), (.ref b200), (.ref b196), (.ref b196)]
  obtain ⟨cl214, Ar214, qk214, Sz214, qz214, Ha214, Gf214⟩ := id V209
  obtain ⟨T214, h214, X214, e214, W214, st214⟩ := stC X209 hx hZ e209 Ar214 (inb_of Sz214 ⟨by decide, by decide⟩) (g := (mkF m 194 #[iv x0, iv x1, iv x2, iv x3, iv x4, iv (iN n), rv b1, .unset, .unset, .unset] [(.int ch10), (.int 2), (.ref b200), (.ref b200), (.ref b196), (.ref b196)])) rfl rfl (hb hby at_194)
  have N214 := Fr.snoc X214 N209 lo_b200
  have V214 : Arv Z h214 b200 cA200 .char 4 [(.int (nar .char ch3)), (.int (nar .char ch6)), (.int (nar .char ch10)), (.int 0)] (.int 0) := (Arv.set Ar214 qk214 Sz214 qz214 Ha214 Gf214 (fits_nar_char _) W214 2 (by decide) (by simp))
  refine Goes.st st214 ?_
  have hk := lT hk (Nat.le_of_eq W214.size.symm)
  have f215 := (f210.wr W209)
  have hR := hR.trans (CHr.wr W214 (Safe.exa hZ.alike f215 (by decide) (by decide)) hR.1)
  have Z214 : n0 ≤ h214.size := by have := W214.size; have := Z209; omega
  refine gdup X214 hx (hb hby at_195) rfl ?_
  refine giconst X214 hx (hb hby at_196) ?_
  refine gaload X214 hx (hb hby at_197) rfl rfl ?_
  refine giconst X214 hx (hb hby at_199) ?_
  have f217 := (f212.other W214 ne206)
  refine qCa X214 hx hZ e214 f217 ⟨by decide, by decide⟩ (v := (.int ch14)) rfl (hb hby at_200) ?_
  show Gt T214 m 201 #[iv x0, iv x1, iv x2, iv x3, iv x4, iv (iN n), rv b1, .unset, .unset, .unset] [(.int ch14), (.int 3), (.ref b200), (.ref b200), (.ref b196), (.ref b196)]
  obtain ⟨cl219, Ar219, qk219, Sz219, qz219, Ha219, Gf219⟩ := id V214
  obtain ⟨T219, h219, X219, e219, W219, st219⟩ := stC X214 hx hZ e214 Ar219 (inb_of Sz219 ⟨by decide, by decide⟩) (g := (mkF m 201 #[iv x0, iv x1, iv x2, iv x3, iv x4, iv (iN n), rv b1, .unset, .unset, .unset] [(.int ch14), (.int 3), (.ref b200), (.ref b200), (.ref b196), (.ref b196)])) rfl rfl (hb hby at_201)
  have N219 := Fr.snoc X219 N214 lo_b200
  have V219 : Arv Z h219 b200 cA200 .char 4 [(.int (nar .char ch3)), (.int (nar .char ch6)), (.int (nar .char ch10)), (.int (nar .char ch14))] (.int 0) := (Arv.set Ar219 qk219 Sz219 qz219 Ha219 Gf219 (fits_nar_char _) W219 3 (by decide) (by simp))
  refine Goes.st st219 ?_
  have hk := lT hk (Nat.le_of_eq W219.size.symm)
  have f220 := (f215.wr W214)
  have hR := hR.trans (CHr.wr W219 (Safe.exa hZ.alike f220 (by decide) (by decide)) hR.1)
  have Z219 : n0 ≤ h219.size := by have := W219.size; have := Z214; omega
  show Gt T219 m 202 #[iv x0, iv x1, iv x2, iv x3, iv x4, iv (iN n), rv b1, .unset, .unset, .unset] [(.ref b200), (.ref b196), (.ref b196)]
  have V222 : Arv Z h219 b200 cA200 .char 4 [(.int ch3), (.int ch6), (.int ch10), (.int ch14)] (.int 0) := by have q := V219; rw [own_nc ck3, own_nc ck6, own_nc ck10, own_nc ck14] at q; exact q
  have f223 := (((((A196.ext E200).wr W204).wr W209).wr W214).wr W219)
  have ne224 := neB A196.lt g200
  have f225 := (((((F196_value.ext E200).other W204 (Or.inl ne224)).other W209 (Or.inl ne224)).other W214 (Or.inl ne224)).other W219 (Or.inl ne224))
  have f226 := (((((F196_coder.ext E200).other W204 (Or.inl ne224)).other W209 (Or.inl ne224)).other W214 (Or.inl ne224)).other W219 (Or.inl ne224))
  have f227 := (((((((((((Scs.ext E1).wr W4).wr W7).wr W11).wr W15).ext E196).ext E200).wr W204).wr W209).wr W214).wr W219)
  have f228 := (((((((((((Sd.ext E1).wr W4).wr W7).wr W11).wr W15).ext E196).ext E200).wr W204).wr W209).wr W214).wr W219)
  have f229 := (((((((((((Sh.ext E1).wr W4).wr W7).wr W11).wr W15).ext E196).ext E200).wr W204).wr W209).wr W214).wr W219)
  have f230 := (((((((((((Sl.ext E1).wr W4).wr W7).wr W11).wr W15).ext E196).ext E200).wr W204).wr W209).wr W214).wr W219)
  refine zC X219 hx hZ hown hw 9 10 11 8 (rmIc l hw b196 b200 cA200 4 (c4 ch3 ch6 ch10 ch14) cs Z219 f227 hcs f228 f229 f230 f223 lo_b196 f225 f226 V222 (by omega) (by omega) (fun i _ => c4_ok ck3 ck6 ck10 ck14 i)) e219 hml (hb hby at_202) pd47 (W := 1) (rest := [(.ref b196)]) ?_ rfl rfl rfl rfl (by decide) (lq rfl) rfl rfl rfl
  rintro T231 L231 v231 X231 ⟨bb231, kB231, u231, rfl, N231q, K231, Sb231⟩
  have hk := lT hk K231.1
  have hR := hR.trans (CHr.keep K231 (sfS (Safe.nul hZ.alike f223 f225) sf0) hR.1)
  have Z231 := lT Z219 K231.1
  have N231 := Fr.app N219 N231q
  refine gastore X231 hx (hb hby at_205) rfl (l' := #[iv x0, iv x1, iv x2, iv x3, iv x4, iv (iN n), rv b1, rv b196, .unset, .unset]) rfl ?_
  show Gt T231 m 207 _ []
  subst hz
  have f233 := (f227.kept K231 (nsS (Exa.nostat f223) ns0))
  have f234 := (f228.kept K231 (nsS (Exa.nostat f223) ns0))
  have f235 := (f229.kept K231 (nsS (Exa.nostat f223) ns0))
  have f236 := (f230.kept K231 (nsS (Exa.nostat f223) ns0))
  have f237 := ((((((((((((Sfm.ext E1).wr W4).wr W7).wr W11).wr W15).ext E196).ext E200).wr W204).wr W209).wr W214).wr W219).kept K231 (nsS (Exa.nostat f223) ns0))
  have f238 := ((((((((((((Sde.ext E1).wr W4).wr W7).wr W11).wr W15).ext E196).ext E200).wr W204).wr W209).wr W214).wr W219).kept K231 (nsS (Exa.nostat f223) ns0))
  have ne239 := neB ((((((Ade.ext E1).other W4 ne197).other W7 ne197).other W11 ne197).other W15 ne197).ext E196).lt g200
  have ne240 := neB (((((Ade.ext E1).other W4 ne197).other W7 ne197).other W11 ne197).other W15 ne197).lt g196
  have f241 := ((((((((((((Ade.ext E1).other W4 ne197).other W7 ne197).other W11 ne197).other W15 ne197).ext E196).ext E200).other W204 ne239).other W209 ne239).other W214 ne239).other W219 ne239).keep K231 (ninS ne240 nin0))
  have f242 := ((((((((((((Sem.ext E1).wr W4).wr W7).wr W11).wr W15).ext E196).ext E200).wr W204).wr W209).wr W214).wr W219).kept K231 (nsS (Exa.nostat f223) ns0))
  have f243 := ((((((((((((Sel.ext E1).wr W4).wr W7).wr W11).wr W15).ext E196).ext E200).wr W204).wr W209).wr W214).wr W219).kept K231 (nsS (Exa.nostat f223) ns0))
  have f244 := ((((((((((((Eo.ext E1).wr W4).wr W7).wr W11).wr W15).ext E196).ext E200).wr W204).wr W209).wr W214).wr W219).keep K231)
  have f245 := ((((((((((((Xl.ext E1).wr W4).wr W7).wr W11).wr W15).ext E196).ext E200).wr W204).wr W209).wr W214).wr W219).keep K231)
  have ne246 := neB Xl.lt g1
  have ne247 := neB ((((((Xl.ext E1).wr W4).wr W7).wr W11).wr W15).ext E196).lt g200
  have ne248 := neB (((((Xl.ext E1).wr W4).wr W7).wr W11).wr W15).lt g196
  have f249 := ((((((((((((Fl.ext E1).other W4 (Or.inl ne246)).other W7 (Or.inl ne246)).other W11 (Or.inl ne246)).other W15 (Or.inl ne246)).ext E196).ext E200).other W204 (Or.inl ne247)).other W209 (Or.inl ne247)).other W214 (Or.inl ne247)).other W219 (Or.inl ne247)).keep K231 (ninS ne248 nin0))
  have ne250 := neB ((((((Aa.ext E1).other W4 ne198).other W7 ne198).other W11 ne198).other W15 ne198).ext E196).lt g200
  have ne251 := neB (((((Aa.ext E1).other W4 ne198).other W7 ne198).other W11 ne198).other W15 ne198).lt g196
  have f252 := ((((((((((((Aa.ext E1).other W4 ne198).other W7 ne198).other W11 ne198).other W15 ne198).ext E196).ext E200).other W204 ne250).other W209 ne250).other W214 ne250).other W219 ne250).keep K231 (ninS ne251 nin0))
  have ne253 := neB V18.lt g196
  have f254 := ((f217.other W219 ne206).keep K231 (ninS ne253 nin0))
  exact lwT Z a0 hw hx hby hlk hret hml hnm _ _ hS hown hZ x0 x1 x2 x3 x4 cs fm dE kD eL eM mO eA kA b196 bb231 kB231 u231 4 b1 cA1 (c4 ch3 ch6 ch10 ch14) h0 T231.heap n0 T231 _ (X231.more (by decide : 5 ≤ 6) (by decide : 28 ≤ 40)) rfl N231 Z231 hk hR.1 f233 hcs f234 f235 f236 f237 hfm f238 f241 f242 f243 Mo f244 f245 f249 f252 f254 Sb231
theorem comes_1 {Post : Tables → Env → Array Value → State → Outcome → State → Prop} (hpost : ∀ tb e args s v u, (limb_1_1.after args s (.returned v) u = true ∧ limb_1_2.after args s (.returned v) u = true ∧ True) → ReturnedEndW s (.returned v) u (Jvm.fieldLocs frame_1_writes args s ++ Jvm.arrayLocs frame_1_arrays args s ++ Jvm.staticLocs frame_1_statics s) 48 3328 → Post tb e args s (.returned v) u) :
  ArmFor flags0 classFile x code maxLocals ret World_1 tables_1 room_1 Calls_1 rest_1 Pre_1 Post := by
 intro l hfl _ _ p e ha hc hk s m args below hf hA hF happ hP
 obtain ⟨hcalls, hrest, hpre⟩ := hP
 obtain ⟨-, -, -, hnamed, -, -, -, hat⟩ := (Spec.applies_iff hf).mp happ
 obtain ⟨hg, hn⟩ := and_e (Cond.before_iff.mp (show (Jvm.Cond.and given_1 narrow_1).before args s = true from hpre))
 obtain ⟨hcnt, hg⟩ := and_e hg
 obtain ⟨ga0, hg⟩ := and_e hg
 obtain ⟨ga1, hg⟩ := and_e hg
 obtain ⟨ga2, hg⟩ := and_e hg
 obtain ⟨ga3, hg⟩ := and_e hg
 have ga4 := hg
 obtain ⟨w0, w1, w2, w3, w4, rfl⟩ : ∃ w0 w1 w2 w3 w4 : Value, args = #[w0, w1, w2, w3, w4] := by
  have hs : args.size = 5 := by simpa [Cond.value, given_1] using hcnt
  obtain ⟨L⟩ := args
  match L, hs with
  | [w0, w1, w2, w3, w4], _ => exact ⟨w0, w1, w2, w3, w4, rfl⟩
 have hw0 := fun d (hd : d ∈ tables_1) => atoms_spec (ws := Jvm.Cond.code x code maxLocals ret :: tables_1) hat d (List.mem_cons_of_mem _ hd)
 have hw := fun (k : Nat) {d : Jvm.Cond} (q : tables_1[k]? = some d) => hwk hw0 k q
 have hfit : Fit s := fun {y c} hc i hi => by
  obtain ⟨ha, rfl⟩ := Array.getElem?_eq_some_iff.mp hc
  have q := List.all_eq_true.mp ((Array.all_eq_true_iff_forall_mem.mp hF) _ (Array.getElem_mem ha)) i (List.mem_range.mpr hi)
  simpa [Array.getElem?_eq_getElem hi] using q
 obtain ⟨i0, q0⟩ := is_v ga0
 obtain rfl : w0 = (.int i0) := Option.some.inj q0
 obtain ⟨i1, q1⟩ := is_v ga1
 obtain rfl : w1 = (.int i1) := Option.some.inj q1
 obtain ⟨i2, q2⟩ := is_v ga2
 obtain rfl : w2 = (.int i2) := Option.some.inj q2
 obtain ⟨i3, q3⟩ := is_v ga3
 obtain rfl : w3 = (.int i3) := Option.some.inj q3
 obtain ⟨i4, q4⟩ := is_v ga4
 obtain rfl : w4 = (.int i4) := Option.some.inj q4
 obtain ⟨hsets, hown0⟩ := atoms_of _ (rest_1_c_eq ▸ (show rest_1_c.before _ s = true from hrest))
 have n5 := not_v (Cond.before_iff.mp (hsets _ (List.mem_of_getElem? (i := 9) rfl)))
 obtain ⟨csv, e10⟩ := is_v (Cond.before_iff.mp (hsets _ (List.mem_of_getElem? (i := 8) rfl)))
 have Scs : Sta s s.heap "java/lang/String" "COMPACT_STRINGS" "Z" (.int csv) := Sta.start e10 (Or.inl (hsets _ (List.mem_of_getElem? (i := 7) rfl)))
 have hcs : ¬ (csv = (0 : Int32)) := gotF (Cond.eq_ints e10 (Term.int_eval (0))) n5
 have Sd : Sta s s.heap "java/lang/StringUTF16" "$assertionsDisabled" "Z" (.int 1) := Sta.start (eqv_i (Term.int_eval (1)) (Cond.before_iff.mp (hsets _ (List.mem_of_getElem? (i := 19) rfl)))) (Or.inl (hsets _ (List.mem_of_getElem? (i := 18) rfl)))
 have Sh : Sta s s.heap "java/lang/StringUTF16" "HI_BYTE_SHIFT" "I" (.int 0) := Sta.start (eqv_i (Term.int_eval (0)) (Cond.before_iff.mp (hsets _ (List.mem_of_getElem? (i := 22) rfl)))) (Or.inl (hsets _ (List.mem_of_getElem? (i := 21) rfl)))
 have Sl : Sta s s.heap "java/lang/StringUTF16" "LO_BYTE_SHIFT" "I" (.int 8) := Sta.start (eqv_i (Term.int_eval (8)) (Cond.before_iff.mp (hsets _ (List.mem_of_getElem? (i := 25) rfl)))) (Or.inl (hsets _ (List.mem_of_getElem? (i := 24) rfl)))
 obtain ⟨fmv, e17, hfm⟩ := isR_v (Cond.before_iff.mp (hsets _ (List.mem_of_getElem? (i := 15) rfl)))
 have Sfm : Sta s s.heap "jdk/internal/util/Preconditions" "SIOOBE_FORMATTER" "Ljava/util/function/BiFunction;" fmv := Sta.start e17 (Or.inl (hsets _ (List.mem_of_getElem? (i := 14) rfl)))
 obtain ⟨dE, eD⟩ := arr_v (Cond.before_iff.mp (hsets _ (List.mem_of_getElem? (i := 32) rfl)))
 have Sde : Sta s s.heap "java/util/ArrayList" "DEFAULTCAPACITY_EMPTY_ELEMENTDATA" "[Ljava/lang/Object;" (.ref dE) := Sta.start eD (Or.inr ⟨hw 99 rfl, (hsets _ (List.mem_of_getElem? (i := 28) rfl))⟩)
 have lD := eqv_i (Term.int_eval (0)) (Cond.before_iff.mp (hsets _ (List.mem_of_getElem? (i := 34) rfl)))
 obtain ⟨xD, cD, fD, aD, vD, sD⟩ := Jvm.Free.SB.Term.length_small lD
 obtain ⟨c2, AD⟩ := Arr.start eD (Cond.before_iff.mp (hsets _ (List.mem_of_getElem? (i := 32) rfl)))
 cases eD.symm.trans fD
 cases (Arr.fin (U := s) (Vm.Alike.refl _) AD).symm.trans aD
 have Ade : Arv s s.heap dE cD.cls (.object "java/lang/Object") 0 [] .null := Arv.start hfit AD sD (by injection vD with z; exact z.symm) (by decide) rfl trivial
 obtain ⟨eM, vM⟩ := exa_v (Cond.before_iff.mp (hsets _ (List.mem_of_getElem? (i := 37) rfl)))
 have Sem : Sta s s.heap "java/util/ImmutableCollections" "EMPTY" "Ljava/lang/Object;" (.ref eM) := Sta.start vM (Or.inl (hsets _ (List.mem_of_getElem? (i := 36) rfl)))
 have Eo := Exa.start vM (Cond.before_iff.mp (hsets _ (List.mem_of_getElem? (i := 37) rfl)))
 obtain ⟨eL, vL⟩ := exa_v (Cond.before_iff.mp (hsets _ (List.mem_of_getElem? (i := 2) rfl)))
 have Sel : Sta s s.heap "java/util/ImmutableCollections" "EMPTY_LIST" "Ljava/util/ImmutableCollections$ListN;" (.ref eL) := Sta.start vL (Or.inl (hsets _ (List.mem_of_getElem? (i := 1) rfl)))
 have Xl := Exa.start vL (Cond.before_iff.mp (hsets _ (List.mem_of_getElem? (i := 2) rfl)))
 obtain ⟨eA, vA⟩ := arr_v (Cond.before_iff.mp (hsets _ (List.mem_of_getElem? (i := 3) rfl)))
 have Fl : Fld s s.heap eL "java/util/ImmutableCollections$ListN" "elements" "[Ljava/lang/Object;" (.ref eA) := Fld.start ((fld_at vL).symm.trans vA)
 have lA := eqv_i (Term.int_eval (0)) (Cond.before_iff.mp (hsets _ (List.mem_of_getElem? (i := 5) rfl)))
 obtain ⟨xA, cA, fA, aA, wA, sA⟩ := Jvm.Free.SB.Term.length_small lA
 obtain ⟨c3, AA⟩ := Arr.start vA (Cond.before_iff.mp (hsets _ (List.mem_of_getElem? (i := 3) rfl)))
 cases vA.symm.trans fA
 cases (Arr.fin (U := s) (Vm.Alike.refl _) AA).symm.trans aA
 have Aa : Arv s s.heap eA cA.cls (.object "java/lang/Object") 0 [] .null := Arv.start hfit AA sA (by injection wA with z; exact z.symm) (by decide) rfl trivial
 obtain ⟨cM, kM, mO, hM⟩ := hcalls.1
 have Mo : Mir s "[Ljava/lang/Object;" mO := ⟨cM, kM, hM⟩
 have hH : CHv s ELs s.vm s.heap := CHv.start (hELs hw) (fun p hp => hcalls.2.1 p hp) (hsets _ (List.mem_of_getElem? (i := 9) rfl)) (hw 20 rfl) (hw 7 rfl)
 obtain ⟨n, o, h1, h2, h3, _, L, rfl, ⟨rfl, N⟩, hq⟩ := rm0 l s _ hw tables_1 i0 i1 i2 i3 i4 csv fmv dE cD.cls eL eM mO eA cA.cls s.heap s.heap.size (Nat.le_refl _) Scs hcs Sd Sh Sl Sfm hfm Sde Ade Sem Sel Mo Eo Xl Fl Aa p e ha hc hk s m _ below hf ((Spec.applies_iff_loose hf).mp happ).1 ⟨rfl, State.Warmed39.refl s, rfl, hH⟩ trivial
 refine ⟨n, _, h1, h2, h3, hpost _ _ _ _ _ _ ⟨Cond.after_iff.mpr rfl, Cond.after_iff.mpr (eq_i res_at (Term.int_eval (1)) rfl), trivial⟩ ⟨hq.1, hq.2.1, hq.2.2.1, (hq.2.2.2.sift fun y hy => Or.inr (N y hy)).mono (by decide) (by decide)⟩⟩
theorem main_1_1 : Claimed_1_1 := comes_1 fun _ _ _ _ _ _ h hF => ⟨h.1, hF⟩
theorem main_1_2 : Claimed_1_2 := comes_1 fun _ _ _ _ _ _ h hF => ⟨h.2.1, hF⟩
end Jvm.Pilot.@@N@@
namespace Jvm.Pilot.@@N@@
open Jvm Jvm.ClassFile Sem Op Lib Jvm.Free Jvm.Stand Jvm.Pilot.@@N@@.Jvm.D
/-! MADE BY PROGRAM (witnessworld.py) out of the Statement's table words and the real class files: 38 classes; the members and pool entries that the words name. The judged class is class 1, her method 7. -/
set_option maxRecDepth 65536
namespace start1
open Jvm.ClassFile
def u (s : String) : CpInfo := .utf8 (stringToUtf16 s)
def gap : Nat → List CpInfo → List CpInfo
  | 0, r => r
  | n + 1, r => .unusable :: gap n r
def poolList (es : List (Nat × CpInfo)) (last : Nat) : List CpInfo := es.foldr (fun e r => gap e.1 (e.2 :: r)) (gap last [])
def pool (es : List (Nat × CpInfo)) (last : Nat) : Array CpInfo := ⟨poolList es last⟩
def fileOf (pool : Array CpInfo) (this : Nat) (attrs : Array Attribute := #[]) (ms : Array MethodInfo := #[]) (fl : Nat := 33) (sup : Nat := 0) (ifs : Array Nat := #[]) (fds : Array FieldInfo := #[]) : ClassFile where
  minorVersion := 0
  majorVersion := 65
  constantPool := pool
  accessFlags := fl
  thisClass := this
  superClass := sup
  interfaces := ifs
  fields := fds
  methods := ms
  attributes := attrs
def plain (name : String) (sup : Option ClassId) : Class where
  name := name
  kind := .ordinary
  loader := none
  accessFlags := 33
  super := sup
  interfaces := #[]
  cf := none
  fields := #[]
  methods := #[]
  instanceTypes := #[]
  staticTypes := #[]
  resolved := #[]
  callSites := []
  init := .initialized
  statics := none
  mirror := none

def pool0 : Array CpInfo := pool [(5, u "<init>"), (0, u "()V"), (1, .class_ 10), (1, u "java/lang/Object"), (0, u "getClass"), (0, u "()Ljava/lang/Class;")] 111

def k0c0 : Code := { maxStack := 0, maxLocals := 1, code := object_method_1_code, exceptionTable := #[], attributes := #[] }
def k0m0 : Method := { name := "<init>", desc := "()V", sig := { parameters := [], returnType := none }, accessFlags := 1, code := some k0c0 }
def k0m1 : Method := { name := "getClass", desc := "()Ljava/lang/Class;", sig := { parameters := [], returnType := some (.object "java/lang/Class") }, accessFlags := 273, code := none }
def k0 : Class := { plain "java/lang/Object" none with
  accessFlags := 33
  interfaces := #[]
  cf := some (fileOf pool0 8 #[] #[{ accessFlags := 1, nameIndex := 5, descriptorIndex := 6, attributes := #[] }, { accessFlags := 273, nameIndex := 11, descriptorIndex := 12, attributes := #[] }] 33 0 #[] #[])
  fields := #[]
  methods := #[k0m0, k0m1]
  instanceTypes := #[]
  staticTypes := #[]
  resolved := Array.replicate 124 none
  statics := none }

def pool1 : Array CpInfo := pool [(2, .class_ 4), (1, u "java/lang/Object"), (0, u "<init>"), (0, u "()V"), (0, .methodref 8 9), (0, .class_ 10), (0, .nameAndType 11 12), (0, u "java/lang/String"), (0, u "length"), (0, u "()I"), (0, .methodref 8 14), (0, .nameAndType 15 16), (0, u "charAt"), (0, u "(I)C"), (0, .methodref 18 19), (0, .class_ 20), (0, .nameAndType 21 22), (0, u "com/example/engarce/engarce/NameListSplitPinLaw"), (0, u "isSep"), (0, u "(C)Z"), (0, .methodref 18 24), (0, .nameAndType 25 26), (0, u "firstKeep"), (0, u "([CII)I"), (0, .methodref 18 28), (0, .nameAndType 29 26), (0, u "lastKeep"), (0, .interfaceMethodref 31 32), (0, .class_ 33), (0, .nameAndType 34 12), (0, u "java/util/List"), (0, u "size"), (0, .interfaceMethodref 31 36), (0, .nameAndType 37 38), (0, u "get"), (0, u "(I)Ljava/lang/Object;"), (0, .methodref 18 40), (0, .nameAndType 41 42), (0, u "eqSeg"), (0, u "(Ljava/lang/String;[CII)Z"), (0, .integer 2147483647), (0, .methodref 18 45), (0, .nameAndType 46 16), (0, u "pick"), (0, .methodref 8 48), (0, .nameAndType 5 49), (0, u "([C)V"), (0, .methodref 51 52), (0, .class_ 53), (0, .nameAndType 54 55), (0, u "com/example/engarce/engarce/NameList"), (0, u "split"), (0, u "(Ljava/lang/String;)Ljava/util/List;"), (0, .methodref 18 57), (0, .nameAndType 58 59), (0, u "step"), (0, u "(Ljava/util/List;[CII[I)V"), (5, u "law"), (0, u "(IIIII)Z")] 6

def k1m0 : Method := { name := "<init>", desc := "()V", sig := { parameters := [], returnType := none }, accessFlags := 2, code := none }
def k1c1 : Code := { maxStack := 2, maxLocals := 2, code := method_2_code, exceptionTable := #[], attributes := #[] }
def k1m1 : Method := { name := "pick", desc := "(I)C", sig := { parameters := [.int], returnType := some .char }, accessFlags := 10, code := some k1c1 }
def k1c2 : Code := { maxStack := 2, maxLocals := 1, code := method_3_code, exceptionTable := #[], attributes := #[] }
def k1m2 : Method := { name := "isSep", desc := "(C)Z", sig := { parameters := [.char], returnType := some .boolean }, accessFlags := 10, code := some k1c2 }
def k1c3 : Code := { maxStack := 3, maxLocals := 3, code := method_4_code, exceptionTable := #[], attributes := #[] }
def k1m3 : Method := { name := "firstKeep", desc := "([CII)I", sig := { parameters := [(.array .char), .int, .int], returnType := some .int }, accessFlags := 10, code := some k1c3 }
def k1c4 : Code := { maxStack := 3, maxLocals := 3, code := method_5_code, exceptionTable := #[], attributes := #[] }
def k1m4 : Method := { name := "lastKeep", desc := "([CII)I", sig := { parameters := [(.array .char), .int, .int], returnType := some .int }, accessFlags := 10, code := some k1c4 }
def k1c5 : Code := { maxStack := 4, maxLocals := 5, code := method_6_code, exceptionTable := #[], attributes := #[] }
def k1m5 : Method := { name := "eqSeg", desc := "(Ljava/lang/String;[CII)Z", sig := { parameters := [(.object "java/lang/String"), (.array .char), .int, .int], returnType := some .boolean }, accessFlags := 10, code := some k1c5 }
def k1c6 : Code := { maxStack := 4, maxLocals := 7, code := method_7_code, exceptionTable := #[], attributes := #[] }
def k1m6 : Method := { name := "step", desc := "(Ljava/util/List;[CII[I)V", sig := { parameters := [(.object "java/util/List"), (.array .char), .int, .int, (.array .int)], returnType := none }, accessFlags := 10, code := some k1c6 }
def k1c7 : Code := { maxStack := 7, maxLocals := 10, code := code, exceptionTable := #[], attributes := #[] }
def k1m7 : Method := { name := "law", desc := "(IIIII)Z", sig := { parameters := [.int, .int, .int, .int, .int], returnType := some .boolean }, accessFlags := 9, code := some k1c7 }
def k1 : Class := { plain "com/example/engarce/engarce/NameListSplitPinLaw" (some 0) with
  accessFlags := 49
  interfaces := #[]
  cf := some (fileOf pool1 18 #[] #[{ accessFlags := 2, nameIndex := 5, descriptorIndex := 6, attributes := #[] }, { accessFlags := 10, nameIndex := 46, descriptorIndex := 16, attributes := #[] }, { accessFlags := 10, nameIndex := 21, descriptorIndex := 22, attributes := #[] }, { accessFlags := 10, nameIndex := 25, descriptorIndex := 26, attributes := #[] }, { accessFlags := 10, nameIndex := 29, descriptorIndex := 26, attributes := #[] }, { accessFlags := 10, nameIndex := 41, descriptorIndex := 42, attributes := #[] }, { accessFlags := 10, nameIndex := 58, descriptorIndex := 59, attributes := #[] }, { accessFlags := 9, nameIndex := 65, descriptorIndex := 66, attributes := #[] }] 49 2 #[] #[])
  fields := #[]
  methods := #[k1m0, k1m1, k1m2, k1m3, k1m4, k1m5, k1m6, k1m7]
  instanceTypes := #[]
  staticTypes := #[]
  resolved := Array.replicate 73 none
  statics := none }

def pool2 : Array CpInfo := pool [(1, .class_ 2), (0, u "java/io/Serializable"), (0, .class_ 4), (0, u "java/lang/Object")] 2

def k2 : Class := { plain "java/io/Serializable" (some 0) with
  accessFlags := 1537
  interfaces := #[]
  cf := some (fileOf pool2 1 #[] #[] 1537 3 #[] #[])
  fields := #[]
  methods := #[]
  instanceTypes := #[]
  staticTypes := #[]
  resolved := Array.replicate 7 none
  statics := none }

def pool3 : Array CpInfo := pool [(1, .class_ 2), (0, u "java/lang/Comparable"), (0, .class_ 4), (0, u "java/lang/Object")] 7

def k3 : Class := { plain "java/lang/Comparable" (some 0) with
  accessFlags := 1537
  interfaces := #[]
  cf := some (fileOf pool3 1 #[] #[] 1537 3 #[] #[])
  fields := #[]
  methods := #[]
  instanceTypes := #[]
  staticTypes := #[]
  resolved := Array.replicate 12 none
  statics := none }

def pool4 : Array CpInfo := pool [(2, .class_ 4), (1, u "java/lang/CharSequence"), (42, .class_ 48), (0, u "java/lang/CharSequence$1CodePointIterator"), (10, .class_ 60), (0, u "java/lang/CharSequence$1CharIterator"), (5, .class_ 67), (0, u "java/lang/Object")] 63

def k4 : Class := { plain "java/lang/CharSequence" (some 0) with
  accessFlags := 1537
  interfaces := #[]
  cf := some (fileOf pool4 2 #[.nestMembers #[47, 59]] #[] 1537 66 #[] #[])
  fields := #[]
  methods := #[]
  instanceTypes := #[]
  staticTypes := #[]
  resolved := Array.replicate 131 none
  statics := none }

def pool5 : Array CpInfo := pool [(1, .class_ 2), (0, u "java/lang/constant/Constable"), (0, .class_ 4), (0, u "java/lang/Object")] 6

def k5 : Class := { plain "java/lang/constant/Constable" (some 0) with
  accessFlags := 1537
  interfaces := #[]
  cf := some (fileOf pool5 1 #[] #[] 1537 3 #[] #[])
  fields := #[]
  methods := #[]
  instanceTypes := #[]
  staticTypes := #[]
  resolved := Array.replicate 11 none
  statics := none }

def pool6 : Array CpInfo := pool [(1, .class_ 2), (0, u "java/lang/constant/ConstantDesc"), (0, .class_ 4), (0, u "java/lang/Object")] 32

def k6 : Class := { plain "java/lang/constant/ConstantDesc" (some 0) with
  accessFlags := 1537
  interfaces := #[]
  cf := some (fileOf pool6 1 #[] #[] 1537 3 #[] #[])
  fields := #[]
  methods := #[]
  instanceTypes := #[]
  staticTypes := #[]
  resolved := Array.replicate 37 none
  statics := none }

def pool7 : Array CpInfo := pool [(1, .methodref 2 3), (0, .class_ 4), (0, .nameAndType 5 6), (0, u "java/lang/Object"), (0, u "<init>"), (0, u "()V"), (0, .string 8), (0, u ""), (0, .fieldref 10 11), (0, .class_ 12), (0, .nameAndType 13 14), (0, u "java/lang/String"), (0, u "value"), (0, u "[B"), (0, .fieldref 10 16), (0, .nameAndType 17 18), (0, u "coder"), (0, u "B"), (2, u "hash"), (0, u "I"), (2, u "hashIsZero"), (0, u "Z"), (0, .methodref 10 28), (0, .nameAndType 5 29), (0, u "([CIILjava/lang/Void;)V"), (6, u "checkBoundsOffCount"), (0, u "(III)I"), (0, .fieldref 10 39), (0, .nameAndType 40 26), (0, u "COMPACT_STRINGS"), (1, .class_ 44), (1, u "java/lang/StringUTF16"), (0, u "compress"), (1, .methodref 42 48), (0, .nameAndType 49 50), (0, u "coderFromArrayLen"), (0, u "([BI)B"), (56, .class_ 109), (1, u "java/lang/StringLatin1"), (32, u "()Z"), (34, .methodref 42 178), (0, .nameAndType 45 179), (0, u "([CII)[B"), (31, u "([BB)V"), (122, u "()I"), (0, .methodref 10 336), (0, .nameAndType 17 337), (0, u "()B"), (25, u "([BI)C"), (27, u "(II)V"), (35, u "(I)C"), (36, u "()Ljava/lang/String;"), (27, .methodref 10 493), (0, .nameAndType 494 142), (0, u "isLatin1"), (0, .methodref 107 496), (0, .nameAndType 497 363), (0, u "charAt"), (0, .methodref 42 496), (2, u "checkIndex"), (3, .methodref 10 506), (0, .nameAndType 507 334), (0, u "length"), (5, u "checkFromToIndex"), (7, .methodref 10 522), (0, .nameAndType 523 524), (0, u "checkBoundsBeginEnd"), (0, u "(III)V"), (50, .class_ 576), (0, u "java/lang/CharSequence"), (22, u "CASE_INSENSITIVE_ORDER"), (0, u "Ljava/util/Comparator;"), (82, u "substring"), (0, u "(II)Ljava/lang/String;"), (0, .methodref 107 686), (0, .nameAndType 687 688), (0, u "newString"), (0, u "([BII)Ljava/lang/String;"), (0, .methodref 42 686), (2, u "isEmpty"), (166, .methodref 107 860), (0, .nameAndType 861 862), (0, u "trim"), (0, u "([B)Ljava/lang/String;"), (0, .methodref 42 860), (146, u "([C)V"), (42, .fieldref 1054 1055), (0, .class_ 1056), (0, .nameAndType 1057 1058), (0, u "jdk/internal/util/Preconditions"), (0, u "SIOOBE_FORMATTER"), (0, u "Ljava/util/function/BiFunction;"), (0, .methodref 1054 1060), (0, .nameAndType 501 1061), (0, u "(IILjava/util/function/BiFunction;)I"), (0, .methodref 1054 1063), (0, .nameAndType 513 1064), (0, u "(IIILjava/util/function/BiFunction;)I"), (0, .methodref 1054 1066), (0, .nameAndType 1067 1064), (0, u "checkFromIndexSize"), (33, u "serialPersistentFields"), (0, u "[Ljava/io/ObjectStreamField;"), (0, .class_ 1104), (0, u "java/lang/String$CaseInsensitiveComparator"), (1, .class_ 1107), (0, u "java/io/Serializable"), (0, .class_ 1109), (0, u "java/lang/Comparable"), (0, .class_ 1111), (0, u "java/lang/constant/Constable"), (0, .class_ 1113), (0, u "java/lang/constant/ConstantDesc"), (2, u "serialVersionUID"), (0, u "J"), (3, u "REPL"), (0, u "C"), (2, u "LATIN1"), (1, u "UTF16")] 323

def k7m0 : Method := { name := "<init>", desc := "()V", sig := { parameters := [], returnType := none }, accessFlags := 1, code := none }
def k7c1 : Code := { maxStack := 5, maxLocals := 2, code := jdk_42_method_3_code, exceptionTable := #[], attributes := #[] }
def k7m1 : Method := { name := "<init>", desc := "([C)V", sig := { parameters := [(.array .char)], returnType := none }, accessFlags := 1, code := some k7c1 }
def k7c2 : Code := { maxStack := 2, maxLocals := 1, code := jdk_42_method_54_code, exceptionTable := #[], attributes := #[] }
def k7m2 : Method := { name := "length", desc := "()I", sig := { parameters := [], returnType := some .int }, accessFlags := 1, code := some k7c2 }
def k7c3 : Code := { maxStack := 1, maxLocals := 1, code := jdk_42_method_55_code, exceptionTable := #[], attributes := #[] }
def k7m3 : Method := { name := "isEmpty", desc := "()Z", sig := { parameters := [], returnType := some .boolean }, accessFlags := 1, code := some k7c3 }
def k7c4 : Code := { maxStack := 2, maxLocals := 2, code := jdk_42_method_56_code, exceptionTable := #[], attributes := #[] }
def k7m4 : Method := { name := "charAt", desc := "(I)C", sig := { parameters := [.int], returnType := some .char }, accessFlags := 1, code := some k7c4 }
def k7c5 : Code := { maxStack := 3, maxLocals := 5, code := jdk_42_method_92_code, exceptionTable := #[], attributes := #[] }
def k7m5 : Method := { name := "substring", desc := "(II)Ljava/lang/String;", sig := { parameters := [.int, .int], returnType := some (.object "java/lang/String") }, accessFlags := 1, code := some k7c5 }
def k7c6 : Code := { maxStack := 1, maxLocals := 2, code := jdk_42_method_113_code, exceptionTable := #[], attributes := #[] }
def k7m6 : Method := { name := "trim", desc := "()Ljava/lang/String;", sig := { parameters := [], returnType := some (.object "java/lang/String") }, accessFlags := 1, code := some k7c6 }
def k7c7 : Code := { maxStack := 4, maxLocals := 6, code := jdk_42_method_149_code, exceptionTable := #[], attributes := #[] }
def k7m7 : Method := { name := "<init>", desc := "([CIILjava/lang/Void;)V", sig := { parameters := [(.array .char), .int, .int, (.object "java/lang/Void")], returnType := none }, accessFlags := 2, code := some k7c7 }
def k7c8 : Code := { maxStack := 2, maxLocals := 3, code := jdk_42_method_151_code, exceptionTable := #[], attributes := #[] }
def k7m8 : Method := { name := "<init>", desc := "([BB)V", sig := { parameters := [(.array .byte), .byte], returnType := none }, accessFlags := 0, code := some k7c8 }
def k7c9 : Code := { maxStack := 1, maxLocals := 1, code := jdk_42_method_152_code, exceptionTable := #[], attributes := #[] }
def k7m9 : Method := { name := "coder", desc := "()B", sig := { parameters := [], returnType := some .byte }, accessFlags := 0, code := some k7c9 }
def k7c10 : Code := { maxStack := 1, maxLocals := 1, code := jdk_42_method_154_code, exceptionTable := #[], attributes := #[] }
def k7m10 : Method := { name := "isLatin1", desc := "()Z", sig := { parameters := [], returnType := some .boolean }, accessFlags := 0, code := some k7c10 }
def k7c11 : Code := { maxStack := 3, maxLocals := 2, code := jdk_42_method_155_code, exceptionTable := #[], attributes := #[] }
def k7m11 : Method := { name := "checkIndex", desc := "(II)V", sig := { parameters := [.int, .int], returnType := none }, accessFlags := 8, code := some k7c11 }
def k7c12 : Code := { maxStack := 4, maxLocals := 3, code := jdk_42_method_157_code, exceptionTable := #[], attributes := #[] }
def k7m12 : Method := { name := "checkBoundsOffCount", desc := "(III)I", sig := { parameters := [.int, .int, .int], returnType := some .int }, accessFlags := 8, code := some k7c12 }
def k7c13 : Code := { maxStack := 4, maxLocals := 3, code := jdk_42_method_158_code, exceptionTable := #[], attributes := #[] }
def k7m13 : Method := { name := "checkBoundsBeginEnd", desc := "(III)V", sig := { parameters := [.int, .int, .int], returnType := none }, accessFlags := 8, code := some k7c13 }
def k7 : Class := { plain "java/lang/String" (some 0) with
  accessFlags := 49
  interfaces := #[2, 3, 4, 5, 6]
  cf := some (fileOf pool7 10 #[.nestMembers #[1103]] #[{ accessFlags := 1, nameIndex := 5, descriptorIndex := 6, attributes := #[] }, { accessFlags := 1, nameIndex := 5, descriptorIndex := 1010, attributes := #[] }, { accessFlags := 1, nameIndex := 507, descriptorIndex := 334, attributes := #[] }, { accessFlags := 1, nameIndex := 692, descriptorIndex := 142, attributes := #[] }, { accessFlags := 1, nameIndex := 497, descriptorIndex := 427, attributes := #[] }, { accessFlags := 1, nameIndex := 683, descriptorIndex := 684, attributes := #[] }, { accessFlags := 1, nameIndex := 861, descriptorIndex := 464, attributes := #[] }, { accessFlags := 2, nameIndex := 5, descriptorIndex := 29, attributes := #[] }, { accessFlags := 0, nameIndex := 5, descriptorIndex := 211, attributes := #[] }, { accessFlags := 0, nameIndex := 17, descriptorIndex := 337, attributes := #[] }, { accessFlags := 0, nameIndex := 494, descriptorIndex := 142, attributes := #[] }, { accessFlags := 8, nameIndex := 501, descriptorIndex := 391, attributes := #[] }, { accessFlags := 8, nameIndex := 36, descriptorIndex := 37, attributes := #[] }, { accessFlags := 8, nameIndex := 523, descriptorIndex := 524, attributes := #[] }] 49 2 #[1106, 1108, 575, 1110, 1112] #[{ accessFlags := 18, nameIndex := 13, descriptorIndex := 14, attributes := #[] }, { accessFlags := 18, nameIndex := 17, descriptorIndex := 18, attributes := #[] }, { accessFlags := 2, nameIndex := 21, descriptorIndex := 22, attributes := #[] }, { accessFlags := 2, nameIndex := 25, descriptorIndex := 26, attributes := #[] }, { accessFlags := 26, nameIndex := 1116, descriptorIndex := 1117, attributes := #[] }, { accessFlags := 24, nameIndex := 40, descriptorIndex := 26, attributes := #[] }, { accessFlags := 26, nameIndex := 1101, descriptorIndex := 1102, attributes := #[] }, { accessFlags := 26, nameIndex := 1121, descriptorIndex := 1122, attributes := #[] }, { accessFlags := 25, nameIndex := 599, descriptorIndex := 600, attributes := #[] }, { accessFlags := 24, nameIndex := 1125, descriptorIndex := 18, attributes := #[] }, { accessFlags := 24, nameIndex := 1127, descriptorIndex := 18, attributes := #[] }])
  fields := #[{ name := "value", type := (.array .byte), accessFlags := 18, slot := 0, constantValue := 0 }, { name := "coder", type := .byte, accessFlags := 18, slot := 1, constantValue := 0 }, { name := "hash", type := .int, accessFlags := 2, slot := 2, constantValue := 0 }, { name := "hashIsZero", type := .boolean, accessFlags := 2, slot := 3, constantValue := 0 }, { name := "serialVersionUID", type := .long, accessFlags := 26, slot := 0, constantValue := 0 }, { name := "COMPACT_STRINGS", type := .boolean, accessFlags := 24, slot := 1, constantValue := 0 }, { name := "serialPersistentFields", type := (.array (.object "java/io/ObjectStreamField")), accessFlags := 26, slot := 2, constantValue := 0 }, { name := "REPL", type := .char, accessFlags := 26, slot := 3, constantValue := 0 }, { name := "CASE_INSENSITIVE_ORDER", type := (.object "java/util/Comparator"), accessFlags := 25, slot := 4, constantValue := 0 }, { name := "LATIN1", type := .byte, accessFlags := 24, slot := 5, constantValue := 0 }, { name := "UTF16", type := .byte, accessFlags := 24, slot := 6, constantValue := 0 }]
  methods := #[k7m0, k7m1, k7m2, k7m3, k7m4, k7m5, k7m6, k7m7, k7m8, k7m9, k7m10, k7m11, k7m12, k7m13]
  instanceTypes := #[(.array .byte), .byte, .int, .boolean]
  staticTypes := #[.long, .boolean, (.array (.object "java/io/ObjectStreamField")), .char, (.object "java/util/Comparator"), .byte, .byte]
  resolved := Array.replicate 1451 none
  statics := some 0 }

def pool8 : Array CpInfo := pool [(2, .class_ 4), (0, .nameAndType 5 6), (0, u "java/lang/Object"), (0, u "<init>"), (0, u "()V"), (0, .methodref 8 9), (0, .class_ 10), (0, .nameAndType 11 12), (0, u "java/lang/String"), (0, u "isEmpty"), (0, u "()Z"), (0, .interfaceMethodref 14 15), (0, .class_ 16), (0, .nameAndType 17 18), (0, u "java/util/List"), (0, u "of"), (0, u "()Ljava/util/List;"), (0, .methodref 20 21), (0, .class_ 22), (0, .nameAndType 23 24), (0, u "com/example/engarce/engarce/NameList"), (0, u "names"), (0, u "(Ljava/lang/String;)Ljava/util/List;"), (0, .class_ 26), (0, u "java/util/ArrayList"), (0, .methodref 25 3), (0, .methodref 8 29), (0, .nameAndType 30 31), (0, u "length"), (0, u "()I"), (0, .methodref 8 33), (0, .nameAndType 34 35), (0, u "charAt"), (0, u "(I)C"), (0, .methodref 20 37), (0, .nameAndType 38 39), (0, u "isSeparator"), (0, u "(C)Z"), (0, .methodref 8 41), (0, .nameAndType 42 43), (0, u "substring"), (0, u "(II)Ljava/lang/String;"), (0, .methodref 8 45), (0, .nameAndType 46 47), (0, u "trim"), (0, u "()Ljava/lang/String;"), (0, .interfaceMethodref 14 49), (0, .nameAndType 50 51), (0, u "add"), (0, u "(Ljava/lang/Object;)Z"), (0, .interfaceMethodref 14 53), (0, .nameAndType 54 55), (0, u "copyOf"), (0, u "(Ljava/util/Collection;)Ljava/util/List;"), (2, u "split")] 5

def k8m0 : Method := { name := "<init>", desc := "()V", sig := { parameters := [], returnType := none }, accessFlags := 2, code := none }
def k8c1 : Code := { maxStack := 1, maxLocals := 1, code := prog_12_method_2_code, exceptionTable := #[], attributes := #[] }
def k8m1 : Method := { name := "split", desc := "(Ljava/lang/String;)Ljava/util/List;", sig := { parameters := [(.object "java/lang/String")], returnType := some (.object "java/util/List") }, accessFlags := 8, code := some k8c1 }
def k8c2 : Code := { maxStack := 3, maxLocals := 5, code := prog_12_method_3_code, exceptionTable := #[], attributes := #[] }
def k8m2 : Method := { name := "names", desc := "(Ljava/lang/String;)Ljava/util/List;", sig := { parameters := [(.object "java/lang/String")], returnType := some (.object "java/util/List") }, accessFlags := 10, code := some k8c2 }
def k8c3 : Code := { maxStack := 2, maxLocals := 1, code := prog_12_method_4_code, exceptionTable := #[], attributes := #[] }
def k8m3 : Method := { name := "isSeparator", desc := "(C)Z", sig := { parameters := [.char], returnType := some .boolean }, accessFlags := 10, code := some k8c3 }
def k8 : Class := { plain "com/example/engarce/engarce/NameList" (some 0) with
  accessFlags := 48
  interfaces := #[]
  cf := some (fileOf pool8 20 #[] #[{ accessFlags := 2, nameIndex := 5, descriptorIndex := 6, attributes := #[] }, { accessFlags := 8, nameIndex := 58, descriptorIndex := 24, attributes := #[] }, { accessFlags := 10, nameIndex := 23, descriptorIndex := 24, attributes := #[] }, { accessFlags := 10, nameIndex := 38, descriptorIndex := 39, attributes := #[] }] 48 2 #[] #[])
  fields := #[]
  methods := #[k8m0, k8m1, k8m2, k8m3]
  instanceTypes := #[]
  staticTypes := #[]
  resolved := Array.replicate 64 none
  statics := none }

def pool9 : Array CpInfo := pool [(8, .class_ 10), (1, u "java/lang/Iterable"), (24, .class_ 36), (0, u "java/lang/Object")] 25

def k9 : Class := { plain "java/lang/Iterable" (some 0) with
  accessFlags := 1537
  interfaces := #[]
  cf := some (fileOf pool9 8 #[] #[] 1537 35 #[] #[])
  fields := #[]
  methods := #[]
  instanceTypes := #[]
  staticTypes := #[]
  resolved := Array.replicate 62 none
  statics := none }

def pool10 : Array CpInfo := pool [(10, .class_ 12), (1, u "java/util/Collection"), (0, u "toArray"), (16, u "()Z"), (29, .class_ 61), (0, u "java/lang/Object"), (0, .class_ 63), (0, u "java/lang/Iterable"), (2, u "isEmpty"), (3, u "()[Ljava/lang/Object;")] 44

def k10m0 : Method := { name := "isEmpty", desc := "()Z", sig := { parameters := [], returnType := some .boolean }, accessFlags := 1025, code := none }
def k10m1 : Method := { name := "toArray", desc := "()[Ljava/lang/Object;", sig := { parameters := [], returnType := some (.array (.object "java/lang/Object")) }, accessFlags := 1025, code := none }
def k10 : Class := { plain "java/util/Collection" (some 0) with
  accessFlags := 1537
  interfaces := #[9]
  cf := some (fileOf pool10 10 #[] #[{ accessFlags := 1025, nameIndex := 66, descriptorIndex := 30, attributes := #[] }, { accessFlags := 1025, nameIndex := 13, descriptorIndex := 70, attributes := #[] }] 1537 60 #[62] #[])
  fields := #[]
  methods := #[k10m0, k10m1]
  instanceTypes := #[]
  staticTypes := #[]
  resolved := Array.replicate 115 none
  statics := none }

def pool11 : Array CpInfo := pool [(8, .class_ 10), (1, u "java/util/SequencedCollection"), (15, .class_ 27), (0, u "java/lang/Object"), (0, .class_ 29), (0, u "java/util/Collection")] 27

def k11 : Class := { plain "java/util/SequencedCollection" (some 0) with
  accessFlags := 1537
  interfaces := #[10]
  cf := some (fileOf pool11 8 #[] #[] 1537 26 #[28] #[])
  fields := #[]
  methods := #[]
  instanceTypes := #[]
  staticTypes := #[]
  resolved := Array.replicate 57 none
  statics := none }

def pool12 : Array CpInfo := pool [(8, .class_ 10), (1, u "java/util/List"), (20, u "(Ljava/lang/Object;)V"), (16, u "<init>"), (11, u "add"), (3, u "(Ljava/lang/Object;)Z"), (10, u "get"), (0, u "(I)Ljava/lang/Object;"), (2, u "size"), (0, u "()I"), (7, u "of"), (1, .fieldref 91 92), (0, .class_ 93), (0, .nameAndType 94 95), (0, u "java/util/ImmutableCollections"), (0, u "EMPTY_LIST"), (0, u "Ljava/util/ImmutableCollections$ListN;"), (0, .class_ 97), (0, u "java/util/ImmutableCollections$List12"), (0, .methodref 96 99), (0, .nameAndType 48 31), (0, .methodref 96 101), (0, .nameAndType 48 102), (0, u "(Ljava/lang/Object;Ljava/lang/Object;)V"), (0, .class_ 104), (0, u "java/lang/Object"), (3, u "([Ljava/lang/Object;)Ljava/util/List;"), (3, .methodref 91 113), (0, .nameAndType 114 115), (0, u "listCopy"), (0, u "(Ljava/util/Collection;)Ljava/util/List;"), (3, u "()Ljava/util/List;"), (0, .class_ 121), (0, u "java/util/SequencedCollection"), (112, u "copyOf")] 16

def k12m0 : Method := { name := "size", desc := "()I", sig := { parameters := [], returnType := some .int }, accessFlags := 1025, code := none }
def k12m1 : Method := { name := "add", desc := "(Ljava/lang/Object;)Z", sig := { parameters := [(.object "java/lang/Object")], returnType := some .boolean }, accessFlags := 1025, code := none }
def k12m2 : Method := { name := "get", desc := "(I)Ljava/lang/Object;", sig := { parameters := [.int], returnType := some (.object "java/lang/Object") }, accessFlags := 1025, code := none }
def k12c3 : Code := { maxStack := 1, maxLocals := 0, code := jdk_40_method_36_code, exceptionTable := #[], attributes := #[] }
def k12m3 : Method := { name := "of", desc := "()Ljava/util/List;", sig := { parameters := [], returnType := some (.object "java/util/List") }, accessFlags := 9, code := some k12c3 }
def k12c4 : Code := { maxStack := 5, maxLocals := 2, code := jdk_40_method_47_code, exceptionTable := #[], attributes := #[] }
def k12m4 : Method := { name := "of", desc := "([Ljava/lang/Object;)Ljava/util/List;", sig := { parameters := [(.array (.object "java/lang/Object"))], returnType := some (.object "java/util/List") }, accessFlags := 137, code := some k12c4 }
def k12c5 : Code := { maxStack := 1, maxLocals := 1, code := jdk_40_method_48_code, exceptionTable := #[], attributes := #[] }
def k12m5 : Method := { name := "copyOf", desc := "(Ljava/util/Collection;)Ljava/util/List;", sig := { parameters := [(.object "java/util/Collection")], returnType := some (.object "java/util/List") }, accessFlags := 9, code := some k12c5 }
def k12 : Class := { plain "java/util/List" (some 0) with
  accessFlags := 1537
  interfaces := #[11]
  cf := some (fileOf pool12 8 #[] #[{ accessFlags := 1025, nameIndex := 79, descriptorIndex := 80, attributes := #[] }, { accessFlags := 1025, nameIndex := 60, descriptorIndex := 64, attributes := #[] }, { accessFlags := 1025, nameIndex := 75, descriptorIndex := 76, attributes := #[] }, { accessFlags := 9, nameIndex := 88, descriptorIndex := 119, attributes := #[] }, { accessFlags := 137, nameIndex := 88, descriptorIndex := 108, attributes := #[] }, { accessFlags := 9, nameIndex := 234, descriptorIndex := 115, attributes := #[] }] 1537 103 #[120] #[])
  fields := #[]
  methods := #[k12m0, k12m1, k12m2, k12m3, k12m4, k12m5]
  instanceTypes := #[]
  staticTypes := #[]
  resolved := Array.replicate 251 none
  statics := none }

def pool13 : Array CpInfo := pool [(2, .class_ 4), (1, u "java/lang/Object"), (0, u "<init>"), (0, u "()V"), (3, .class_ 11), (0, u "java/util/ImmutableCollections$List12"), (0, .class_ 13), (0, u "java/util/ImmutableCollections$ListN"), (3, u "Z"), (0, .class_ 19), (0, u "java/util/List"), (0, .interfaceMethodref 21 22), (0, .class_ 23), (0, .nameAndType 24 25), (0, u "java/util/Collection"), (0, u "isEmpty"), (0, u "()Z"), (0, .interfaceMethodref 18 27), (0, .nameAndType 28 29), (0, u "of"), (0, u "()Ljava/util/List;"), (0, .interfaceMethodref 21 31), (0, .nameAndType 32 33), (0, u "toArray"), (0, u "()[Ljava/lang/Object;"), (0, .interfaceMethodref 18 35), (0, .nameAndType 28 36), (0, u "([Ljava/lang/Object;)Ljava/util/List;"), (10, .class_ 49), (1, u "java/util/ImmutableCollections"), (0, u "$assertionsDisabled"), (5, u "[Ljava/lang/Object;"), (5, u "EMPTY_LIST"), (0, u "Ljava/util/ImmutableCollections$ListN;"), (8, u "EMPTY_LIST_NULLS"), (22, u "SALT32L"), (0, u "J"), (2, u "REVERSE"), (6, u "archivedObjects"), (2, u "EMPTY"), (0, u "Ljava/lang/Object;"), (0, .class_ 112), (0, u "java/util/ImmutableCollections$SetN"), (5, u "EMPTY_SET"), (0, u "Ljava/util/ImmutableCollections$SetN;"), (0, .class_ 121), (0, u "java/util/ImmutableCollections$MapN"), (3, u "EMPTY_MAP"), (0, u "Ljava/util/ImmutableCollections$MapN;"), (4, u "EXPAND_FACTOR"), (0, u "I"), (9, u "listCopy"), (0, u "(Ljava/util/Collection;)Ljava/util/List;"), (25, .class_ 170), (0, u "java/util/ImmutableCollections$MapN$MapNIterator"), (0, .class_ 172), (0, u "java/util/ImmutableCollections$MapN$1"), (0, .class_ 174), (0, u "java/util/ImmutableCollections$Map1"), (0, .class_ 176), (0, u "java/util/ImmutableCollections$AbstractImmutableMap"), (0, .class_ 178), (0, u "java/util/ImmutableCollections$SetN$SetNIterator"), (0, .class_ 180), (0, u "java/util/ImmutableCollections$Set12"), (0, .class_ 182), (0, u "java/util/ImmutableCollections$Set12$1"), (0, .class_ 184), (0, u "java/util/ImmutableCollections$AbstractImmutableSet"), (0, .class_ 186), (0, u "java/util/ImmutableCollections$SubList"), (0, .class_ 188), (0, u "java/util/ImmutableCollections$ListItr"), (0, .class_ 190), (0, u "java/util/ImmutableCollections$AbstractImmutableList"), (0, .class_ 192), (0, u "java/util/ImmutableCollections$AbstractImmutableCollection"), (0, .class_ 194), (0, u "java/util/ImmutableCollections$Access"), (0, .class_ 196), (0, u "java/util/ImmutableCollections$Access$1")] 16

def k13m0 : Method := { name := "<init>", desc := "()V", sig := { parameters := [], returnType := none }, accessFlags := 2, code := none }
def k13c1 : Code := { maxStack := 1, maxLocals := 2, code := jdk_56_method_3_code, exceptionTable := #[], attributes := #[] }
def k13m1 : Method := { name := "listCopy", desc := "(Ljava/util/Collection;)Ljava/util/List;", sig := { parameters := [(.object "java/util/Collection")], returnType := some (.object "java/util/List") }, accessFlags := 8, code := some k13c1 }
def k13 : Class := { plain "java/util/ImmutableCollections" (some 0) with
  accessFlags := 32
  interfaces := #[]
  cf := some (fileOf pool13 47 #[.nestMembers #[120, 169, 171, 173, 175, 111, 177, 179, 181, 183, 12, 10, 185, 187, 189, 191, 193, 195]] #[{ accessFlags := 2, nameIndex := 5, descriptorIndex := 6, attributes := #[] }, { accessFlags := 8, nameIndex := 142, descriptorIndex := 143, attributes := #[] }] 32 2 #[] #[{ accessFlags := 26, nameIndex := 95, descriptorIndex := 96, attributes := #[] }, { accessFlags := 26, nameIndex := 99, descriptorIndex := 17, attributes := #[] }, { accessFlags := 10, nameIndex := 106, descriptorIndex := 56, attributes := #[] }, { accessFlags := 26, nameIndex := 109, descriptorIndex := 110, attributes := #[] }, { accessFlags := 24, nameIndex := 62, descriptorIndex := 63, attributes := #[] }, { accessFlags := 24, nameIndex := 72, descriptorIndex := 63, attributes := #[] }, { accessFlags := 24, nameIndex := 118, descriptorIndex := 119, attributes := #[] }, { accessFlags := 24, nameIndex := 125, descriptorIndex := 126, attributes := #[] }, { accessFlags := 24, nameIndex := 131, descriptorIndex := 132, attributes := #[] }, { accessFlags := 4120, nameIndex := 50, descriptorIndex := 17, attributes := #[] }])
  fields := #[{ name := "SALT32L", type := .long, accessFlags := 26, slot := 0, constantValue := 0 }, { name := "REVERSE", type := .boolean, accessFlags := 26, slot := 1, constantValue := 0 }, { name := "archivedObjects", type := (.array (.object "java/lang/Object")), accessFlags := 10, slot := 2, constantValue := 0 }, { name := "EMPTY", type := (.object "java/lang/Object"), accessFlags := 26, slot := 3, constantValue := 0 }, { name := "EMPTY_LIST", type := (.object "java/util/ImmutableCollections$ListN"), accessFlags := 24, slot := 4, constantValue := 0 }, { name := "EMPTY_LIST_NULLS", type := (.object "java/util/ImmutableCollections$ListN"), accessFlags := 24, slot := 5, constantValue := 0 }, { name := "EMPTY_SET", type := (.object "java/util/ImmutableCollections$SetN"), accessFlags := 24, slot := 6, constantValue := 0 }, { name := "EMPTY_MAP", type := (.object "java/util/ImmutableCollections$MapN"), accessFlags := 24, slot := 7, constantValue := 0 }, { name := "EXPAND_FACTOR", type := .int, accessFlags := 24, slot := 8, constantValue := 0 }, { name := "$assertionsDisabled", type := .boolean, accessFlags := 4120, slot := 9, constantValue := 0 }]
  methods := #[k13m0, k13m1]
  instanceTypes := #[]
  staticTypes := #[.long, .boolean, (.array (.object "java/lang/Object")), (.object "java/lang/Object"), (.object "java/util/ImmutableCollections$ListN"), (.object "java/util/ImmutableCollections$ListN"), (.object "java/util/ImmutableCollections$SetN"), (.object "java/util/ImmutableCollections$MapN"), .int, .boolean]
  resolved := Array.replicate 213 none
  statics := some 1 }

def pool14 : Array CpInfo := pool [(1, .methodref 2 3), (0, .class_ 4), (0, .nameAndType 5 6), (0, u "java/lang/Object"), (0, u "<init>"), (0, u "()V"), (1, .class_ 10), (1, u "java/util/AbstractCollection"), (66, .class_ 78), (0, u "java/util/Collection")] 81

def k14c0 : Code := { maxStack := 1, maxLocals := 1, code := jdk_22_method_1_code, exceptionTable := #[], attributes := #[] }
def k14m0 : Method := { name := "<init>", desc := "()V", sig := { parameters := [], returnType := none }, accessFlags := 4, code := some k14c0 }
def k14 : Class := { plain "java/util/AbstractCollection" (some 0) with
  accessFlags := 1057
  interfaces := #[10]
  cf := some (fileOf pool14 8 #[] #[{ accessFlags := 4, nameIndex := 5, descriptorIndex := 6, attributes := #[] }] 1057 2 #[77] #[])
  fields := #[]
  methods := #[k14m0]
  instanceTypes := #[]
  staticTypes := #[]
  resolved := Array.replicate 160 none
  statics := none }

def pool15 : Array CpInfo := pool [(1, .methodref 2 3), (0, .class_ 4), (0, .nameAndType 5 6), (0, u "java/util/AbstractCollection"), (0, u "<init>"), (0, u "()V"), (1, .class_ 10), (1, u "java/util/ImmutableCollections"), (2, .class_ 14), (0, u "java/util/ImmutableCollections$AbstractImmutableCollection")] 41

def k15c0 : Code := { maxStack := 1, maxLocals := 1, code := jdk_47_method_1_code, exceptionTable := #[], attributes := #[] }
def k15m0 : Method := { name := "<init>", desc := "()V", sig := { parameters := [], returnType := none }, accessFlags := 0, code := some k15c0 }
def k15 : Class := { plain "java/util/ImmutableCollections$AbstractImmutableCollection" (some 14) with
  accessFlags := 1056
  interfaces := #[]
  cf := some (fileOf pool15 13 #[.nestHost 8] #[{ accessFlags := 0, nameIndex := 5, descriptorIndex := 6, attributes := #[] }] 1056 2 #[] #[])
  fields := #[]
  methods := #[k15m0]
  instanceTypes := #[]
  staticTypes := #[]
  resolved := Array.replicate 56 none
  statics := none }

def pool16 : Array CpInfo := pool [(1, .class_ 2), (0, u "java/util/RandomAccess"), (0, .class_ 4), (0, u "java/lang/Object")] 2

def k16 : Class := { plain "java/util/RandomAccess" (some 0) with
  accessFlags := 1537
  interfaces := #[]
  cf := some (fileOf pool16 1 #[] #[] 1537 3 #[] #[])
  fields := #[]
  methods := #[]
  instanceTypes := #[]
  staticTypes := #[]
  resolved := Array.replicate 7 none
  statics := none }

def pool17 : Array CpInfo := pool [(1, .methodref 2 3), (0, .class_ 4), (0, .nameAndType 5 6), (0, u "java/util/ImmutableCollections$AbstractImmutableCollection"), (0, u "<init>"), (0, u "()V"), (1, .class_ 10), (1, u "java/util/ImmutableCollections"), (3, .class_ 16), (1, u "java/util/ImmutableCollections$AbstractImmutableList"), (60, .class_ 78), (0, u "java/util/List"), (45, .class_ 125), (0, u "java/util/RandomAccess")] 70

def k17c0 : Code := { maxStack := 1, maxLocals := 1, code := jdk_46_method_1_code, exceptionTable := #[], attributes := #[] }
def k17m0 : Method := { name := "<init>", desc := "()V", sig := { parameters := [], returnType := none }, accessFlags := 0, code := some k17c0 }
def k17 : Class := { plain "java/util/ImmutableCollections$AbstractImmutableList" (some 15) with
  accessFlags := 1056
  interfaces := #[12, 16]
  cf := some (fileOf pool17 14 #[.nestHost 8] #[{ accessFlags := 0, nameIndex := 5, descriptorIndex := 6, attributes := #[] }] 1056 2 #[77, 124] #[])
  fields := #[]
  methods := #[k17m0]
  instanceTypes := #[]
  staticTypes := #[]
  resolved := Array.replicate 196 none
  statics := none }

def pool18 : Array CpInfo := pool [(2, .class_ 4), (1, u "java/util/ImmutableCollections$AbstractImmutableList"), (2, .fieldref 8 9), (0, .class_ 10), (0, .nameAndType 11 12), (0, u "java/util/ImmutableCollections$ListN"), (0, u "elements"), (0, u "[Ljava/lang/Object;"), (2, u "allowNulls"), (0, u "Z"), (42, .class_ 60), (0, u "java/io/Serializable"), (16, u "size"), (0, u "()I"), (35, .class_ 115), (0, u "java/util/ImmutableCollections")] 3

def k18c0 : Code := { maxStack := 1, maxLocals := 1, code := jdk_45_method_3_code, exceptionTable := #[], attributes := #[] }
def k18m0 : Method := { name := "size", desc := "()I", sig := { parameters := [], returnType := some .int }, accessFlags := 1, code := some k18c0 }
def k18 : Class := { plain "java/util/ImmutableCollections$ListN" (some 17) with
  accessFlags := 48
  interfaces := #[2]
  cf := some (fileOf pool18 8 #[.nestHost 114] #[{ accessFlags := 1, nameIndex := 77, descriptorIndex := 78, attributes := #[] }] 48 2 #[59] #[{ accessFlags := 18, nameIndex := 11, descriptorIndex := 12, attributes := #[] }, { accessFlags := 18, nameIndex := 15, descriptorIndex := 16, attributes := #[] }])
  fields := #[{ name := "elements", type := (.array (.object "java/lang/Object")), accessFlags := 18, slot := 0, constantValue := 0 }, { name := "allowNulls", type := .boolean, accessFlags := 18, slot := 1, constantValue := 0 }]
  methods := #[k18m0]
  instanceTypes := #[(.array (.object "java/lang/Object")), .boolean]
  staticTypes := #[]
  resolved := Array.replicate 119 none
  statics := none }

def pool19 : Array CpInfo := pool [(3, .class_ 4), (0, u "java/lang/String"), (1, .class_ 8), (1, u "java/lang/Object"), (0, u "<init>"), (0, u "()V"), (0, .methodref 12 13), (0, .class_ 14), (0, .nameAndType 15 16), (0, u "java/lang/StringUTF16"), (0, u "newBytesLength"), (0, u "(I)I"), (3, .integer 1073741823), (23, .fieldref 12 45), (0, .nameAndType 46 47), (0, u "$assertionsDisabled"), (0, u "Z"), (0, .methodref 12 49), (0, .nameAndType 50 51), (0, u "length"), (0, u "([B)I"), (7, .fieldref 12 60), (0, .nameAndType 61 62), (0, u "HI_BYTE_SHIFT"), (0, u "I"), (0, .fieldref 12 64), (0, .nameAndType 65 62), (0, u "LO_BYTE_SHIFT"), (1, .methodref 12 68), (0, .nameAndType 69 70), (0, u "checkIndex"), (0, u "(I[B)V"), (0, .methodref 12 72), (0, .nameAndType 73 74), (0, u "getChar"), (0, u "([BI)C"), (24, u "(II[B)V"), (7, .methodref 12 108), (0, .nameAndType 109 110), (0, u "newBytesFor"), (0, u "(I)[B"), (0, .methodref 12 112), (0, .nameAndType 113 114), (0, u "putChar"), (0, u "([BII)V"), (0, .methodref 12 116), (0, .nameAndType 117 118), (0, u "compress"), (0, u "([CI[BII)I"), (0, .methodref 12 120), (0, .nameAndType 121 122), (0, u "toBytes"), (0, u "([CII)[B"), (0, .methodref 12 124), (0, .nameAndType 117 125), (0, u "([BI[BII)I"), (0, .methodref 127 128), (0, .class_ 129), (0, .nameAndType 130 131), (0, u "java/util/Arrays"), (0, u "copyOfRange"), (0, u "([BII)[B"), (41, .methodref 12 174), (0, .nameAndType 175 99), (0, u "checkBoundsOffCount"), (75, .fieldref 3 252), (0, .nameAndType 253 47), (0, u "COMPACT_STRINGS"), (3, .methodref 12 258), (0, .nameAndType 117 131), (0, .methodref 12 260), (0, .nameAndType 261 262), (0, u "coderFromArrayLen"), (0, u "([BI)B"), (0, .methodref 3 264), (0, .nameAndType 9 265), (0, u "([BB)V"), (15, u "(III)I"), (13, .string 296), (0, u ""), (30, u "newString"), (0, u "([BII)Ljava/lang/String;"), (40, .class_ 371), (1, u "java/lang/StringUTF16$LinesSpliterator"), (20, u "charAt"), (21, .methodref 3 415), (0, .nameAndType 69 416), (0, u "(II)V"), (2, .methodref 3 420), (0, .nameAndType 175 281), (9, u "MAX_LENGTH"), (139, u "trim"), (0, u "([B)Ljava/lang/String;"), (55, .class_ 628), (0, u "java/lang/StringUTF16$CodePointsSpliterator"), (0, .class_ 630), (0, u "java/lang/StringUTF16$CharsSpliterator")] 4

def k19m0 : Method := { name := "<init>", desc := "()V", sig := { parameters := [], returnType := none }, accessFlags := 0, code := none }
def k19c1 : Code := { maxStack := 1, maxLocals := 1, code := jdk_52_method_2_code, exceptionTable := #[], attributes := #[] }
def k19m1 : Method := { name := "newBytesFor", desc := "(I)[B", sig := { parameters := [.int], returnType := some (.array .byte) }, accessFlags := 9, code := some k19c1 }
def k19c2 : Code := { maxStack := 4, maxLocals := 1, code := jdk_52_method_3_code, exceptionTable := #[], attributes := #[] }
def k19m2 : Method := { name := "newBytesLength", desc := "(I)I", sig := { parameters := [.int], returnType := some .int }, accessFlags := 9, code := some k19c2 }
def k19c3 : Code := { maxStack := 4, maxLocals := 3, code := jdk_52_method_4_code, exceptionTable := #[], attributes := #[] }
def k19m3 : Method := { name := "putChar", desc := "([BII)V", sig := { parameters := [(.array .byte), .int, .int], returnType := none }, accessFlags := 8, code := some k19c3 }
def k19c4 : Code := { maxStack := 3, maxLocals := 2, code := jdk_52_method_5_code, exceptionTable := #[], attributes := #[] }
def k19m4 : Method := { name := "getChar", desc := "([BI)C", sig := { parameters := [(.array .byte), .int], returnType := some .char }, accessFlags := 8, code := some k19c4 }
def k19c5 : Code := { maxStack := 2, maxLocals := 1, code := jdk_52_method_6_code, exceptionTable := #[], attributes := #[] }
def k19m5 : Method := { name := "length", desc := "([B)I", sig := { parameters := [(.array .byte)], returnType := some .int }, accessFlags := 9, code := some k19c5 }
def k19c6 : Code := { maxStack := 4, maxLocals := 5, code := jdk_52_method_14_code, exceptionTable := #[], attributes := #[] }
def k19m6 : Method := { name := "toBytes", desc := "([CII)[B", sig := { parameters := [(.array .char), .int, .int], returnType := some (.array .byte) }, accessFlags := 9, code := some k19c6 }
def k19c7 : Code := { maxStack := 2, maxLocals := 2, code := jdk_52_method_15_code, exceptionTable := #[], attributes := #[] }
def k19m7 : Method := { name := "coderFromArrayLen", desc := "([BI)B", sig := { parameters := [(.array .byte), .int], returnType := some .byte }, accessFlags := 8, code := some k19c7 }
def k19c8 : Code := { maxStack := 5, maxLocals := 6, code := jdk_52_method_16_code, exceptionTable := #[], attributes := #[] }
def k19m8 : Method := { name := "compress", desc := "([CII)[B", sig := { parameters := [(.array .char), .int, .int], returnType := some (.array .byte) }, accessFlags := 9, code := some k19c8 }
def k19c9 : Code := { maxStack := 5, maxLocals := 6, code := jdk_52_method_17_code, exceptionTable := #[], attributes := #[] }
def k19m9 : Method := { name := "compress", desc := "([BII)[B", sig := { parameters := [(.array .byte), .int, .int], returnType := some (.array .byte) }, accessFlags := 9, code := some k19c9 }
def k19c10 : Code := { maxStack := 3, maxLocals := 7, code := jdk_52_method_21_code, exceptionTable := #[], attributes := #[] }
def k19m10 : Method := { name := "compress", desc := "([CI[BII)I", sig := { parameters := [(.array .char), .int, (.array .byte), .int, .int], returnType := some .int }, accessFlags := 9, code := some k19c10 }
def k19c11 : Code := { maxStack := 3, maxLocals := 7, code := jdk_52_method_22_code, exceptionTable := #[], attributes := #[] }
def k19m11 : Method := { name := "compress", desc := "([BI[BII)I", sig := { parameters := [(.array .byte), .int, (.array .byte), .int, .int], returnType := some .int }, accessFlags := 9, code := some k19c11 }
def k19c12 : Code := { maxStack := 6, maxLocals := 4, code := jdk_52_method_61_code, exceptionTable := #[], attributes := #[] }
def k19m12 : Method := { name := "trim", desc := "([B)Ljava/lang/String;", sig := { parameters := [(.array .byte)], returnType := some (.object "java/lang/String") }, accessFlags := 9, code := some k19c12 }
def k19c13 : Code := { maxStack := 6, maxLocals := 5, code := jdk_52_method_69_code, exceptionTable := #[], attributes := #[] }
def k19m13 : Method := { name := "newString", desc := "([BII)Ljava/lang/String;", sig := { parameters := [(.array .byte), .int, .int], returnType := some (.object "java/lang/String") }, accessFlags := 9, code := some k19c13 }
def k19c14 : Code := { maxStack := 2, maxLocals := 2, code := jdk_52_method_83_code, exceptionTable := #[], attributes := #[] }
def k19m14 : Method := { name := "charAt", desc := "([BI)C", sig := { parameters := [(.array .byte), .int], returnType := some .char }, accessFlags := 9, code := some k19c14 }
def k19c15 : Code := { maxStack := 2, maxLocals := 2, code := jdk_52_method_91_code, exceptionTable := #[], attributes := #[] }
def k19m15 : Method := { name := "checkIndex", desc := "(I[B)V", sig := { parameters := [.int, (.array .byte)], returnType := none }, accessFlags := 9, code := some k19c15 }
def k19c16 : Code := { maxStack := 3, maxLocals := 3, code := jdk_52_method_94_code, exceptionTable := #[], attributes := #[] }
def k19m16 : Method := { name := "checkBoundsOffCount", desc := "(II[B)V", sig := { parameters := [.int, .int, (.array .byte)], returnType := none }, accessFlags := 9, code := some k19c16 }
def k19 : Class := { plain "java/lang/StringUTF16" (some 0) with
  accessFlags := 48
  interfaces := #[]
  cf := some (fileOf pool19 12 #[.nestMembers #[627, 629, 369]] #[{ accessFlags := 0, nameIndex := 9, descriptorIndex := 10, attributes := #[] }, { accessFlags := 9, nameIndex := 109, descriptorIndex := 110, attributes := #[] }, { accessFlags := 9, nameIndex := 15, descriptorIndex := 16, attributes := #[] }, { accessFlags := 8, nameIndex := 113, descriptorIndex := 114, attributes := #[] }, { accessFlags := 8, nameIndex := 73, descriptorIndex := 74, attributes := #[] }, { accessFlags := 9, nameIndex := 50, descriptorIndex := 51, attributes := #[] }, { accessFlags := 9, nameIndex := 121, descriptorIndex := 122, attributes := #[] }, { accessFlags := 8, nameIndex := 261, descriptorIndex := 262, attributes := #[] }, { accessFlags := 9, nameIndex := 117, descriptorIndex := 122, attributes := #[] }, { accessFlags := 9, nameIndex := 117, descriptorIndex := 131, attributes := #[] }, { accessFlags := 9, nameIndex := 117, descriptorIndex := 118, attributes := #[] }, { accessFlags := 9, nameIndex := 117, descriptorIndex := 125, attributes := #[] }, { accessFlags := 9, nameIndex := 570, descriptorIndex := 571, attributes := #[] }, { accessFlags := 9, nameIndex := 327, descriptorIndex := 328, attributes := #[] }, { accessFlags := 9, nameIndex := 392, descriptorIndex := 74, attributes := #[] }, { accessFlags := 9, nameIndex := 69, descriptorIndex := 70, attributes := #[] }, { accessFlags := 9, nameIndex := 175, descriptorIndex := 99, attributes := #[] }] 48 6 #[] #[{ accessFlags := 26, nameIndex := 61, descriptorIndex := 62, attributes := #[] }, { accessFlags := 26, nameIndex := 65, descriptorIndex := 62, attributes := #[] }, { accessFlags := 24, nameIndex := 430, descriptorIndex := 62, attributes := #[] }, { accessFlags := 4120, nameIndex := 46, descriptorIndex := 47, attributes := #[] }])
  fields := #[{ name := "HI_BYTE_SHIFT", type := .int, accessFlags := 26, slot := 0, constantValue := 0 }, { name := "LO_BYTE_SHIFT", type := .int, accessFlags := 26, slot := 1, constantValue := 0 }, { name := "MAX_LENGTH", type := .int, accessFlags := 24, slot := 2, constantValue := 0 }, { name := "$assertionsDisabled", type := .boolean, accessFlags := 4120, slot := 3, constantValue := 0 }]
  methods := #[k19m0, k19m1, k19m2, k19m3, k19m4, k19m5, k19m6, k19m7, k19m8, k19m9, k19m10, k19m11, k19m12, k19m13, k19m14, k19m15, k19m16]
  instanceTypes := #[]
  staticTypes := #[.int, .int, .int, .boolean]
  resolved := Array.replicate 635 none
  statics := some 2 }

def pool20 : Array CpInfo := pool [(1, .methodref 2 3), (0, .class_ 4), (0, .nameAndType 5 6), (0, u "java/util/AbstractCollection"), (0, u "<init>"), (0, u "()V"), (0, .fieldref 8 9), (0, .class_ 10), (0, .nameAndType 11 12), (0, u "java/util/AbstractList"), (0, u "modCount"), (0, u "I"), (64, .class_ 78), (0, u "java/util/AbstractList$Itr"), (3, .class_ 83), (0, u "java/util/AbstractList$ListItr"), (9, .class_ 94), (0, u "java/util/AbstractList$RandomAccessSubList"), (3, .class_ 99), (0, u "java/util/AbstractList$SubList"), (33, .class_ 134), (0, u "java/util/List"), (73, .class_ 209), (0, u "java/util/AbstractList$SubList$1"), (0, .class_ 211), (0, u "java/util/AbstractList$RandomAccessSpliterator")] 6

def k20c0 : Code := { maxStack := 2, maxLocals := 1, code := jdk_39_method_1_code, exceptionTable := #[], attributes := #[] }
def k20m0 : Method := { name := "<init>", desc := "()V", sig := { parameters := [], returnType := none }, accessFlags := 4, code := some k20c0 }
def k20 : Class := { plain "java/util/AbstractList" (some 14) with
  accessFlags := 1057
  interfaces := #[12]
  cf := some (fileOf pool20 8 #[.nestMembers #[93, 98, 208, 210, 82, 77]] #[{ accessFlags := 4, nameIndex := 5, descriptorIndex := 6, attributes := #[] }] 1057 2 #[133] #[{ accessFlags := 132, nameIndex := 11, descriptorIndex := 12, attributes := #[] }])
  fields := #[{ name := "modCount", type := .int, accessFlags := 132, slot := 0, constantValue := 0 }]
  methods := #[k20m0]
  instanceTypes := #[.int]
  staticTypes := #[]
  resolved := Array.replicate 218 none
  statics := none }

def pool21 : Array CpInfo := pool [(1, .class_ 2), (0, u "java/lang/Cloneable"), (0, .class_ 4), (0, u "java/lang/Object")] 2

def k21 : Class := { plain "java/lang/Cloneable" (some 0) with
  accessFlags := 1537
  interfaces := #[]
  cf := some (fileOf pool21 1 #[] #[] 1537 3 #[] #[])
  fields := #[]
  methods := #[]
  instanceTypes := #[]
  staticTypes := #[]
  resolved := Array.replicate 7 none
  statics := none }

def pool22 : Array CpInfo := pool [(1, .methodref 2 3), (0, .class_ 4), (0, .nameAndType 5 6), (0, u "java/util/AbstractList"), (0, u "<init>"), (0, u "()V"), (0, .class_ 8), (0, u "java/lang/Object"), (0, .fieldref 10 11), (0, .class_ 12), (0, .nameAndType 13 14), (0, u "java/util/ArrayList"), (0, u "elementData"), (0, u "[Ljava/lang/Object;"), (2, u "EMPTY_ELEMENTDATA"), (21, .fieldref 10 40), (0, .nameAndType 41 14), (0, u "DEFAULTCAPACITY_EMPTY_ELEMENTDATA"), (4, u "toArray"), (0, u "()[Ljava/lang/Object;"), (0, .fieldref 10 49), (0, .nameAndType 50 51), (0, u "size"), (0, u "I"), (6, .class_ 60), (1, u "java/util/Arrays"), (0, u "copyOf"), (1, .fieldref 10 64), (0, .nameAndType 65 51), (0, u "modCount"), (0, .methodref 58 67), (0, .nameAndType 61 68), (0, u "([Ljava/lang/Object;I)[Ljava/lang/Object;"), (0, .methodref 10 70), (0, .nameAndType 71 72), (0, u "grow"), (0, u "(I)[Ljava/lang/Object;"), (6, .methodref 80 81), (0, .class_ 82), (0, .nameAndType 83 84), (0, u "java/lang/Math"), (0, u "max"), (0, u "(II)I"), (11, u "(Ljava/lang/Object;)Z"), (32, .methodref 10 130), (0, .nameAndType 71 47), (0, .methodref 10 132), (0, .nameAndType 133 134), (0, u "add"), (0, u "(Ljava/lang/Object;[Ljava/lang/Object;I)V"), (13, .class_ 149), (0, u "java/util/List"), (23, u "()Z"), (88, .class_ 263), (0, u "java/util/ArrayList$ListItr"), (3, .class_ 268), (0, u "java/util/ArrayList$Itr"), (7, .class_ 277), (0, u "java/util/ArrayList$SubList"), (12, .class_ 291), (0, u "java/util/ArrayList$ArrayListSpliterator"), (37, .class_ 330), (0, u "java/util/RandomAccess"), (0, .class_ 332), (0, u "java/lang/Cloneable"), (0, .class_ 334), (0, u "java/io/Serializable"), (0, u "serialVersionUID"), (0, u "J"), (3, u "DEFAULT_CAPACITY"), (22, u "isEmpty"), (136, .class_ 501), (0, u "java/util/ArrayList$SubList$2"), (0, .class_ 503), (0, u "java/util/ArrayList$SubList$1")] 5

def k22c0 : Code := { maxStack := 2, maxLocals := 1, code := jdk_38_method_2_code, exceptionTable := #[], attributes := #[] }
def k22m0 : Method := { name := "<init>", desc := "()V", sig := { parameters := [], returnType := none }, accessFlags := 1, code := some k22c0 }
def k22c1 : Code := { maxStack := 4, maxLocals := 4, code := jdk_38_method_6_code, exceptionTable := #[], attributes := #[] }
def k22m1 : Method := { name := "grow", desc := "(I)[Ljava/lang/Object;", sig := { parameters := [.int], returnType := some (.array (.object "java/lang/Object")) }, accessFlags := 2, code := some k22c1 }
def k22c2 : Code := { maxStack := 3, maxLocals := 1, code := jdk_38_method_7_code, exceptionTable := #[], attributes := #[] }
def k22m2 : Method := { name := "grow", desc := "()[Ljava/lang/Object;", sig := { parameters := [], returnType := some (.array (.object "java/lang/Object")) }, accessFlags := 2, code := some k22c2 }
def k22c3 : Code := { maxStack := 1, maxLocals := 1, code := jdk_38_method_9_code, exceptionTable := #[], attributes := #[] }
def k22m3 : Method := { name := "isEmpty", desc := "()Z", sig := { parameters := [], returnType := some .boolean }, accessFlags := 1, code := some k22c3 }
def k22c4 : Code := { maxStack := 2, maxLocals := 1, code := jdk_38_method_16_code, exceptionTable := #[], attributes := #[] }
def k22m4 : Method := { name := "toArray", desc := "()[Ljava/lang/Object;", sig := { parameters := [], returnType := some (.array (.object "java/lang/Object")) }, accessFlags := 1, code := some k22c4 }
def k22c5 : Code := { maxStack := 3, maxLocals := 4, code := jdk_38_method_24_code, exceptionTable := #[], attributes := #[] }
def k22m5 : Method := { name := "add", desc := "(Ljava/lang/Object;[Ljava/lang/Object;I)V", sig := { parameters := [(.object "java/lang/Object"), (.array (.object "java/lang/Object")), .int], returnType := none }, accessFlags := 2, code := some k22c5 }
def k22c6 : Code := { maxStack := 4, maxLocals := 2, code := jdk_38_method_25_code, exceptionTable := #[], attributes := #[] }
def k22m6 : Method := { name := "add", desc := "(Ljava/lang/Object;)Z", sig := { parameters := [(.object "java/lang/Object")], returnType := some .boolean }, accessFlags := 1, code := some k22c6 }
def k22 : Class := { plain "java/util/ArrayList" (some 20) with
  accessFlags := 33
  interfaces := #[12, 16, 21, 2]
  cf := some (fileOf pool22 10 #[.nestMembers #[290, 276, 500, 502, 262, 267]] #[{ accessFlags := 1, nameIndex := 5, descriptorIndex := 6, attributes := #[] }, { accessFlags := 2, nameIndex := 71, descriptorIndex := 72, attributes := #[] }, { accessFlags := 2, nameIndex := 71, descriptorIndex := 47, attributes := #[] }, { accessFlags := 1, nameIndex := 363, descriptorIndex := 173, attributes := #[] }, { accessFlags := 1, nameIndex := 46, descriptorIndex := 47, attributes := #[] }, { accessFlags := 2, nameIndex := 133, descriptorIndex := 134, attributes := #[] }, { accessFlags := 1, nameIndex := 133, descriptorIndex := 96, attributes := #[] }] 33 2 #[148, 329, 331, 333] #[{ accessFlags := 26, nameIndex := 335, descriptorIndex := 336, attributes := #[] }, { accessFlags := 26, nameIndex := 340, descriptorIndex := 51, attributes := #[] }, { accessFlags := 26, nameIndex := 17, descriptorIndex := 14, attributes := #[] }, { accessFlags := 26, nameIndex := 41, descriptorIndex := 14, attributes := #[] }, { accessFlags := 128, nameIndex := 13, descriptorIndex := 14, attributes := #[] }, { accessFlags := 2, nameIndex := 50, descriptorIndex := 51, attributes := #[] }])
  fields := #[{ name := "serialVersionUID", type := .long, accessFlags := 26, slot := 0, constantValue := 0 }, { name := "DEFAULT_CAPACITY", type := .int, accessFlags := 26, slot := 1, constantValue := 0 }, { name := "EMPTY_ELEMENTDATA", type := (.array (.object "java/lang/Object")), accessFlags := 26, slot := 2, constantValue := 0 }, { name := "DEFAULTCAPACITY_EMPTY_ELEMENTDATA", type := (.array (.object "java/lang/Object")), accessFlags := 26, slot := 3, constantValue := 0 }, { name := "elementData", type := (.array (.object "java/lang/Object")), accessFlags := 128, slot := 1, constantValue := 0 }, { name := "size", type := .int, accessFlags := 2, slot := 2, constantValue := 0 }]
  methods := #[k22m0, k22m1, k22m2, k22m3, k22m4, k22m5, k22m6]
  instanceTypes := #[.int, (.array (.object "java/lang/Object")), .int]
  staticTypes := #[.long, .int, (.array (.object "java/lang/Object")), (.array (.object "java/lang/Object"))]
  resolved := Array.replicate 509 none
  statics := some 3 }

def pool23 : Array CpInfo := pool [(2, .class_ 4), (1, u "java/lang/Object"), (0, u "<init>"), (0, u "()V"), (17, .class_ 26), (1, u "jdk/internal/util/Preconditions"), (6, u "checkIndex"), (13, u "checkFromToIndex"), (1, u "checkFromIndexSize"), (5, .class_ 56), (0, u "jdk/internal/util/Preconditions$4"), (57, .class_ 115), (0, u "jdk/internal/util/Preconditions$1"), (7, u "SIOOBE_FORMATTER"), (0, u "Ljava/util/function/BiFunction;"), (0, .class_ 126), (0, u "jdk/internal/util/Preconditions$2"), (3, u "AIOOBE_FORMATTER"), (0, .class_ 132), (0, u "jdk/internal/util/Preconditions$3"), (3, u "IOOBE_FORMATTER"), (41, u "(IILjava/util/function/BiFunction;)I"), (4, u "(IIILjava/util/function/BiFunction;)I")] 10

def k23m0 : Method := { name := "<init>", desc := "()V", sig := { parameters := [], returnType := none }, accessFlags := 1, code := none }
def k23c1 : Code := { maxStack := 3, maxLocals := 3, code := jdk_41_method_11_code, exceptionTable := #[], attributes := #[] }
def k23m1 : Method := { name := "checkIndex", desc := "(IILjava/util/function/BiFunction;)I", sig := { parameters := [.int, .int, (.object "java/util/function/BiFunction")], returnType := some .int }, accessFlags := 9, code := some k23c1 }
def k23c2 : Code := { maxStack := 4, maxLocals := 4, code := jdk_41_method_12_code, exceptionTable := #[], attributes := #[] }
def k23m2 : Method := { name := "checkFromToIndex", desc := "(IIILjava/util/function/BiFunction;)I", sig := { parameters := [.int, .int, .int, (.object "java/util/function/BiFunction")], returnType := some .int }, accessFlags := 9, code := some k23c2 }
def k23c3 : Code := { maxStack := 4, maxLocals := 4, code := jdk_41_method_13_code, exceptionTable := #[], attributes := #[] }
def k23m3 : Method := { name := "checkFromIndexSize", desc := "(IIILjava/util/function/BiFunction;)I", sig := { parameters := [.int, .int, .int, (.object "java/util/function/BiFunction")], returnType := some .int }, accessFlags := 9, code := some k23c3 }
def k23 : Class := { plain "jdk/internal/util/Preconditions" (some 0) with
  accessFlags := 33
  interfaces := #[]
  cf := some (fileOf pool23 24 #[.nestMembers #[55, 131, 125, 114]] #[{ accessFlags := 1, nameIndex := 5, descriptorIndex := 6, attributes := #[] }, { accessFlags := 9, nameIndex := 33, descriptorIndex := 178, attributes := #[] }, { accessFlags := 9, nameIndex := 47, descriptorIndex := 183, attributes := #[] }, { accessFlags := 9, nameIndex := 49, descriptorIndex := 183, attributes := #[] }] 33 2 #[] #[{ accessFlags := 25, nameIndex := 123, descriptorIndex := 124, attributes := #[] }, { accessFlags := 25, nameIndex := 130, descriptorIndex := 124, attributes := #[] }, { accessFlags := 25, nameIndex := 136, descriptorIndex := 124, attributes := #[] }])
  fields := #[{ name := "SIOOBE_FORMATTER", type := (.object "java/util/function/BiFunction"), accessFlags := 25, slot := 0, constantValue := 0 }, { name := "AIOOBE_FORMATTER", type := (.object "java/util/function/BiFunction"), accessFlags := 25, slot := 1, constantValue := 0 }, { name := "IOOBE_FORMATTER", type := (.object "java/util/function/BiFunction"), accessFlags := 25, slot := 2, constantValue := 0 }]
  methods := #[k23m0, k23m1, k23m2, k23m3]
  instanceTypes := #[]
  staticTypes := #[(.object "java/util/function/BiFunction"), (.object "java/util/function/BiFunction"), (.object "java/util/function/BiFunction")]
  resolved := Array.replicate 194 none
  statics := some 4 }

def pool24 : Array CpInfo := pool [(2, .class_ 4), (1, u "java/lang/Object"), (0, u "<init>"), (0, u "()V"), (7, .class_ 16), (1, u "java/util/Arrays"), (57, .class_ 76), (1, u "java/util/Arrays$NaturalOrder"), (9, .methodref 2 87), (0, .nameAndType 88 89), (0, u "getClass"), (0, u "()Ljava/lang/Class;"), (20, .class_ 111), (0, u "[Ljava/lang/Object;"), (1, .class_ 115), (1, u "java/util/Arrays$LegacyMergeSort"), (1, u "Z"), (21, u "copyOfRange"), (10, .methodref 151 152), (0, .class_ 153), (0, .nameAndType 154 155), (0, u "java/lang/System"), (0, u "arraycopy"), (0, u "(Ljava/lang/Object;ILjava/lang/Object;II)V"), (144, .methodref 14 301), (0, .nameAndType 302 303), (0, u "copyOf"), (0, u "([Ljava/lang/Object;ILjava/lang/Class;)[Ljava/lang/Object;"), (0, .methodref 305 306), (0, .class_ 307), (0, .nameAndType 308 309), (0, u "java/lang/Math"), (0, u "min"), (0, u "(II)I"), (29, .methodref 14 340), (0, .nameAndType 341 342), (0, u "copyOfRangeByte"), (0, u "([BII)[B"), (0, .methodref 14 344), (0, .nameAndType 345 346), (0, u "checkLength"), (0, u "(II)V"), (28, .class_ 376), (0, u "java/util/Arrays$ArrayList"), (68, u "$assertionsDisabled"), (269, u "MIN_ARRAY_SORT_GRAN"), (0, u "I"), (2, u "INSERTIONSORT_THRESHOLD"), (140, u "([Ljava/lang/Object;I)[Ljava/lang/Object;"), (114, .class_ 976), (0, u "java/util/Arrays$ArrayItr")] 52

def k24m0 : Method := { name := "<init>", desc := "()V", sig := { parameters := [], returnType := none }, accessFlags := 2, code := none }
def k24c1 : Code := { maxStack := 3, maxLocals := 2, code := jdk_65_method_119_code, exceptionTable := #[], attributes := #[] }
def k24m1 : Method := { name := "copyOf", desc := "([Ljava/lang/Object;I)[Ljava/lang/Object;", sig := { parameters := [(.array (.object "java/lang/Object")), .int], returnType := some (.array (.object "java/lang/Object")) }, accessFlags := 9, code := some k24c1 }
def k24c2 : Code := { maxStack := 6, maxLocals := 4, code := jdk_65_method_120_code, exceptionTable := #[], attributes := #[] }
def k24m2 : Method := { name := "copyOf", desc := "([Ljava/lang/Object;ILjava/lang/Class;)[Ljava/lang/Object;", sig := { parameters := [(.array (.object "java/lang/Object")), .int, (.object "java/lang/Class")], returnType := some (.array (.object "java/lang/Object")) }, accessFlags := 9, code := some k24c2 }
def k24c3 : Code := { maxStack := 4, maxLocals := 2, code := jdk_65_method_131_code, exceptionTable := #[], attributes := #[] }
def k24m3 : Method := { name := "checkLength", desc := "(II)V", sig := { parameters := [.int, .int], returnType := none }, accessFlags := 10, code := some k24c3 }
def k24c4 : Code := { maxStack := 3, maxLocals := 3, code := jdk_65_method_132_code, exceptionTable := #[], attributes := #[] }
def k24m4 : Method := { name := "copyOfRange", desc := "([BII)[B", sig := { parameters := [(.array .byte), .int, .int], returnType := some (.array .byte) }, accessFlags := 9, code := some k24c4 }
def k24c5 : Code := { maxStack := 6, maxLocals := 5, code := jdk_65_method_133_code, exceptionTable := #[], attributes := #[] }
def k24m5 : Method := { name := "copyOfRangeByte", desc := "([BII)[B", sig := { parameters := [(.array .byte), .int, .int], returnType := some (.array .byte) }, accessFlags := 10, code := some k24c5 }
def k24 : Class := { plain "java/util/Arrays" (some 0) with
  accessFlags := 49
  interfaces := #[]
  cf := some (fileOf pool24 14 #[.nestMembers #[975, 375, 113, 74]] #[{ accessFlags := 2, nameIndex := 5, descriptorIndex := 6, attributes := #[] }, { accessFlags := 9, nameIndex := 302, descriptorIndex := 860, attributes := #[] }, { accessFlags := 9, nameIndex := 302, descriptorIndex := 303, attributes := #[] }, { accessFlags := 10, nameIndex := 345, descriptorIndex := 346, attributes := #[] }, { accessFlags := 9, nameIndex := 139, descriptorIndex := 342, attributes := #[] }, { accessFlags := 10, nameIndex := 341, descriptorIndex := 342, attributes := #[] }] 49 2 #[] #[{ accessFlags := 26, nameIndex := 715, descriptorIndex := 716, attributes := #[] }, { accessFlags := 26, nameIndex := 719, descriptorIndex := 716, attributes := #[] }, { accessFlags := 4120, nameIndex := 445, descriptorIndex := 117, attributes := #[] }])
  fields := #[{ name := "MIN_ARRAY_SORT_GRAN", type := .int, accessFlags := 26, slot := 0, constantValue := 0 }, { name := "INSERTIONSORT_THRESHOLD", type := .int, accessFlags := 26, slot := 1, constantValue := 0 }, { name := "$assertionsDisabled", type := .boolean, accessFlags := 4120, slot := 2, constantValue := 0 }]
  methods := #[k24m0, k24m1, k24m2, k24m3, k24m4, k24m5]
  instanceTypes := #[]
  staticTypes := #[.int, .int, .boolean]
  resolved := Array.replicate 1029 none
  statics := none }

def pool25 : Array CpInfo := pool [(1, .class_ 2), (0, u "java/lang/Math"), (1, .class_ 6), (1, u "java/lang/Object"), (0, u "<init>"), (0, u "()V"), (89, .class_ 100), (1, u "java/lang/Math$RandomNumberGeneratorHolder"), (71, u "negativeZeroFloatBits"), (0, u "J"), (2, u "negativeZeroDoubleBits"), (21, u "max"), (2, u "min"), (43, u "$assertionsDisabled"), (0, u "Z"), (88, u "(II)I"), (2, u "twoToTheDoubleScaleDown"), (0, u "D"), (4, u "twoToTheDoubleScaleUp"), (9, u "E"), (3, u "PI"), (2, u "TAU"), (2, u "DEGREES_TO_RADIANS"), (0, u "RADIANS_TO_DEGREES")] 94

def k25m0 : Method := { name := "<init>", desc := "()V", sig := { parameters := [], returnType := none }, accessFlags := 2, code := none }
def k25c1 : Code := { maxStack := 2, maxLocals := 2, code := jdk_29_method_65_code, exceptionTable := #[], attributes := #[] }
def k25m1 : Method := { name := "max", desc := "(II)I", sig := { parameters := [.int, .int], returnType := some .int }, accessFlags := 9, code := some k25c1 }
def k25c2 : Code := { maxStack := 2, maxLocals := 2, code := jdk_29_method_69_code, exceptionTable := #[], attributes := #[] }
def k25m2 : Method := { name := "min", desc := "(II)I", sig := { parameters := [.int, .int], returnType := some .int }, accessFlags := 9, code := some k25c2 }
def k25 : Class := { plain "java/lang/Math" (some 0) with
  accessFlags := 49
  interfaces := #[]
  cf := some (fileOf pool25 1 #[.nestMembers #[98]] #[{ accessFlags := 2, nameIndex := 7, descriptorIndex := 8, attributes := #[] }, { accessFlags := 9, nameIndex := 198, descriptorIndex := 335, attributes := #[] }, { accessFlags := 9, nameIndex := 201, descriptorIndex := 335, attributes := #[] }] 49 4 #[] #[{ accessFlags := 25, nameIndex := 354, descriptorIndex := 339, attributes := #[] }, { accessFlags := 25, nameIndex := 358, descriptorIndex := 339, attributes := #[] }, { accessFlags := 25, nameIndex := 361, descriptorIndex := 339, attributes := #[] }, { accessFlags := 26, nameIndex := 364, descriptorIndex := 339, attributes := #[] }, { accessFlags := 26, nameIndex := 365, descriptorIndex := 339, attributes := #[] }, { accessFlags := 26, nameIndex := 172, descriptorIndex := 173, attributes := #[] }, { accessFlags := 26, nameIndex := 176, descriptorIndex := 173, attributes := #[] }, { accessFlags := 8, nameIndex := 344, descriptorIndex := 339, attributes := #[] }, { accessFlags := 8, nameIndex := 338, descriptorIndex := 339, attributes := #[] }, { accessFlags := 4120, nameIndex := 245, descriptorIndex := 246, attributes := #[] }])
  fields := #[{ name := "E", type := .double, accessFlags := 25, slot := 0, constantValue := 0 }, { name := "PI", type := .double, accessFlags := 25, slot := 1, constantValue := 0 }, { name := "TAU", type := .double, accessFlags := 25, slot := 2, constantValue := 0 }, { name := "DEGREES_TO_RADIANS", type := .double, accessFlags := 26, slot := 3, constantValue := 0 }, { name := "RADIANS_TO_DEGREES", type := .double, accessFlags := 26, slot := 4, constantValue := 0 }, { name := "negativeZeroFloatBits", type := .long, accessFlags := 26, slot := 5, constantValue := 0 }, { name := "negativeZeroDoubleBits", type := .long, accessFlags := 26, slot := 6, constantValue := 0 }, { name := "twoToTheDoubleScaleUp", type := .double, accessFlags := 8, slot := 7, constantValue := 0 }, { name := "twoToTheDoubleScaleDown", type := .double, accessFlags := 8, slot := 8, constantValue := 0 }, { name := "$assertionsDisabled", type := .boolean, accessFlags := 4120, slot := 9, constantValue := 0 }]
  methods := #[k25m0, k25m1, k25m2]
  instanceTypes := #[]
  staticTypes := #[.double, .double, .double, .double, .double, .long, .long, .double, .double, .boolean]
  resolved := Array.replicate 460 none
  statics := none }

def pool26 : Array CpInfo := pool [(2, .class_ 4), (1, u "java/lang/Object"), (0, u "<init>"), (0, u "()V"), (1, .class_ 10), (1, u "java/lang/System"), (0, u "allowSecurityManager"), (0, u "I"), (16, u "cons"), (0, u "Ljava/io/Console;"), (77, .class_ 110), (1, u "java/lang/System$CallersHolder"), (43, u "initialErrStream"), (0, u "Ljava/io/PrintStream;"), (19, u "security"), (0, u "Ljava/lang/SecurityManager;"), (31, .class_ 209), (0, u "java/lang/System$1"), (7, u "props"), (0, u "Ljava/util/Properties;"), (2, u "lineSeparator"), (0, u "Ljava/lang/String;"), (96, .class_ 321), (1, u "java/lang/System$LoggerFinder"), (5, .class_ 328), (0, u "java/lang/System$Logger"), (67, u "err"), (2, u "out"), (91, u "notSupportedJnuEncoding"), (15, u "in"), (17, u "initialIn"), (0, u "Ljava/io/InputStream;"), (35, u "bootLayer"), (0, u "Ljava/lang/ModuleLayer;"), (99, .class_ 664), (0, u "java/lang/System$2"), (9, u "NEVER"), (2, u "MAYBE"), (49, u "arraycopy"), (0, u "(Ljava/lang/Object;ILjava/lang/Object;II)V"), (72, .class_ 802), (0, u "java/lang/System$Logger$Level")] 31

def k26m0 : Method := { name := "<init>", desc := "()V", sig := { parameters := [], returnType := none }, accessFlags := 2, code := none }
def k26m1 : Method := { name := "arraycopy", desc := "(Ljava/lang/Object;ILjava/lang/Object;II)V", sig := { parameters := [(.object "java/lang/Object"), .int, (.object "java/lang/Object"), .int, .int], returnType := none }, accessFlags := 265, code := none }
def k26 : Class := { plain "java/lang/System" (some 0) with
  accessFlags := 49
  interfaces := #[]
  cf := some (fileOf pool26 8 #[.nestMembers #[319, 327, 801, 108, 663, 208]] #[{ accessFlags := 2, nameIndex := 5, descriptorIndex := 6, attributes := #[] }, { accessFlags := 265, nameIndex := 727, descriptorIndex := 728, attributes := #[] }] 49 2 #[] #[{ accessFlags := 25, nameIndex := 507, descriptorIndex := 526, attributes := #[] }, { accessFlags := 25, nameIndex := 399, descriptorIndex := 155, attributes := #[] }, { accessFlags := 25, nameIndex := 396, descriptorIndex := 155, attributes := #[] }, { accessFlags := 10, nameIndex := 525, descriptorIndex := 526, attributes := #[] }, { accessFlags := 26, nameIndex := 674, descriptorIndex := 12, attributes := #[] }, { accessFlags := 26, nameIndex := 677, descriptorIndex := 12, attributes := #[] }, { accessFlags := 10, nameIndex := 11, descriptorIndex := 12, attributes := #[] }, { accessFlags := 74, nameIndex := 175, descriptorIndex := 176, attributes := #[] }, { accessFlags := 10, nameIndex := 491, descriptorIndex := 222, attributes := #[] }, { accessFlags := 74, nameIndex := 29, descriptorIndex := 30, attributes := #[] }, { accessFlags := 74, nameIndex := 154, descriptorIndex := 155, attributes := #[] }, { accessFlags := 10, nameIndex := 217, descriptorIndex := 218, attributes := #[] }, { accessFlags := 10, nameIndex := 221, descriptorIndex := 222, attributes := #[] }, { accessFlags := 8, nameIndex := 562, descriptorIndex := 563, attributes := #[] }])
  fields := #[{ name := "in", type := (.object "java/io/InputStream"), accessFlags := 25, slot := 0, constantValue := 0 }, { name := "out", type := (.object "java/io/PrintStream"), accessFlags := 25, slot := 1, constantValue := 0 }, { name := "err", type := (.object "java/io/PrintStream"), accessFlags := 25, slot := 2, constantValue := 0 }, { name := "initialIn", type := (.object "java/io/InputStream"), accessFlags := 10, slot := 3, constantValue := 0 }, { name := "NEVER", type := .int, accessFlags := 26, slot := 4, constantValue := 0 }, { name := "MAYBE", type := .int, accessFlags := 26, slot := 5, constantValue := 0 }, { name := "allowSecurityManager", type := .int, accessFlags := 10, slot := 6, constantValue := 0 }, { name := "security", type := (.object "java/lang/SecurityManager"), accessFlags := 74, slot := 7, constantValue := 0 }, { name := "notSupportedJnuEncoding", type := (.object "java/lang/String"), accessFlags := 10, slot := 8, constantValue := 0 }, { name := "cons", type := (.object "java/io/Console"), accessFlags := 74, slot := 9, constantValue := 0 }, { name := "initialErrStream", type := (.object "java/io/PrintStream"), accessFlags := 74, slot := 10, constantValue := 0 }, { name := "props", type := (.object "java/util/Properties"), accessFlags := 10, slot := 11, constantValue := 0 }, { name := "lineSeparator", type := (.object "java/lang/String"), accessFlags := 10, slot := 12, constantValue := 0 }, { name := "bootLayer", type := (.object "java/lang/ModuleLayer"), accessFlags := 8, slot := 13, constantValue := 0 }]
  methods := #[k26m0, k26m1]
  instanceTypes := #[]
  staticTypes := #[(.object "java/io/InputStream"), (.object "java/io/PrintStream"), (.object "java/io/PrintStream"), (.object "java/io/InputStream"), .int, .int, .int, (.object "java/lang/SecurityManager"), (.object "java/lang/String"), (.object "java/io/Console"), (.object "java/io/PrintStream"), (.object "java/util/Properties"), (.object "java/lang/String"), (.object "java/lang/ModuleLayer")]
  resolved := Array.replicate 834 none
  statics := none }

def pool27 : Array CpInfo := pool [(1, .methodref 2 3), (0, .class_ 4), (0, .nameAndType 5 6), (0, u "java/util/ImmutableCollections$AbstractImmutableList"), (0, u "<init>"), (0, u "()V"), (0, .methodref 8 9), (0, .class_ 10), (0, .nameAndType 11 12), (0, u "java/util/Objects"), (0, u "requireNonNull"), (0, u "(Ljava/lang/Object;)Ljava/lang/Object;"), (0, .fieldref 14 15), (0, .class_ 16), (0, .nameAndType 17 18), (0, u "java/util/ImmutableCollections$List12"), (0, u "e0"), (0, u "Ljava/lang/Object;"), (0, .fieldref 20 21), (0, .class_ 22), (0, .nameAndType 23 18), (0, u "java/util/ImmutableCollections"), (0, u "EMPTY"), (0, .fieldref 14 25), (0, .nameAndType 26 18), (0, u "e1"), (24, u "size"), (0, u "()I"), (17, .class_ 71), (0, u "java/io/Serializable"), (4, u "(Ljava/lang/Object;)V"), (8, u "(Ljava/lang/Object;Ljava/lang/Object;)V"), (4, u "get"), (0, u "(I)Ljava/lang/Object;")] 33

def k27c0 : Code := { maxStack := 2, maxLocals := 2, code := jdk_44_method_1_code, exceptionTable := #[], attributes := #[] }
def k27m0 : Method := { name := "<init>", desc := "(Ljava/lang/Object;)V", sig := { parameters := [(.object "java/lang/Object")], returnType := none }, accessFlags := 0, code := some k27c0 }
def k27c1 : Code := { maxStack := 2, maxLocals := 3, code := jdk_44_method_2_code, exceptionTable := #[], attributes := #[] }
def k27m1 : Method := { name := "<init>", desc := "(Ljava/lang/Object;Ljava/lang/Object;)V", sig := { parameters := [(.object "java/lang/Object"), (.object "java/lang/Object")], returnType := none }, accessFlags := 0, code := some k27c1 }
def k27c2 : Code := { maxStack := 2, maxLocals := 1, code := jdk_44_method_3_code, exceptionTable := #[], attributes := #[] }
def k27m2 : Method := { name := "size", desc := "()I", sig := { parameters := [], returnType := some .int }, accessFlags := 1, code := some k27c2 }
def k27c3 : Code := { maxStack := 2, maxLocals := 2, code := jdk_44_method_5_code, exceptionTable := #[], attributes := #[] }
def k27m3 : Method := { name := "get", desc := "(I)Ljava/lang/Object;", sig := { parameters := [.int], returnType := some (.object "java/lang/Object") }, accessFlags := 1, code := some k27c3 }
def k27 : Class := { plain "java/util/ImmutableCollections$List12" (some 17) with
  accessFlags := 48
  interfaces := #[2]
  cf := some (fileOf pool27 14 #[.nestHost 20] #[{ accessFlags := 0, nameIndex := 5, descriptorIndex := 76, attributes := #[] }, { accessFlags := 0, nameIndex := 5, descriptorIndex := 85, attributes := #[] }, { accessFlags := 1, nameIndex := 51, descriptorIndex := 52, attributes := #[] }, { accessFlags := 1, nameIndex := 90, descriptorIndex := 91, attributes := #[] }] 48 2 #[70] #[{ accessFlags := 18, nameIndex := 17, descriptorIndex := 18, attributes := #[] }, { accessFlags := 18, nameIndex := 26, descriptorIndex := 18, attributes := #[] }])
  fields := #[{ name := "e0", type := (.object "java/lang/Object"), accessFlags := 18, slot := 0, constantValue := 0 }, { name := "e1", type := (.object "java/lang/Object"), accessFlags := 18, slot := 1, constantValue := 0 }]
  methods := #[k27m0, k27m1, k27m2, k27m3]
  instanceTypes := #[(.object "java/lang/Object"), (.object "java/lang/Object")]
  staticTypes := #[]
  resolved := Array.replicate 125 none
  statics := none }

def pool28 : Array CpInfo := pool [(2, .class_ 4), (1, u "java/lang/Object"), (0, u "<init>"), (0, u "()V"), (35, .class_ 44), (1, u "java/util/Objects"), (0, u "requireNonNull"), (0, u "(Ljava/lang/Object;)Ljava/lang/Object;")] 137

def k28m0 : Method := { name := "<init>", desc := "()V", sig := { parameters := [], returnType := none }, accessFlags := 2, code := none }
def k28c1 : Code := { maxStack := 2, maxLocals := 1, code := jdk_31_method_10_code, exceptionTable := #[], attributes := #[] }
def k28m1 : Method := { name := "requireNonNull", desc := "(Ljava/lang/Object;)Ljava/lang/Object;", sig := { parameters := [(.object "java/lang/Object")], returnType := some (.object "java/lang/Object") }, accessFlags := 9, code := some k28c1 }
def k28 : Class := { plain "java/util/Objects" (some 0) with
  accessFlags := 49
  interfaces := #[]
  cf := some (fileOf pool28 42 #[] #[{ accessFlags := 2, nameIndex := 5, descriptorIndex := 6, attributes := #[] }, { accessFlags := 9, nameIndex := 45, descriptorIndex := 46, attributes := #[] }] 49 2 #[] #[])
  fields := #[]
  methods := #[k28m0, k28m1]
  instanceTypes := #[]
  staticTypes := #[]
  resolved := Array.replicate 184 none
  statics := none }

def pool29 : Array CpInfo := pool [(1, .class_ 2), (0, u "java/lang/String"), (1, .class_ 6), (1, u "java/lang/Object"), (0, u "<init>"), (0, u "()V"), (0, .methodref 1 10), (0, .nameAndType 11 12), (0, u "checkIndex"), (0, u "(II)V"), (1, .class_ 16), (1, u "java/lang/StringLatin1"), (36, u "([BI)C"), (58, .methodref 1 113), (0, .nameAndType 7 114), (0, u "([BB)V"), (6, u "$assertionsDisabled"), (0, u "Z"), (8, .class_ 133), (1, u "java/util/Arrays"), (17, .string 152), (0, u ""), (42, .nameAndType 196 197), (0, u "newString"), (0, u "([BII)Ljava/lang/String;"), (12, .methodref 14 195), (10, .class_ 223), (1, u "java/lang/StringLatin1$LinesSpliterator"), (8, .methodref 131 233), (0, .nameAndType 234 235), (0, u "copyOfRange"), (0, u "([BII)[B"), (16, u "charAt"), (113, u "trim"), (0, u "([B)Ljava/lang/String;"), (22, .class_ 391), (0, u "java/lang/StringLatin1$CharsSpliterator")] 3

def k29m0 : Method := { name := "<init>", desc := "()V", sig := { parameters := [], returnType := none }, accessFlags := 0, code := none }
def k29c1 : Code := { maxStack := 2, maxLocals := 2, code := jdk_43_method_2_code, exceptionTable := #[], attributes := #[] }
def k29m1 : Method := { name := "charAt", desc := "([BI)C", sig := { parameters := [(.array .byte), .int], returnType := some .char }, accessFlags := 9, code := some k29c1 }
def k29c2 : Code := { maxStack := 4, maxLocals := 3, code := jdk_43_method_36_code, exceptionTable := #[], attributes := #[] }
def k29m2 : Method := { name := "trim", desc := "([B)Ljava/lang/String;", sig := { parameters := [(.array .byte)], returnType := some (.object "java/lang/String") }, accessFlags := 9, code := some k29c2 }
def k29c3 : Code := { maxStack := 6, maxLocals := 3, code := jdk_43_method_47_code, exceptionTable := #[], attributes := #[] }
def k29m3 : Method := { name := "newString", desc := "([BII)Ljava/lang/String;", sig := { parameters := [(.array .byte), .int, .int], returnType := some (.object "java/lang/String") }, accessFlags := 9, code := some k29c3 }
def k29 : Class := { plain "java/lang/StringLatin1" (some 0) with
  accessFlags := 48
  interfaces := #[]
  cf := some (fileOf pool29 14 #[.nestMembers #[390, 221]] #[{ accessFlags := 0, nameIndex := 7, descriptorIndex := 8, attributes := #[] }, { accessFlags := 9, nameIndex := 252, descriptorIndex := 53, attributes := #[] }, { accessFlags := 9, nameIndex := 366, descriptorIndex := 367, attributes := #[] }, { accessFlags := 9, nameIndex := 196, descriptorIndex := 197, attributes := #[] }] 48 4 #[] #[{ accessFlags := 4120, nameIndex := 121, descriptorIndex := 122, attributes := #[] }])
  fields := #[{ name := "$assertionsDisabled", type := .boolean, accessFlags := 4120, slot := 0, constantValue := 0 }]
  methods := #[k29m0, k29m1, k29m2, k29m3]
  instanceTypes := #[]
  staticTypes := #[.boolean]
  resolved := Array.replicate 395 none
  statics := none }

def pool30 : Array CpInfo := pool [(9, u "<init>"), (6, .class_ 18), (1, u "java/lang/Object"), (0, u "()V"), (1, .class_ 23), (1, u "jdk/internal/util/ArraysSupport"), (0, u "LOG2_ARRAY_LONG_INDEX_SCALE"), (0, u "I"), (2, u "U"), (0, u "Ljdk/internal/misc/Unsafe;"), (8, u "BIG_ENDIAN"), (0, u "Z"), (8, u "LOG2_BYTE_BIT_SIZE"), (4, u "LOG2_ARRAY_INT_INDEX_SCALE"), (54, u "JLA"), (0, u "Ljdk/internal/access/JavaLangAccess;"), (11, u "LOG2_ARRAY_BOOLEAN_INDEX_SCALE"), (9, u "LOG2_ARRAY_BYTE_INDEX_SCALE"), (5, u "LOG2_ARRAY_CHAR_INDEX_SCALE"), (5, u "LOG2_ARRAY_SHORT_INDEX_SCALE"), (18, u "LOG2_ARRAY_FLOAT_INDEX_SCALE"), (24, u "LOG2_ARRAY_DOUBLE_INDEX_SCALE"), (89, u "T_BOOLEAN"), (2, u "T_CHAR"), (1, u "T_FLOAT"), (1, u "T_DOUBLE"), (1, u "T_BYTE"), (1, u "T_SHORT"), (1, u "T_INT"), (1, u "T_LONG"), (1, u "SOFT_MAX_ARRAY_LENGTH")] 83

def k30m0 : Method := { name := "<init>", desc := "()V", sig := { parameters := [], returnType := none }, accessFlags := 2, code := none }
def k30 : Class := { plain "jdk/internal/util/ArraysSupport" (some 0) with
  accessFlags := 33
  interfaces := #[]
  cf := some (fileOf pool30 21 #[] #[{ accessFlags := 2, nameIndex := 9, descriptorIndex := 19, attributes := #[] }] 33 16 #[] #[{ accessFlags := 24, nameIndex := 28, descriptorIndex := 29, attributes := #[] }, { accessFlags := 26, nameIndex := 38, descriptorIndex := 39, attributes := #[] }, { accessFlags := 25, nameIndex := 121, descriptorIndex := 25, attributes := #[] }, { accessFlags := 25, nameIndex := 131, descriptorIndex := 25, attributes := #[] }, { accessFlags := 25, nameIndex := 137, descriptorIndex := 25, attributes := #[] }, { accessFlags := 25, nameIndex := 143, descriptorIndex := 25, attributes := #[] }, { accessFlags := 25, nameIndex := 53, descriptorIndex := 25, attributes := #[] }, { accessFlags := 25, nameIndex := 24, descriptorIndex := 25, attributes := #[] }, { accessFlags := 25, nameIndex := 162, descriptorIndex := 25, attributes := #[] }, { accessFlags := 25, nameIndex := 187, descriptorIndex := 25, attributes := #[] }, { accessFlags := 26, nameIndex := 48, descriptorIndex := 25, attributes := #[] }, { accessFlags := 25, nameIndex := 277, descriptorIndex := 25, attributes := #[] }, { accessFlags := 25, nameIndex := 280, descriptorIndex := 25, attributes := #[] }, { accessFlags := 25, nameIndex := 282, descriptorIndex := 25, attributes := #[] }, { accessFlags := 25, nameIndex := 284, descriptorIndex := 25, attributes := #[] }, { accessFlags := 25, nameIndex := 286, descriptorIndex := 25, attributes := #[] }, { accessFlags := 25, nameIndex := 288, descriptorIndex := 25, attributes := #[] }, { accessFlags := 25, nameIndex := 290, descriptorIndex := 25, attributes := #[] }, { accessFlags := 25, nameIndex := 292, descriptorIndex := 25, attributes := #[] }, { accessFlags := 26, nameIndex := 108, descriptorIndex := 109, attributes := #[] }, { accessFlags := 25, nameIndex := 294, descriptorIndex := 25, attributes := #[] }])
  fields := #[{ name := "U", type := (.object "jdk/internal/misc/Unsafe"), accessFlags := 24, slot := 0, constantValue := 0 }, { name := "BIG_ENDIAN", type := .boolean, accessFlags := 26, slot := 1, constantValue := 0 }, { name := "LOG2_ARRAY_BOOLEAN_INDEX_SCALE", type := .int, accessFlags := 25, slot := 2, constantValue := 0 }, { name := "LOG2_ARRAY_BYTE_INDEX_SCALE", type := .int, accessFlags := 25, slot := 3, constantValue := 0 }, { name := "LOG2_ARRAY_CHAR_INDEX_SCALE", type := .int, accessFlags := 25, slot := 4, constantValue := 0 }, { name := "LOG2_ARRAY_SHORT_INDEX_SCALE", type := .int, accessFlags := 25, slot := 5, constantValue := 0 }, { name := "LOG2_ARRAY_INT_INDEX_SCALE", type := .int, accessFlags := 25, slot := 6, constantValue := 0 }, { name := "LOG2_ARRAY_LONG_INDEX_SCALE", type := .int, accessFlags := 25, slot := 7, constantValue := 0 }, { name := "LOG2_ARRAY_FLOAT_INDEX_SCALE", type := .int, accessFlags := 25, slot := 8, constantValue := 0 }, { name := "LOG2_ARRAY_DOUBLE_INDEX_SCALE", type := .int, accessFlags := 25, slot := 9, constantValue := 0 }, { name := "LOG2_BYTE_BIT_SIZE", type := .int, accessFlags := 26, slot := 10, constantValue := 0 }, { name := "T_BOOLEAN", type := .int, accessFlags := 25, slot := 11, constantValue := 0 }, { name := "T_CHAR", type := .int, accessFlags := 25, slot := 12, constantValue := 0 }, { name := "T_FLOAT", type := .int, accessFlags := 25, slot := 13, constantValue := 0 }, { name := "T_DOUBLE", type := .int, accessFlags := 25, slot := 14, constantValue := 0 }, { name := "T_BYTE", type := .int, accessFlags := 25, slot := 15, constantValue := 0 }, { name := "T_SHORT", type := .int, accessFlags := 25, slot := 16, constantValue := 0 }, { name := "T_INT", type := .int, accessFlags := 25, slot := 17, constantValue := 0 }, { name := "T_LONG", type := .int, accessFlags := 25, slot := 18, constantValue := 0 }, { name := "JLA", type := (.object "jdk/internal/access/JavaLangAccess"), accessFlags := 26, slot := 19, constantValue := 0 }, { name := "SOFT_MAX_ARRAY_LENGTH", type := .int, accessFlags := 25, slot := 20, constantValue := 0 }]
  methods := #[k30m0]
  instanceTypes := #[]
  staticTypes := #[(.object "jdk/internal/misc/Unsafe"), .boolean, .int, .int, .int, .int, .int, .int, .int, .int, .int, .int, .int, .int, .int, .int, .int, .int, .int, (.object "jdk/internal/access/JavaLangAccess"), .int]
  resolved := Array.replicate 378 none
  statics := none }

def k31 : Class := { plain "byte" none with kind := .primitive 'B', accessFlags := 0x411 }
def k32 : Class := { plain "[B" (some 0) with kind := .array 31 .byte, interfaces := #[21, 2], accessFlags := 1041 }

def k33 : Class := { plain "char" none with kind := .primitive 'C', accessFlags := 0x411 }
def k34 : Class := { plain "[C" (some 0) with kind := .array 33 .char, interfaces := #[21, 2], accessFlags := 1041 }

def k35 : Class := { plain "int" none with kind := .primitive 'I', accessFlags := 0x411 }
def k36 : Class := { plain "[I" (some 0) with kind := .array 35 .int, interfaces := #[21, 2], accessFlags := 1041 }

def k37 : Class := { plain "[Ljava/lang/Object;" (some 0) with kind := .array 0 (.object "java/lang/Object"), interfaces := #[21, 2], accessFlags := 1041, mirror := some 5 }

def heap : Heap := #[{ cls := 7, slots := #[.long 0, .int 1, .null, .int 0, .null, .int 0, .int 0], vm := .statics 7 },
  { cls := 13, slots := #[.long 0, .int 0, .null, .ref 9, .ref 6, .null, .null, .null, .int 0, .int 1], vm := .statics 13 },
  { cls := 19, slots := #[.int 0, .int 8, .int 0, .int 1], vm := .statics 19 },
  { cls := 22, slots := #[.long 0, .int 0, .ref 7, .ref 8], vm := .statics 22 },
  { cls := 23, slots := #[.null, .null, .null], vm := .statics 23 },
  { cls := 0, slots := #[], vm := .mirror 37 },
  { cls := 18, slots := #[.ref 7, .int 0], vm := .none },
  { cls := 37, slots := #[], vm := .none },
  { cls := 37, slots := #[], vm := .none },
  { cls := 0, slots := #[], vm := .none }]
def classes : Array Class := #[k0, k1, k2, k3, k4, k5, k6, k7, k8, k9, k10, k11, k12, k13, k14, k15, k16, k17, k18, k19, k20, k21, k22, k23, k24, k25, k26, k27, k28, k29, k30, k31, k32, k33, k34, k35, k36, k37]
def interned : List (Array UInt16 × Addr) := []
def slotsUsed : Nat := 30
def theMethod : MethodId := ⟨1, 7⟩
def args0 : Array Value := #[.int 5, .int 7, .int 9, .int 3, .int 2]
def aboutOver (below : List Frame) : State where
  vm := { classes := classes, interned := interned.toArray }
  heap := heap
  slotsUsed := slotsUsed
  threads := #[{ frames := .invoking theMethod args0 :: below }]
def below0 : List Frame := [.native { method := ⟨0, 0⟩, args := #[] }]
def about1 : State := aboutOver below0
def p0 : Program := .bare "" "" ""
def e0 : Env := launch0.env 0 0 0
theorem w_frames : about1.frames = Frame.invoking theMethod args0 :: below0 := rfl
theorem w_args : argsFit about1.vm theMethod args0 = true := by decide +kernel
theorem w_heap : heapFits about1 = true := by decide +kernel
theorem w_runnable : about1.curStatus? = some .runnable := by decide +kernel
theorem w_alone : about1.alone = true := by decide +kernel
theorem w_named : about1.methodNamed? x = some theMethod := by decide +kernel
theorem w_hears : about1.hears theMethod below0 = true := by decide +kernel
theorem w_ripe : about1.ripe theMethod args0 below0 = true := by decide +kernel
theorem w_running : about1.status = .running := rfl
theorem w_room : about1.hasRoom e0.platform room_1 = true :=
  launch0.hasRoom_least _ room_1 (by decide +kernel) (by decide +kernel) (by decide +kernel) (by decide +kernel) (by decide +kernel) (by decide +kernel)
theorem allAtoms_all (ts : List Jvm.Cond) (a : Array Jvm.Value) (st : Jvm.State) : (allAtoms ts).before a st = ts.all (fun c => c.before a st) := by
  induction ts with
  | nil => rfl
  | cons c t ih =>
    show (Jvm.Cond.and c (allAtoms t)).before a st = _
    rw [Jvm.Cond.before_and, ih, List.all_cons]
def words1 : List Jvm.Cond := Jvm.Cond.code x code maxLocals ret :: tables_1
theorem code_word {y : MethodName} {bytes : ByteArray} {mx : Nat} {rt : Option FieldType} {a : Array Value} {s : State} {m : MethodId} {meth : Method} {c : Code} (h1 : s.methodNamed? y = some m) (h2 : s.vm.method? m = some meth) (h3 : meth.code = some c) (h4 : c.code = bytes)
    (h5 : (c.maxLocals == mx && c.exceptionTable.isEmpty && decide (c.maxStack ≤ mostOperands) && decide (meth.sig.returnType = rt) && !meth.locks && decide (parseMethodDescriptor y.desc = some meth.sig)) = true) : (Jvm.Cond.code y bytes mx rt).before a s = true := by
  simp only [Bool.and_eq_true, beq_iff_eq, Bool.not_eq_true', decide_eq_true_eq] at h5
  obtain ⟨⟨⟨⟨⟨g1, g2⟩, g3⟩, g4⟩, g5⟩, g6⟩ := h5
  simp [Cond.before, Cond.holds, Cond.value, h1, h2, h3, h4, g1, g2, g3, g4, g5, g6]
def isCode : Jvm.Cond → Bool
  | .code _ _ _ _ => true
  | _ => false
theorem all_split {L : List Jvm.Cond} {P : Jvm.Cond → Bool} (h1 : L.all (fun c => isCode c || P c) = true) (h2 : ∀ c ∈ L.filter isCode, P c = true) : L.all P = true := by
  refine List.all_eq_true.mpr fun c hc => ?_
  have h := List.all_eq_true.mp h1 c hc
  rcases Bool.eq_false_or_eq_true (isCode c) with hi | hi
  · exact h2 c (List.mem_filter.mpr ⟨hc, hi⟩)
  · simpa [hi] using h
theorem w_c0 : (Jvm.Cond.code x code maxLocals ret).before args0 about1 = true := code_word (m := ⟨1, 7⟩) (meth := k1m7) (c := k1c7) (by decide +kernel) rfl rfl rfl (by decide +kernel)
theorem w_c1 : (Jvm.Cond.code ({ cls := "com/example/engarce/engarce/NameListSplitPinLaw", name := "pick", desc := "(I)C" } : Jvm.MethodName) method_2_code (2 : Nat) (Option.some Jvm.ClassFile.FieldType.char)).before args0 about1 = true := code_word (m := ⟨1, 1⟩) (meth := k1m1) (c := k1c1) (by decide +kernel) rfl rfl rfl (by decide +kernel)
theorem w_c2 : (Jvm.Cond.code ({ cls := "java/lang/String", name := "<init>", desc := "([C)V" } : Jvm.MethodName) jdk_42_method_3_code (2 : Nat) (Option.none : Option Jvm.ClassFile.FieldType)).before args0 about1 = true := code_word (m := ⟨7, 1⟩) (meth := k7m1) (c := k7c1) (by decide +kernel) rfl rfl rfl (by decide +kernel)
theorem w_c3 : (Jvm.Cond.code ({ cls := "java/lang/String", name := "<init>", desc := "([CIILjava/lang/Void;)V" } : Jvm.MethodName) jdk_42_method_149_code (6 : Nat) (Option.none : Option Jvm.ClassFile.FieldType)).before args0 about1 = true := code_word (m := ⟨7, 7⟩) (meth := k7m7) (c := k7c7) (by decide +kernel) rfl rfl rfl (by decide +kernel)
theorem w_c4 : (Jvm.Cond.code ({ cls := "java/lang/Object", name := "<init>", desc := "()V" } : Jvm.MethodName) object_method_1_code (1 : Nat) (Option.none : Option Jvm.ClassFile.FieldType)).before args0 about1 = true := code_word (m := ⟨0, 0⟩) (meth := k0m0) (c := k0c0) (by decide +kernel) rfl rfl rfl (by decide +kernel)
theorem w_c5 : (Jvm.Cond.code ({ cls := "com/example/engarce/engarce/NameList", name := "split", desc := "(Ljava/lang/String;)Ljava/util/List;" } : Jvm.MethodName) prog_12_method_2_code (1 : Nat) (Option.some (Jvm.ClassFile.FieldType.object "java/util/List"))).before args0 about1 = true := code_word (m := ⟨8, 1⟩) (meth := k8m1) (c := k8c1) (by decide +kernel) rfl rfl rfl (by decide +kernel)
theorem w_c6 : (Jvm.Cond.code ({ cls := "java/lang/String", name := "isEmpty", desc := "()Z" } : Jvm.MethodName) jdk_42_method_55_code (1 : Nat) (Option.some Jvm.ClassFile.FieldType.boolean)).before args0 about1 = true := code_word (m := ⟨7, 3⟩) (meth := k7m3) (c := k7c3) (by decide +kernel) rfl rfl rfl (by decide +kernel)
theorem w_c7 : (Jvm.Cond.code ({ cls := "java/util/List", name := "of", desc := "()Ljava/util/List;" } : Jvm.MethodName) jdk_40_method_36_code (0 : Nat) (Option.some (Jvm.ClassFile.FieldType.object "java/util/List"))).before args0 about1 = true := code_word (m := ⟨12, 3⟩) (meth := k12m3) (c := k12c3) (by decide +kernel) rfl rfl rfl (by decide +kernel)
theorem w_c8 : (Jvm.Cond.code ({ cls := "com/example/engarce/engarce/NameListSplitPinLaw", name := "step", desc := "(Ljava/util/List;[CII[I)V" } : Jvm.MethodName) method_7_code (7 : Nat) (Option.none : Option Jvm.ClassFile.FieldType)).before args0 about1 = true := code_word (m := ⟨1, 6⟩) (meth := k1m6) (c := k1c6) (by decide +kernel) rfl rfl rfl (by decide +kernel)
theorem w_c9 : (Jvm.Cond.code ({ cls := "com/example/engarce/engarce/NameListSplitPinLaw", name := "firstKeep", desc := "([CII)I" } : Jvm.MethodName) method_4_code (3 : Nat) (Option.some Jvm.ClassFile.FieldType.int)).before args0 about1 = true := code_word (m := ⟨1, 3⟩) (meth := k1m3) (c := k1c3) (by decide +kernel) rfl rfl rfl (by decide +kernel)
theorem w_c10 : (Jvm.Cond.code ({ cls := "com/example/engarce/engarce/NameListSplitPinLaw", name := "lastKeep", desc := "([CII)I" } : Jvm.MethodName) method_5_code (3 : Nat) (Option.some Jvm.ClassFile.FieldType.int)).before args0 about1 = true := code_word (m := ⟨1, 4⟩) (meth := k1m4) (c := k1c4) (by decide +kernel) rfl rfl rfl (by decide +kernel)
theorem w_c11 : (Jvm.Cond.code ({ cls := "java/util/ImmutableCollections$ListN", name := "size", desc := "()I" } : Jvm.MethodName) jdk_45_method_3_code (1 : Nat) (Option.some Jvm.ClassFile.FieldType.int)).before args0 about1 = true := code_word (m := ⟨18, 0⟩) (meth := k18m0) (c := k18c0) (by decide +kernel) rfl rfl rfl (by decide +kernel)
theorem w_c12 : (Jvm.Cond.code ({ cls := "java/lang/StringUTF16", name := "compress", desc := "([CII)[B" } : Jvm.MethodName) jdk_52_method_16_code (6 : Nat) (Option.some (Jvm.ClassFile.FieldType.array Jvm.ClassFile.FieldType.byte))).before args0 about1 = true := code_word (m := ⟨19, 8⟩) (meth := k19m8) (c := k19c8) (by decide +kernel) rfl rfl rfl (by decide +kernel)
theorem w_c13 : (Jvm.Cond.code ({ cls := "java/lang/StringUTF16", name := "compress", desc := "([CI[BII)I" } : Jvm.MethodName) jdk_52_method_21_code (7 : Nat) (Option.some Jvm.ClassFile.FieldType.int)).before args0 about1 = true := code_word (m := ⟨19, 10⟩) (meth := k19m10) (c := k19c10) (by decide +kernel) rfl rfl rfl (by decide +kernel)
theorem w_c14 : (Jvm.Cond.code ({ cls := "java/lang/StringUTF16", name := "toBytes", desc := "([CII)[B" } : Jvm.MethodName) jdk_52_method_14_code (5 : Nat) (Option.some (Jvm.ClassFile.FieldType.array Jvm.ClassFile.FieldType.byte))).before args0 about1 = true := code_word (m := ⟨19, 6⟩) (meth := k19m6) (c := k19c6) (by decide +kernel) rfl rfl rfl (by decide +kernel)
theorem w_c15 : (Jvm.Cond.code ({ cls := "java/lang/StringUTF16", name := "newBytesFor", desc := "(I)[B" } : Jvm.MethodName) jdk_52_method_2_code (1 : Nat) (Option.some (Jvm.ClassFile.FieldType.array Jvm.ClassFile.FieldType.byte))).before args0 about1 = true := code_word (m := ⟨19, 1⟩) (meth := k19m1) (c := k19c1) (by decide +kernel) rfl rfl rfl (by decide +kernel)
theorem w_c16 : (Jvm.Cond.code ({ cls := "java/lang/StringUTF16", name := "newBytesLength", desc := "(I)I" } : Jvm.MethodName) jdk_52_method_3_code (1 : Nat) (Option.some Jvm.ClassFile.FieldType.int)).before args0 about1 = true := code_word (m := ⟨19, 2⟩) (meth := k19m2) (c := k19c2) (by decide +kernel) rfl rfl rfl (by decide +kernel)
theorem w_c17 : (Jvm.Cond.code ({ cls := "java/lang/StringUTF16", name := "putChar", desc := "([BII)V" } : Jvm.MethodName) jdk_52_method_4_code (3 : Nat) (Option.none : Option Jvm.ClassFile.FieldType)).before args0 about1 = true := code_word (m := ⟨19, 3⟩) (meth := k19m3) (c := k19c3) (by decide +kernel) rfl rfl rfl (by decide +kernel)
theorem w_c18 : (Jvm.Cond.code ({ cls := "java/lang/StringUTF16", name := "getChar", desc := "([BI)C" } : Jvm.MethodName) jdk_52_method_5_code (2 : Nat) (Option.some Jvm.ClassFile.FieldType.char)).before args0 about1 = true := code_word (m := ⟨19, 4⟩) (meth := k19m4) (c := k19c4) (by decide +kernel) rfl rfl rfl (by decide +kernel)
theorem w_c19 : (Jvm.Cond.code ({ cls := "java/lang/StringUTF16", name := "coderFromArrayLen", desc := "([BI)B" } : Jvm.MethodName) jdk_52_method_15_code (2 : Nat) (Option.some Jvm.ClassFile.FieldType.byte)).before args0 about1 = true := code_word (m := ⟨19, 7⟩) (meth := k19m7) (c := k19c7) (by decide +kernel) rfl rfl rfl (by decide +kernel)
theorem w_c20 : (Jvm.Cond.code ({ cls := "com/example/engarce/engarce/NameList", name := "names", desc := "(Ljava/lang/String;)Ljava/util/List;" } : Jvm.MethodName) prog_12_method_3_code (5 : Nat) (Option.some (Jvm.ClassFile.FieldType.object "java/util/List"))).before args0 about1 = true := code_word (m := ⟨8, 2⟩) (meth := k8m2) (c := k8c2) (by decide +kernel) rfl rfl rfl (by decide +kernel)
theorem w_c21 : (Jvm.Cond.code ({ cls := "java/util/ArrayList", name := "<init>", desc := "()V" } : Jvm.MethodName) jdk_38_method_2_code (1 : Nat) (Option.none : Option Jvm.ClassFile.FieldType)).before args0 about1 = true := code_word (m := ⟨22, 0⟩) (meth := k22m0) (c := k22c0) (by decide +kernel) rfl rfl rfl (by decide +kernel)
theorem w_c22 : (Jvm.Cond.code ({ cls := "java/util/AbstractList", name := "<init>", desc := "()V" } : Jvm.MethodName) jdk_39_method_1_code (1 : Nat) (Option.none : Option Jvm.ClassFile.FieldType)).before args0 about1 = true := code_word (m := ⟨20, 0⟩) (meth := k20m0) (c := k20c0) (by decide +kernel) rfl rfl rfl (by decide +kernel)
theorem w_c23 : (Jvm.Cond.code ({ cls := "java/util/AbstractCollection", name := "<init>", desc := "()V" } : Jvm.MethodName) jdk_22_method_1_code (1 : Nat) (Option.none : Option Jvm.ClassFile.FieldType)).before args0 about1 = true := code_word (m := ⟨14, 0⟩) (meth := k14m0) (c := k14c0) (by decide +kernel) rfl rfl rfl (by decide +kernel)
theorem w_c24 : (Jvm.Cond.code ({ cls := "java/lang/String", name := "length", desc := "()I" } : Jvm.MethodName) jdk_42_method_54_code (1 : Nat) (Option.some Jvm.ClassFile.FieldType.int)).before args0 about1 = true := code_word (m := ⟨7, 2⟩) (meth := k7m2) (c := k7c2) (by decide +kernel) rfl rfl rfl (by decide +kernel)
theorem w_c25 : (Jvm.Cond.code ({ cls := "java/lang/String", name := "coder", desc := "()B" } : Jvm.MethodName) jdk_42_method_152_code (1 : Nat) (Option.some Jvm.ClassFile.FieldType.byte)).before args0 about1 = true := code_word (m := ⟨7, 9⟩) (meth := k7m9) (c := k7c9) (by decide +kernel) rfl rfl rfl (by decide +kernel)
theorem w_c26 : (Jvm.Cond.code ({ cls := "java/lang/String", name := "charAt", desc := "(I)C" } : Jvm.MethodName) jdk_42_method_56_code (2 : Nat) (Option.some Jvm.ClassFile.FieldType.char)).before args0 about1 = true := code_word (m := ⟨7, 4⟩) (meth := k7m4) (c := k7c4) (by decide +kernel) rfl rfl rfl (by decide +kernel)
theorem w_c27 : (Jvm.Cond.code ({ cls := "java/lang/String", name := "isLatin1", desc := "()Z" } : Jvm.MethodName) jdk_42_method_154_code (1 : Nat) (Option.some Jvm.ClassFile.FieldType.boolean)).before args0 about1 = true := code_word (m := ⟨7, 10⟩) (meth := k7m10) (c := k7c10) (by decide +kernel) rfl rfl rfl (by decide +kernel)
theorem w_c28 : (Jvm.Cond.code ({ cls := "java/lang/StringUTF16", name := "charAt", desc := "([BI)C" } : Jvm.MethodName) jdk_52_method_83_code (2 : Nat) (Option.some Jvm.ClassFile.FieldType.char)).before args0 about1 = true := code_word (m := ⟨19, 14⟩) (meth := k19m14) (c := k19c14) (by decide +kernel) rfl rfl rfl (by decide +kernel)
theorem w_c29 : (Jvm.Cond.code ({ cls := "java/lang/StringUTF16", name := "checkIndex", desc := "(I[B)V" } : Jvm.MethodName) jdk_52_method_91_code (2 : Nat) (Option.none : Option Jvm.ClassFile.FieldType)).before args0 about1 = true := code_word (m := ⟨19, 15⟩) (meth := k19m15) (c := k19c15) (by decide +kernel) rfl rfl rfl (by decide +kernel)
theorem w_c30 : (Jvm.Cond.code ({ cls := "java/lang/StringUTF16", name := "length", desc := "([B)I" } : Jvm.MethodName) jdk_52_method_6_code (1 : Nat) (Option.some Jvm.ClassFile.FieldType.int)).before args0 about1 = true := code_word (m := ⟨19, 5⟩) (meth := k19m5) (c := k19c5) (by decide +kernel) rfl rfl rfl (by decide +kernel)
theorem w_c31 : (Jvm.Cond.code ({ cls := "java/lang/String", name := "checkIndex", desc := "(II)V" } : Jvm.MethodName) jdk_42_method_155_code (2 : Nat) (Option.none : Option Jvm.ClassFile.FieldType)).before args0 about1 = true := code_word (m := ⟨7, 11⟩) (meth := k7m11) (c := k7c11) (by decide +kernel) rfl rfl rfl (by decide +kernel)
theorem w_c32 : (Jvm.Cond.code ({ cls := "jdk/internal/util/Preconditions", name := "checkIndex", desc := "(IILjava/util/function/BiFunction;)I" } : Jvm.MethodName) jdk_41_method_11_code (3 : Nat) (Option.some Jvm.ClassFile.FieldType.int)).before args0 about1 = true := code_word (m := ⟨23, 1⟩) (meth := k23m1) (c := k23c1) (by decide +kernel) rfl rfl rfl (by decide +kernel)
theorem w_c33 : (Jvm.Cond.code ({ cls := "com/example/engarce/engarce/NameList", name := "isSeparator", desc := "(C)Z" } : Jvm.MethodName) prog_12_method_4_code (1 : Nat) (Option.some Jvm.ClassFile.FieldType.boolean)).before args0 about1 = true := code_word (m := ⟨8, 3⟩) (meth := k8m3) (c := k8c3) (by decide +kernel) rfl rfl rfl (by decide +kernel)
theorem w_c34 : (Jvm.Cond.code ({ cls := "java/lang/String", name := "substring", desc := "(II)Ljava/lang/String;" } : Jvm.MethodName) jdk_42_method_92_code (5 : Nat) (Option.some (Jvm.ClassFile.FieldType.object "java/lang/String"))).before args0 about1 = true := code_word (m := ⟨7, 5⟩) (meth := k7m5) (c := k7c5) (by decide +kernel) rfl rfl rfl (by decide +kernel)
theorem w_c35 : (Jvm.Cond.code ({ cls := "java/lang/String", name := "checkBoundsBeginEnd", desc := "(III)V" } : Jvm.MethodName) jdk_42_method_158_code (3 : Nat) (Option.none : Option Jvm.ClassFile.FieldType)).before args0 about1 = true := code_word (m := ⟨7, 13⟩) (meth := k7m13) (c := k7c13) (by decide +kernel) rfl rfl rfl (by decide +kernel)
theorem w_c36 : (Jvm.Cond.code ({ cls := "jdk/internal/util/Preconditions", name := "checkFromToIndex", desc := "(IIILjava/util/function/BiFunction;)I" } : Jvm.MethodName) jdk_41_method_12_code (4 : Nat) (Option.some Jvm.ClassFile.FieldType.int)).before args0 about1 = true := code_word (m := ⟨23, 2⟩) (meth := k23m2) (c := k23c2) (by decide +kernel) rfl rfl rfl (by decide +kernel)
theorem w_c37 : (Jvm.Cond.code ({ cls := "java/lang/String", name := "trim", desc := "()Ljava/lang/String;" } : Jvm.MethodName) jdk_42_method_113_code (2 : Nat) (Option.some (Jvm.ClassFile.FieldType.object "java/lang/String"))).before args0 about1 = true := code_word (m := ⟨7, 6⟩) (meth := k7m6) (c := k7c6) (by decide +kernel) rfl rfl rfl (by decide +kernel)
theorem w_c38 : (Jvm.Cond.code ({ cls := "java/lang/StringUTF16", name := "trim", desc := "([B)Ljava/lang/String;" } : Jvm.MethodName) jdk_52_method_61_code (4 : Nat) (Option.some (Jvm.ClassFile.FieldType.object "java/lang/String"))).before args0 about1 = true := code_word (m := ⟨19, 12⟩) (meth := k19m12) (c := k19c12) (by decide +kernel) rfl rfl rfl (by decide +kernel)
theorem w_c39 : (Jvm.Cond.code ({ cls := "java/util/Arrays", name := "copyOfRange", desc := "([BII)[B" } : Jvm.MethodName) jdk_65_method_132_code (3 : Nat) (Option.some (Jvm.ClassFile.FieldType.array Jvm.ClassFile.FieldType.byte))).before args0 about1 = true := code_word (m := ⟨24, 4⟩) (meth := k24m4) (c := k24c4) (by decide +kernel) rfl rfl rfl (by decide +kernel)
theorem w_c40 : (Jvm.Cond.code ({ cls := "java/util/Arrays", name := "copyOfRangeByte", desc := "([BII)[B" } : Jvm.MethodName) jdk_65_method_133_code (5 : Nat) (Option.some (Jvm.ClassFile.FieldType.array Jvm.ClassFile.FieldType.byte))).before args0 about1 = true := code_word (m := ⟨24, 5⟩) (meth := k24m5) (c := k24c5) (by decide +kernel) rfl rfl rfl (by decide +kernel)
theorem w_c41 : (Jvm.Cond.code ({ cls := "java/util/Arrays", name := "checkLength", desc := "(II)V" } : Jvm.MethodName) jdk_65_method_131_code (2 : Nat) (Option.none : Option Jvm.ClassFile.FieldType)).before args0 about1 = true := code_word (m := ⟨24, 3⟩) (meth := k24m3) (c := k24c3) (by decide +kernel) rfl rfl rfl (by decide +kernel)
theorem w_c42 : (Jvm.Cond.code ({ cls := "java/lang/Math", name := "min", desc := "(II)I" } : Jvm.MethodName) jdk_29_method_69_code (2 : Nat) (Option.some Jvm.ClassFile.FieldType.int)).before args0 about1 = true := code_word (m := ⟨25, 2⟩) (meth := k25m2) (c := k25c2) (by decide +kernel) rfl rfl rfl (by decide +kernel)
theorem w_c43 : (Jvm.Cond.code ({ cls := "java/lang/String", name := "<init>", desc := "([BB)V" } : Jvm.MethodName) jdk_42_method_151_code (3 : Nat) (Option.none : Option Jvm.ClassFile.FieldType)).before args0 about1 = true := code_word (m := ⟨7, 8⟩) (meth := k7m8) (c := k7c8) (by decide +kernel) rfl rfl rfl (by decide +kernel)
theorem w_c44 : (Jvm.Cond.code ({ cls := "java/util/ArrayList", name := "add", desc := "(Ljava/lang/Object;)Z" } : Jvm.MethodName) jdk_38_method_25_code (2 : Nat) (Option.some Jvm.ClassFile.FieldType.boolean)).before args0 about1 = true := code_word (m := ⟨22, 6⟩) (meth := k22m6) (c := k22c6) (by decide +kernel) rfl rfl rfl (by decide +kernel)
theorem w_c45 : (Jvm.Cond.code ({ cls := "java/util/ArrayList", name := "add", desc := "(Ljava/lang/Object;[Ljava/lang/Object;I)V" } : Jvm.MethodName) jdk_38_method_24_code (4 : Nat) (Option.none : Option Jvm.ClassFile.FieldType)).before args0 about1 = true := code_word (m := ⟨22, 5⟩) (meth := k22m5) (c := k22c5) (by decide +kernel) rfl rfl rfl (by decide +kernel)
theorem w_c46 : (Jvm.Cond.code ({ cls := "java/util/ArrayList", name := "grow", desc := "()[Ljava/lang/Object;" } : Jvm.MethodName) jdk_38_method_7_code (1 : Nat) (Option.some (Jvm.ClassFile.FieldType.array (Jvm.ClassFile.FieldType.object "java/lang/Object")))).before args0 about1 = true := code_word (m := ⟨22, 2⟩) (meth := k22m2) (c := k22c2) (by decide +kernel) rfl rfl rfl (by decide +kernel)
theorem w_c47 : (Jvm.Cond.code ({ cls := "java/util/ArrayList", name := "grow", desc := "(I)[Ljava/lang/Object;" } : Jvm.MethodName) jdk_38_method_6_code (4 : Nat) (Option.some (Jvm.ClassFile.FieldType.array (Jvm.ClassFile.FieldType.object "java/lang/Object")))).before args0 about1 = true := code_word (m := ⟨22, 1⟩) (meth := k22m1) (c := k22c1) (by decide +kernel) rfl rfl rfl (by decide +kernel)
theorem w_c48 : (Jvm.Cond.code ({ cls := "java/lang/Math", name := "max", desc := "(II)I" } : Jvm.MethodName) jdk_29_method_65_code (2 : Nat) (Option.some Jvm.ClassFile.FieldType.int)).before args0 about1 = true := code_word (m := ⟨25, 1⟩) (meth := k25m1) (c := k25c1) (by decide +kernel) rfl rfl rfl (by decide +kernel)
theorem w_c49 : (Jvm.Cond.code ({ cls := "java/util/List", name := "copyOf", desc := "(Ljava/util/Collection;)Ljava/util/List;" } : Jvm.MethodName) jdk_40_method_48_code (1 : Nat) (Option.some (Jvm.ClassFile.FieldType.object "java/util/List"))).before args0 about1 = true := code_word (m := ⟨12, 5⟩) (meth := k12m5) (c := k12c5) (by decide +kernel) rfl rfl rfl (by decide +kernel)
theorem w_c50 : (Jvm.Cond.code ({ cls := "java/util/ImmutableCollections", name := "listCopy", desc := "(Ljava/util/Collection;)Ljava/util/List;" } : Jvm.MethodName) jdk_56_method_3_code (2 : Nat) (Option.some (Jvm.ClassFile.FieldType.object "java/util/List"))).before args0 about1 = true := code_word (m := ⟨13, 1⟩) (meth := k13m1) (c := k13c1) (by decide +kernel) rfl rfl rfl (by decide +kernel)
theorem w_c51 : (Jvm.Cond.code ({ cls := "java/util/ArrayList", name := "isEmpty", desc := "()Z" } : Jvm.MethodName) jdk_38_method_9_code (1 : Nat) (Option.some Jvm.ClassFile.FieldType.boolean)).before args0 about1 = true := code_word (m := ⟨22, 3⟩) (meth := k22m3) (c := k22c3) (by decide +kernel) rfl rfl rfl (by decide +kernel)
theorem w_c52 : (Jvm.Cond.code ({ cls := "java/util/ArrayList", name := "toArray", desc := "()[Ljava/lang/Object;" } : Jvm.MethodName) jdk_38_method_16_code (1 : Nat) (Option.some (Jvm.ClassFile.FieldType.array (Jvm.ClassFile.FieldType.object "java/lang/Object")))).before args0 about1 = true := code_word (m := ⟨22, 4⟩) (meth := k22m4) (c := k22c4) (by decide +kernel) rfl rfl rfl (by decide +kernel)
theorem w_c53 : (Jvm.Cond.code ({ cls := "java/util/Arrays", name := "copyOf", desc := "([Ljava/lang/Object;I)[Ljava/lang/Object;" } : Jvm.MethodName) jdk_65_method_119_code (2 : Nat) (Option.some (Jvm.ClassFile.FieldType.array (Jvm.ClassFile.FieldType.object "java/lang/Object")))).before args0 about1 = true := code_word (m := ⟨24, 1⟩) (meth := k24m1) (c := k24c1) (by decide +kernel) rfl rfl rfl (by decide +kernel)
theorem w_c54 : (Jvm.Cond.code ({ cls := "java/util/Arrays", name := "copyOf", desc := "([Ljava/lang/Object;ILjava/lang/Class;)[Ljava/lang/Object;" } : Jvm.MethodName) jdk_65_method_120_code (4 : Nat) (Option.some (Jvm.ClassFile.FieldType.array (Jvm.ClassFile.FieldType.object "java/lang/Object")))).before args0 about1 = true := code_word (m := ⟨24, 2⟩) (meth := k24m2) (c := k24c2) (by decide +kernel) rfl rfl rfl (by decide +kernel)
theorem w_c55 : (Jvm.Cond.code ({ cls := "java/util/List", name := "of", desc := "([Ljava/lang/Object;)Ljava/util/List;" } : Jvm.MethodName) jdk_40_method_47_code (2 : Nat) (Option.some (Jvm.ClassFile.FieldType.object "java/util/List"))).before args0 about1 = true := code_word (m := ⟨12, 4⟩) (meth := k12m4) (c := k12c4) (by decide +kernel) rfl rfl rfl (by decide +kernel)
theorem w_c56 : (Jvm.Cond.code ({ cls := "java/util/ImmutableCollections$List12", name := "<init>", desc := "(Ljava/lang/Object;)V" } : Jvm.MethodName) jdk_44_method_1_code (2 : Nat) (Option.none : Option Jvm.ClassFile.FieldType)).before args0 about1 = true := code_word (m := ⟨27, 0⟩) (meth := k27m0) (c := k27c0) (by decide +kernel) rfl rfl rfl (by decide +kernel)
theorem w_c57 : (Jvm.Cond.code ({ cls := "java/util/ImmutableCollections$AbstractImmutableList", name := "<init>", desc := "()V" } : Jvm.MethodName) jdk_46_method_1_code (1 : Nat) (Option.none : Option Jvm.ClassFile.FieldType)).before args0 about1 = true := code_word (m := ⟨17, 0⟩) (meth := k17m0) (c := k17c0) (by decide +kernel) rfl rfl rfl (by decide +kernel)
theorem w_c58 : (Jvm.Cond.code ({ cls := "java/util/ImmutableCollections$AbstractImmutableCollection", name := "<init>", desc := "()V" } : Jvm.MethodName) jdk_47_method_1_code (1 : Nat) (Option.none : Option Jvm.ClassFile.FieldType)).before args0 about1 = true := code_word (m := ⟨15, 0⟩) (meth := k15m0) (c := k15c0) (by decide +kernel) rfl rfl rfl (by decide +kernel)
theorem w_c59 : (Jvm.Cond.code ({ cls := "java/util/Objects", name := "requireNonNull", desc := "(Ljava/lang/Object;)Ljava/lang/Object;" } : Jvm.MethodName) jdk_31_method_10_code (1 : Nat) (Option.some (Jvm.ClassFile.FieldType.object "java/lang/Object"))).before args0 about1 = true := code_word (m := ⟨28, 1⟩) (meth := k28m1) (c := k28c1) (by decide +kernel) rfl rfl rfl (by decide +kernel)
theorem w_c60 : (Jvm.Cond.code ({ cls := "com/example/engarce/engarce/NameListSplitPinLaw", name := "isSep", desc := "(C)Z" } : Jvm.MethodName) method_3_code (1 : Nat) (Option.some Jvm.ClassFile.FieldType.boolean)).before args0 about1 = true := code_word (m := ⟨1, 2⟩) (meth := k1m2) (c := k1c2) (by decide +kernel) rfl rfl rfl (by decide +kernel)
theorem w_c61 : (Jvm.Cond.code ({ cls := "java/util/ImmutableCollections$List12", name := "size", desc := "()I" } : Jvm.MethodName) jdk_44_method_3_code (1 : Nat) (Option.some Jvm.ClassFile.FieldType.int)).before args0 about1 = true := code_word (m := ⟨27, 2⟩) (meth := k27m2) (c := k27c2) (by decide +kernel) rfl rfl rfl (by decide +kernel)
theorem w_c62 : (Jvm.Cond.code ({ cls := "java/util/ImmutableCollections$List12", name := "get", desc := "(I)Ljava/lang/Object;" } : Jvm.MethodName) jdk_44_method_5_code (2 : Nat) (Option.some (Jvm.ClassFile.FieldType.object "java/lang/Object"))).before args0 about1 = true := code_word (m := ⟨27, 3⟩) (meth := k27m3) (c := k27c3) (by decide +kernel) rfl rfl rfl (by decide +kernel)
theorem w_c63 : (Jvm.Cond.code ({ cls := "com/example/engarce/engarce/NameListSplitPinLaw", name := "eqSeg", desc := "(Ljava/lang/String;[CII)Z" } : Jvm.MethodName) method_6_code (5 : Nat) (Option.some Jvm.ClassFile.FieldType.boolean)).before args0 about1 = true := code_word (m := ⟨1, 5⟩) (meth := k1m5) (c := k1c5) (by decide +kernel) rfl rfl rfl (by decide +kernel)
theorem w_c64 : (Jvm.Cond.code ({ cls := "java/lang/StringLatin1", name := "charAt", desc := "([BI)C" } : Jvm.MethodName) jdk_43_method_2_code (2 : Nat) (Option.some Jvm.ClassFile.FieldType.char)).before args0 about1 = true := code_word (m := ⟨29, 1⟩) (meth := k29m1) (c := k29c1) (by decide +kernel) rfl rfl rfl (by decide +kernel)
theorem w_c65 : (Jvm.Cond.code ({ cls := "java/lang/StringLatin1", name := "newString", desc := "([BII)Ljava/lang/String;" } : Jvm.MethodName) jdk_43_method_47_code (3 : Nat) (Option.some (Jvm.ClassFile.FieldType.object "java/lang/String"))).before args0 about1 = true := code_word (m := ⟨29, 3⟩) (meth := k29m3) (c := k29c3) (by decide +kernel) rfl rfl rfl (by decide +kernel)
theorem w_c66 : (Jvm.Cond.code ({ cls := "java/lang/StringLatin1", name := "trim", desc := "([B)Ljava/lang/String;" } : Jvm.MethodName) jdk_43_method_36_code (3 : Nat) (Option.some (Jvm.ClassFile.FieldType.object "java/lang/String"))).before args0 about1 = true := code_word (m := ⟨29, 2⟩) (meth := k29m2) (c := k29c2) (by decide +kernel) rfl rfl rfl (by decide +kernel)
theorem w_c67 : (Jvm.Cond.code ({ cls := "java/lang/StringUTF16", name := "newString", desc := "([BII)Ljava/lang/String;" } : Jvm.MethodName) jdk_52_method_69_code (5 : Nat) (Option.some (Jvm.ClassFile.FieldType.object "java/lang/String"))).before args0 about1 = true := code_word (m := ⟨19, 13⟩) (meth := k19m13) (c := k19c13) (by decide +kernel) rfl rfl rfl (by decide +kernel)
theorem w_c68 : (Jvm.Cond.code ({ cls := "java/lang/StringUTF16", name := "compress", desc := "([BII)[B" } : Jvm.MethodName) jdk_52_method_17_code (6 : Nat) (Option.some (Jvm.ClassFile.FieldType.array Jvm.ClassFile.FieldType.byte))).before args0 about1 = true := code_word (m := ⟨19, 9⟩) (meth := k19m9) (c := k19c9) (by decide +kernel) rfl rfl rfl (by decide +kernel)
theorem w_c69 : (Jvm.Cond.code ({ cls := "java/lang/StringUTF16", name := "compress", desc := "([BI[BII)I" } : Jvm.MethodName) jdk_52_method_22_code (7 : Nat) (Option.some Jvm.ClassFile.FieldType.int)).before args0 about1 = true := code_word (m := ⟨19, 11⟩) (meth := k19m11) (c := k19c11) (by decide +kernel) rfl rfl rfl (by decide +kernel)
theorem w_c70 : (Jvm.Cond.code ({ cls := "java/lang/StringUTF16", name := "checkBoundsOffCount", desc := "(II[B)V" } : Jvm.MethodName) jdk_52_method_94_code (3 : Nat) (Option.none : Option Jvm.ClassFile.FieldType)).before args0 about1 = true := code_word (m := ⟨19, 16⟩) (meth := k19m16) (c := k19c16) (by decide +kernel) rfl rfl rfl (by decide +kernel)
theorem w_c71 : (Jvm.Cond.code ({ cls := "java/lang/String", name := "checkBoundsOffCount", desc := "(III)I" } : Jvm.MethodName) jdk_42_method_157_code (3 : Nat) (Option.some Jvm.ClassFile.FieldType.int)).before args0 about1 = true := code_word (m := ⟨7, 12⟩) (meth := k7m12) (c := k7c12) (by decide +kernel) rfl rfl rfl (by decide +kernel)
theorem w_c72 : (Jvm.Cond.code ({ cls := "jdk/internal/util/Preconditions", name := "checkFromIndexSize", desc := "(IIILjava/util/function/BiFunction;)I" } : Jvm.MethodName) jdk_41_method_13_code (4 : Nat) (Option.some Jvm.ClassFile.FieldType.int)).before args0 about1 = true := code_word (m := ⟨23, 3⟩) (meth := k23m3) (c := k23c3) (by decide +kernel) rfl rfl rfl (by decide +kernel)
theorem w_c73 : (Jvm.Cond.code ({ cls := "java/util/ImmutableCollections$List12", name := "<init>", desc := "(Ljava/lang/Object;Ljava/lang/Object;)V" } : Jvm.MethodName) jdk_44_method_2_code (3 : Nat) (Option.none : Option Jvm.ClassFile.FieldType)).before args0 about1 = true := code_word (m := ⟨27, 1⟩) (meth := k27m1) (c := k27c1) (by decide +kernel) rfl rfl rfl (by decide +kernel)
def codes1 : List Jvm.Cond := [Jvm.Cond.code x code maxLocals ret, Jvm.Cond.code ({ cls := "com/example/engarce/engarce/NameListSplitPinLaw", name := "pick", desc := "(I)C" } : Jvm.MethodName) method_2_code (2 : Nat) (Option.some Jvm.ClassFile.FieldType.char), Jvm.Cond.code ({ cls := "java/lang/String", name := "<init>", desc := "([C)V" } : Jvm.MethodName) jdk_42_method_3_code (2 : Nat) (Option.none : Option Jvm.ClassFile.FieldType), Jvm.Cond.code ({ cls := "java/lang/String", name := "<init>", desc := "([CIILjava/lang/Void;)V" } : Jvm.MethodName) jdk_42_method_149_code (6 : Nat) (Option.none : Option Jvm.ClassFile.FieldType), Jvm.Cond.code ({ cls := "java/lang/Object", name := "<init>", desc := "()V" } : Jvm.MethodName) object_method_1_code (1 : Nat) (Option.none : Option Jvm.ClassFile.FieldType), Jvm.Cond.code ({ cls := "com/example/engarce/engarce/NameList", name := "split", desc := "(Ljava/lang/String;)Ljava/util/List;" } : Jvm.MethodName) prog_12_method_2_code (1 : Nat) (Option.some (Jvm.ClassFile.FieldType.object "java/util/List")), Jvm.Cond.code ({ cls := "java/lang/String", name := "isEmpty", desc := "()Z" } : Jvm.MethodName) jdk_42_method_55_code (1 : Nat) (Option.some Jvm.ClassFile.FieldType.boolean), Jvm.Cond.code ({ cls := "java/util/List", name := "of", desc := "()Ljava/util/List;" } : Jvm.MethodName) jdk_40_method_36_code (0 : Nat) (Option.some (Jvm.ClassFile.FieldType.object "java/util/List")), Jvm.Cond.code ({ cls := "com/example/engarce/engarce/NameListSplitPinLaw", name := "step", desc := "(Ljava/util/List;[CII[I)V" } : Jvm.MethodName) method_7_code (7 : Nat) (Option.none : Option Jvm.ClassFile.FieldType), Jvm.Cond.code ({ cls := "com/example/engarce/engarce/NameListSplitPinLaw", name := "firstKeep", desc := "([CII)I" } : Jvm.MethodName) method_4_code (3 : Nat) (Option.some Jvm.ClassFile.FieldType.int), Jvm.Cond.code ({ cls := "com/example/engarce/engarce/NameListSplitPinLaw", name := "lastKeep", desc := "([CII)I" } : Jvm.MethodName) method_5_code (3 : Nat) (Option.some Jvm.ClassFile.FieldType.int), Jvm.Cond.code ({ cls := "java/util/ImmutableCollections$ListN", name := "size", desc := "()I" } : Jvm.MethodName) jdk_45_method_3_code (1 : Nat) (Option.some Jvm.ClassFile.FieldType.int), Jvm.Cond.code ({ cls := "java/lang/StringUTF16", name := "compress", desc := "([CII)[B" } : Jvm.MethodName) jdk_52_method_16_code (6 : Nat) (Option.some (Jvm.ClassFile.FieldType.array Jvm.ClassFile.FieldType.byte)), Jvm.Cond.code ({ cls := "java/lang/StringUTF16", name := "compress", desc := "([CI[BII)I" } : Jvm.MethodName) jdk_52_method_21_code (7 : Nat) (Option.some Jvm.ClassFile.FieldType.int), Jvm.Cond.code ({ cls := "java/lang/StringUTF16", name := "toBytes", desc := "([CII)[B" } : Jvm.MethodName) jdk_52_method_14_code (5 : Nat) (Option.some (Jvm.ClassFile.FieldType.array Jvm.ClassFile.FieldType.byte)), Jvm.Cond.code ({ cls := "java/lang/StringUTF16", name := "newBytesFor", desc := "(I)[B" } : Jvm.MethodName) jdk_52_method_2_code (1 : Nat) (Option.some (Jvm.ClassFile.FieldType.array Jvm.ClassFile.FieldType.byte)), Jvm.Cond.code ({ cls := "java/lang/StringUTF16", name := "newBytesLength", desc := "(I)I" } : Jvm.MethodName) jdk_52_method_3_code (1 : Nat) (Option.some Jvm.ClassFile.FieldType.int), Jvm.Cond.code ({ cls := "java/lang/StringUTF16", name := "putChar", desc := "([BII)V" } : Jvm.MethodName) jdk_52_method_4_code (3 : Nat) (Option.none : Option Jvm.ClassFile.FieldType), Jvm.Cond.code ({ cls := "java/lang/StringUTF16", name := "getChar", desc := "([BI)C" } : Jvm.MethodName) jdk_52_method_5_code (2 : Nat) (Option.some Jvm.ClassFile.FieldType.char), Jvm.Cond.code ({ cls := "java/lang/StringUTF16", name := "coderFromArrayLen", desc := "([BI)B" } : Jvm.MethodName) jdk_52_method_15_code (2 : Nat) (Option.some Jvm.ClassFile.FieldType.byte), Jvm.Cond.code ({ cls := "com/example/engarce/engarce/NameList", name := "names", desc := "(Ljava/lang/String;)Ljava/util/List;" } : Jvm.MethodName) prog_12_method_3_code (5 : Nat) (Option.some (Jvm.ClassFile.FieldType.object "java/util/List")), Jvm.Cond.code ({ cls := "java/util/ArrayList", name := "<init>", desc := "()V" } : Jvm.MethodName) jdk_38_method_2_code (1 : Nat) (Option.none : Option Jvm.ClassFile.FieldType), Jvm.Cond.code ({ cls := "java/util/AbstractList", name := "<init>", desc := "()V" } : Jvm.MethodName) jdk_39_method_1_code (1 : Nat) (Option.none : Option Jvm.ClassFile.FieldType), Jvm.Cond.code ({ cls := "java/util/AbstractCollection", name := "<init>", desc := "()V" } : Jvm.MethodName) jdk_22_method_1_code (1 : Nat) (Option.none : Option Jvm.ClassFile.FieldType), Jvm.Cond.code ({ cls := "java/lang/String", name := "length", desc := "()I" } : Jvm.MethodName) jdk_42_method_54_code (1 : Nat) (Option.some Jvm.ClassFile.FieldType.int), Jvm.Cond.code ({ cls := "java/lang/String", name := "coder", desc := "()B" } : Jvm.MethodName) jdk_42_method_152_code (1 : Nat) (Option.some Jvm.ClassFile.FieldType.byte), Jvm.Cond.code ({ cls := "java/lang/String", name := "charAt", desc := "(I)C" } : Jvm.MethodName) jdk_42_method_56_code (2 : Nat) (Option.some Jvm.ClassFile.FieldType.char), Jvm.Cond.code ({ cls := "java/lang/String", name := "isLatin1", desc := "()Z" } : Jvm.MethodName) jdk_42_method_154_code (1 : Nat) (Option.some Jvm.ClassFile.FieldType.boolean), Jvm.Cond.code ({ cls := "java/lang/StringUTF16", name := "charAt", desc := "([BI)C" } : Jvm.MethodName) jdk_52_method_83_code (2 : Nat) (Option.some Jvm.ClassFile.FieldType.char), Jvm.Cond.code ({ cls := "java/lang/StringUTF16", name := "checkIndex", desc := "(I[B)V" } : Jvm.MethodName) jdk_52_method_91_code (2 : Nat) (Option.none : Option Jvm.ClassFile.FieldType), Jvm.Cond.code ({ cls := "java/lang/StringUTF16", name := "length", desc := "([B)I" } : Jvm.MethodName) jdk_52_method_6_code (1 : Nat) (Option.some Jvm.ClassFile.FieldType.int), Jvm.Cond.code ({ cls := "java/lang/String", name := "checkIndex", desc := "(II)V" } : Jvm.MethodName) jdk_42_method_155_code (2 : Nat) (Option.none : Option Jvm.ClassFile.FieldType), Jvm.Cond.code ({ cls := "jdk/internal/util/Preconditions", name := "checkIndex", desc := "(IILjava/util/function/BiFunction;)I" } : Jvm.MethodName) jdk_41_method_11_code (3 : Nat) (Option.some Jvm.ClassFile.FieldType.int), Jvm.Cond.code ({ cls := "com/example/engarce/engarce/NameList", name := "isSeparator", desc := "(C)Z" } : Jvm.MethodName) prog_12_method_4_code (1 : Nat) (Option.some Jvm.ClassFile.FieldType.boolean), Jvm.Cond.code ({ cls := "java/lang/String", name := "substring", desc := "(II)Ljava/lang/String;" } : Jvm.MethodName) jdk_42_method_92_code (5 : Nat) (Option.some (Jvm.ClassFile.FieldType.object "java/lang/String")), Jvm.Cond.code ({ cls := "java/lang/String", name := "checkBoundsBeginEnd", desc := "(III)V" } : Jvm.MethodName) jdk_42_method_158_code (3 : Nat) (Option.none : Option Jvm.ClassFile.FieldType), Jvm.Cond.code ({ cls := "jdk/internal/util/Preconditions", name := "checkFromToIndex", desc := "(IIILjava/util/function/BiFunction;)I" } : Jvm.MethodName) jdk_41_method_12_code (4 : Nat) (Option.some Jvm.ClassFile.FieldType.int), Jvm.Cond.code ({ cls := "java/lang/String", name := "trim", desc := "()Ljava/lang/String;" } : Jvm.MethodName) jdk_42_method_113_code (2 : Nat) (Option.some (Jvm.ClassFile.FieldType.object "java/lang/String")), Jvm.Cond.code ({ cls := "java/lang/StringUTF16", name := "trim", desc := "([B)Ljava/lang/String;" } : Jvm.MethodName) jdk_52_method_61_code (4 : Nat) (Option.some (Jvm.ClassFile.FieldType.object "java/lang/String")), Jvm.Cond.code ({ cls := "java/util/Arrays", name := "copyOfRange", desc := "([BII)[B" } : Jvm.MethodName) jdk_65_method_132_code (3 : Nat) (Option.some (Jvm.ClassFile.FieldType.array Jvm.ClassFile.FieldType.byte)), Jvm.Cond.code ({ cls := "java/util/Arrays", name := "copyOfRangeByte", desc := "([BII)[B" } : Jvm.MethodName) jdk_65_method_133_code (5 : Nat) (Option.some (Jvm.ClassFile.FieldType.array Jvm.ClassFile.FieldType.byte)), Jvm.Cond.code ({ cls := "java/util/Arrays", name := "checkLength", desc := "(II)V" } : Jvm.MethodName) jdk_65_method_131_code (2 : Nat) (Option.none : Option Jvm.ClassFile.FieldType), Jvm.Cond.code ({ cls := "java/lang/Math", name := "min", desc := "(II)I" } : Jvm.MethodName) jdk_29_method_69_code (2 : Nat) (Option.some Jvm.ClassFile.FieldType.int), Jvm.Cond.code ({ cls := "java/lang/String", name := "<init>", desc := "([BB)V" } : Jvm.MethodName) jdk_42_method_151_code (3 : Nat) (Option.none : Option Jvm.ClassFile.FieldType), Jvm.Cond.code ({ cls := "java/util/ArrayList", name := "add", desc := "(Ljava/lang/Object;)Z" } : Jvm.MethodName) jdk_38_method_25_code (2 : Nat) (Option.some Jvm.ClassFile.FieldType.boolean), Jvm.Cond.code ({ cls := "java/util/ArrayList", name := "add", desc := "(Ljava/lang/Object;[Ljava/lang/Object;I)V" } : Jvm.MethodName) jdk_38_method_24_code (4 : Nat) (Option.none : Option Jvm.ClassFile.FieldType), Jvm.Cond.code ({ cls := "java/util/ArrayList", name := "grow", desc := "()[Ljava/lang/Object;" } : Jvm.MethodName) jdk_38_method_7_code (1 : Nat) (Option.some (Jvm.ClassFile.FieldType.array (Jvm.ClassFile.FieldType.object "java/lang/Object"))), Jvm.Cond.code ({ cls := "java/util/ArrayList", name := "grow", desc := "(I)[Ljava/lang/Object;" } : Jvm.MethodName) jdk_38_method_6_code (4 : Nat) (Option.some (Jvm.ClassFile.FieldType.array (Jvm.ClassFile.FieldType.object "java/lang/Object"))), Jvm.Cond.code ({ cls := "java/lang/Math", name := "max", desc := "(II)I" } : Jvm.MethodName) jdk_29_method_65_code (2 : Nat) (Option.some Jvm.ClassFile.FieldType.int), Jvm.Cond.code ({ cls := "java/util/List", name := "copyOf", desc := "(Ljava/util/Collection;)Ljava/util/List;" } : Jvm.MethodName) jdk_40_method_48_code (1 : Nat) (Option.some (Jvm.ClassFile.FieldType.object "java/util/List")), Jvm.Cond.code ({ cls := "java/util/ImmutableCollections", name := "listCopy", desc := "(Ljava/util/Collection;)Ljava/util/List;" } : Jvm.MethodName) jdk_56_method_3_code (2 : Nat) (Option.some (Jvm.ClassFile.FieldType.object "java/util/List")), Jvm.Cond.code ({ cls := "java/util/ArrayList", name := "isEmpty", desc := "()Z" } : Jvm.MethodName) jdk_38_method_9_code (1 : Nat) (Option.some Jvm.ClassFile.FieldType.boolean), Jvm.Cond.code ({ cls := "java/util/ArrayList", name := "toArray", desc := "()[Ljava/lang/Object;" } : Jvm.MethodName) jdk_38_method_16_code (1 : Nat) (Option.some (Jvm.ClassFile.FieldType.array (Jvm.ClassFile.FieldType.object "java/lang/Object"))), Jvm.Cond.code ({ cls := "java/util/Arrays", name := "copyOf", desc := "([Ljava/lang/Object;I)[Ljava/lang/Object;" } : Jvm.MethodName) jdk_65_method_119_code (2 : Nat) (Option.some (Jvm.ClassFile.FieldType.array (Jvm.ClassFile.FieldType.object "java/lang/Object"))), Jvm.Cond.code ({ cls := "java/util/Arrays", name := "copyOf", desc := "([Ljava/lang/Object;ILjava/lang/Class;)[Ljava/lang/Object;" } : Jvm.MethodName) jdk_65_method_120_code (4 : Nat) (Option.some (Jvm.ClassFile.FieldType.array (Jvm.ClassFile.FieldType.object "java/lang/Object"))), Jvm.Cond.code ({ cls := "java/util/List", name := "of", desc := "([Ljava/lang/Object;)Ljava/util/List;" } : Jvm.MethodName) jdk_40_method_47_code (2 : Nat) (Option.some (Jvm.ClassFile.FieldType.object "java/util/List")), Jvm.Cond.code ({ cls := "java/util/ImmutableCollections$List12", name := "<init>", desc := "(Ljava/lang/Object;)V" } : Jvm.MethodName) jdk_44_method_1_code (2 : Nat) (Option.none : Option Jvm.ClassFile.FieldType), Jvm.Cond.code ({ cls := "java/util/ImmutableCollections$AbstractImmutableList", name := "<init>", desc := "()V" } : Jvm.MethodName) jdk_46_method_1_code (1 : Nat) (Option.none : Option Jvm.ClassFile.FieldType), Jvm.Cond.code ({ cls := "java/util/ImmutableCollections$AbstractImmutableCollection", name := "<init>", desc := "()V" } : Jvm.MethodName) jdk_47_method_1_code (1 : Nat) (Option.none : Option Jvm.ClassFile.FieldType), Jvm.Cond.code ({ cls := "java/util/Objects", name := "requireNonNull", desc := "(Ljava/lang/Object;)Ljava/lang/Object;" } : Jvm.MethodName) jdk_31_method_10_code (1 : Nat) (Option.some (Jvm.ClassFile.FieldType.object "java/lang/Object")), Jvm.Cond.code ({ cls := "com/example/engarce/engarce/NameListSplitPinLaw", name := "isSep", desc := "(C)Z" } : Jvm.MethodName) method_3_code (1 : Nat) (Option.some Jvm.ClassFile.FieldType.boolean), Jvm.Cond.code ({ cls := "java/util/ImmutableCollections$List12", name := "size", desc := "()I" } : Jvm.MethodName) jdk_44_method_3_code (1 : Nat) (Option.some Jvm.ClassFile.FieldType.int), Jvm.Cond.code ({ cls := "java/util/ImmutableCollections$List12", name := "get", desc := "(I)Ljava/lang/Object;" } : Jvm.MethodName) jdk_44_method_5_code (2 : Nat) (Option.some (Jvm.ClassFile.FieldType.object "java/lang/Object")), Jvm.Cond.code ({ cls := "com/example/engarce/engarce/NameListSplitPinLaw", name := "eqSeg", desc := "(Ljava/lang/String;[CII)Z" } : Jvm.MethodName) method_6_code (5 : Nat) (Option.some Jvm.ClassFile.FieldType.boolean), Jvm.Cond.code ({ cls := "java/lang/StringLatin1", name := "charAt", desc := "([BI)C" } : Jvm.MethodName) jdk_43_method_2_code (2 : Nat) (Option.some Jvm.ClassFile.FieldType.char), Jvm.Cond.code ({ cls := "java/lang/StringLatin1", name := "newString", desc := "([BII)Ljava/lang/String;" } : Jvm.MethodName) jdk_43_method_47_code (3 : Nat) (Option.some (Jvm.ClassFile.FieldType.object "java/lang/String")), Jvm.Cond.code ({ cls := "java/lang/StringLatin1", name := "trim", desc := "([B)Ljava/lang/String;" } : Jvm.MethodName) jdk_43_method_36_code (3 : Nat) (Option.some (Jvm.ClassFile.FieldType.object "java/lang/String")), Jvm.Cond.code ({ cls := "java/lang/StringUTF16", name := "newString", desc := "([BII)Ljava/lang/String;" } : Jvm.MethodName) jdk_52_method_69_code (5 : Nat) (Option.some (Jvm.ClassFile.FieldType.object "java/lang/String")), Jvm.Cond.code ({ cls := "java/lang/StringUTF16", name := "compress", desc := "([BII)[B" } : Jvm.MethodName) jdk_52_method_17_code (6 : Nat) (Option.some (Jvm.ClassFile.FieldType.array Jvm.ClassFile.FieldType.byte)), Jvm.Cond.code ({ cls := "java/lang/StringUTF16", name := "compress", desc := "([BI[BII)I" } : Jvm.MethodName) jdk_52_method_22_code (7 : Nat) (Option.some Jvm.ClassFile.FieldType.int), Jvm.Cond.code ({ cls := "java/lang/StringUTF16", name := "checkBoundsOffCount", desc := "(II[B)V" } : Jvm.MethodName) jdk_52_method_94_code (3 : Nat) (Option.none : Option Jvm.ClassFile.FieldType), Jvm.Cond.code ({ cls := "java/lang/String", name := "checkBoundsOffCount", desc := "(III)I" } : Jvm.MethodName) jdk_42_method_157_code (3 : Nat) (Option.some Jvm.ClassFile.FieldType.int), Jvm.Cond.code ({ cls := "jdk/internal/util/Preconditions", name := "checkFromIndexSize", desc := "(IIILjava/util/function/BiFunction;)I" } : Jvm.MethodName) jdk_41_method_13_code (4 : Nat) (Option.some Jvm.ClassFile.FieldType.int), Jvm.Cond.code ({ cls := "java/util/ImmutableCollections$List12", name := "<init>", desc := "(Ljava/lang/Object;Ljava/lang/Object;)V" } : Jvm.MethodName) jdk_44_method_2_code (3 : Nat) (Option.none : Option Jvm.ClassFile.FieldType)]
theorem codes_eq : words1.filter isCode = codes1 := rfl
theorem w_codes : ∀ c ∈ words1.filter isCode, c.before args0 about1 = true := by
  rw [codes_eq]
  intro c hc
  simp only [codes1, List.mem_cons, List.not_mem_nil, or_false] at hc
  rcases hc with rfl | rfl | rfl | rfl | rfl | rfl | rfl | rfl | rfl | rfl | rfl | rfl | rfl | rfl | rfl | rfl | rfl | rfl | rfl | rfl | rfl | rfl | rfl | rfl | rfl | rfl | rfl | rfl | rfl | rfl | rfl | rfl | rfl | rfl | rfl | rfl | rfl | rfl | rfl | rfl | rfl | rfl | rfl | rfl | rfl | rfl | rfl | rfl | rfl | rfl | rfl | rfl | rfl | rfl | rfl | rfl | rfl | rfl | rfl | rfl | rfl | rfl | rfl | rfl | rfl | rfl | rfl | rfl | rfl | rfl | rfl | rfl | rfl | rfl
  · exact w_c0
  · exact w_c1
  · exact w_c2
  · exact w_c3
  · exact w_c4
  · exact w_c5
  · exact w_c6
  · exact w_c7
  · exact w_c8
  · exact w_c9
  · exact w_c10
  · exact w_c11
  · exact w_c12
  · exact w_c13
  · exact w_c14
  · exact w_c15
  · exact w_c16
  · exact w_c17
  · exact w_c18
  · exact w_c19
  · exact w_c20
  · exact w_c21
  · exact w_c22
  · exact w_c23
  · exact w_c24
  · exact w_c25
  · exact w_c26
  · exact w_c27
  · exact w_c28
  · exact w_c29
  · exact w_c30
  · exact w_c31
  · exact w_c32
  · exact w_c33
  · exact w_c34
  · exact w_c35
  · exact w_c36
  · exact w_c37
  · exact w_c38
  · exact w_c39
  · exact w_c40
  · exact w_c41
  · exact w_c42
  · exact w_c43
  · exact w_c44
  · exact w_c45
  · exact w_c46
  · exact w_c47
  · exact w_c48
  · exact w_c49
  · exact w_c50
  · exact w_c51
  · exact w_c52
  · exact w_c53
  · exact w_c54
  · exact w_c55
  · exact w_c56
  · exact w_c57
  · exact w_c58
  · exact w_c59
  · exact w_c60
  · exact w_c61
  · exact w_c62
  · exact w_c63
  · exact w_c64
  · exact w_c65
  · exact w_c66
  · exact w_c67
  · exact w_c68
  · exact w_c69
  · exact w_c70
  · exact w_c71
  · exact w_c72
  · exact w_c73
theorem w_t1 : (words1.take 24).all (fun c => isCode c || c.before args0 about1) = true := by decide +kernel
theorem w_t2 : ((words1.drop 24).take 24).all (fun c => isCode c || c.before args0 about1) = true := by decide +kernel
theorem w_t3 : (((words1.drop 24).drop 24).take 24).all (fun c => isCode c || c.before args0 about1) = true := by decide +kernel
theorem w_t4 : ((((words1.drop 24).drop 24).drop 24).take 24).all (fun c => isCode c || c.before args0 about1) = true := by decide +kernel
theorem w_t5 : (((((words1.drop 24).drop 24).drop 24).drop 24).take 24).all (fun c => isCode c || c.before args0 about1) = true := by decide +kernel
theorem w_t6 : ((((((words1.drop 24).drop 24).drop 24).drop 24).drop 24).take 24).all (fun c => isCode c || c.before args0 about1) = true := by decide +kernel
theorem w_t7 : (((((((words1.drop 24).drop 24).drop 24).drop 24).drop 24).drop 24).take 24).all (fun c => isCode c || c.before args0 about1) = true := by decide +kernel
theorem w_t8 : ((((((((words1.drop 24).drop 24).drop 24).drop 24).drop 24).drop 24).drop 24).take 24).all (fun c => isCode c || c.before args0 about1) = true := by decide +kernel
theorem w_t9 : (((((((((words1.drop 24).drop 24).drop 24).drop 24).drop 24).drop 24).drop 24).drop 24).take 24).all (fun c => isCode c || c.before args0 about1) = true := by decide +kernel
theorem w_t10 : ((((((((((words1.drop 24).drop 24).drop 24).drop 24).drop 24).drop 24).drop 24).drop 24).drop 24).take 24).all (fun c => isCode c || c.before args0 about1) = true := by decide +kernel
theorem w_t11 : (((((((((((words1.drop 24).drop 24).drop 24).drop 24).drop 24).drop 24).drop 24).drop 24).drop 24).drop 24).take 24).all (fun c => isCode c || c.before args0 about1) = true := by decide +kernel
theorem w_t12 : ((((((((((((words1.drop 24).drop 24).drop 24).drop 24).drop 24).drop 24).drop 24).drop 24).drop 24).drop 24).drop 24).take 24).all (fun c => isCode c || c.before args0 about1) = true := by decide +kernel
theorem w_t13 : (((((((((((((words1.drop 24).drop 24).drop 24).drop 24).drop 24).drop 24).drop 24).drop 24).drop 24).drop 24).drop 24).drop 24).take 24).all (fun c => isCode c || c.before args0 about1) = true := by decide +kernel
theorem w_t14 : ((((((((((((((words1.drop 24).drop 24).drop 24).drop 24).drop 24).drop 24).drop 24).drop 24).drop 24).drop 24).drop 24).drop 24).drop 24).take 24).all (fun c => isCode c || c.before args0 about1) = true := by decide +kernel
theorem w_t15 : (((((((((((((((words1.drop 24).drop 24).drop 24).drop 24).drop 24).drop 24).drop 24).drop 24).drop 24).drop 24).drop 24).drop 24).drop 24).drop 24).take 24).all (fun c => isCode c || c.before args0 about1) = true := by decide +kernel
theorem w_t16 : (((((((((((((((words1.drop 24).drop 24).drop 24).drop 24).drop 24).drop 24).drop 24).drop 24).drop 24).drop 24).drop 24).drop 24).drop 24).drop 24).drop 24).all (fun c => isCode c || c.before args0 about1) = true := by decide +kernel
theorem w_tables : (allAtoms (Jvm.Cond.code x code maxLocals ret :: tables_1)).before args0 about1 = true := by
  rw [allAtoms_all]
  show words1.all (fun c => c.before args0 about1) = true
  refine all_split ?_ w_codes
  rw [← List.take_append_drop 24 words1, List.all_append, w_t1, ← List.take_append_drop 24 (words1.drop 24), List.all_append, w_t2, ← List.take_append_drop 24 ((words1.drop 24).drop 24), List.all_append, w_t3, ← List.take_append_drop 24 (((words1.drop 24).drop 24).drop 24), List.all_append, w_t4, ← List.take_append_drop 24 ((((words1.drop 24).drop 24).drop 24).drop 24), List.all_append, w_t5, ← List.take_append_drop 24 (((((words1.drop 24).drop 24).drop 24).drop 24).drop 24), List.all_append, w_t6, ← List.take_append_drop 24 ((((((words1.drop 24).drop 24).drop 24).drop 24).drop 24).drop 24), List.all_append, w_t7, ← List.take_append_drop 24 (((((((words1.drop 24).drop 24).drop 24).drop 24).drop 24).drop 24).drop 24), List.all_append, w_t8, ← List.take_append_drop 24 ((((((((words1.drop 24).drop 24).drop 24).drop 24).drop 24).drop 24).drop 24).drop 24), List.all_append, w_t9, ← List.take_append_drop 24 (((((((((words1.drop 24).drop 24).drop 24).drop 24).drop 24).drop 24).drop 24).drop 24).drop 24), List.all_append, w_t10, ← List.take_append_drop 24 ((((((((((words1.drop 24).drop 24).drop 24).drop 24).drop 24).drop 24).drop 24).drop 24).drop 24).drop 24), List.all_append, w_t11, ← List.take_append_drop 24 (((((((((((words1.drop 24).drop 24).drop 24).drop 24).drop 24).drop 24).drop 24).drop 24).drop 24).drop 24).drop 24), List.all_append, w_t12, ← List.take_append_drop 24 ((((((((((((words1.drop 24).drop 24).drop 24).drop 24).drop 24).drop 24).drop 24).drop 24).drop 24).drop 24).drop 24).drop 24), List.all_append, w_t13, ← List.take_append_drop 24 (((((((((((((words1.drop 24).drop 24).drop 24).drop 24).drop 24).drop 24).drop 24).drop 24).drop 24).drop 24).drop 24).drop 24).drop 24), List.all_append, w_t14, ← List.take_append_drop 24 ((((((((((((((words1.drop 24).drop 24).drop 24).drop 24).drop 24).drop 24).drop 24).drop 24).drop 24).drop 24).drop 24).drop 24).drop 24).drop 24), List.all_append, w_t15, w_t16]
  rfl
theorem w_rest : rest_1_c.before args0 about1 = true := by decide +kernel
theorem w_case : (Jvm.Cond.and given_1 narrow_1).before args0 about1 = true := by decide +kernel
theorem w_consts : constsHeld consts_1 about1 := Jvm.Lit.constsHeldB_iff.mp (by decide +kernel)
theorem w_applies : (headSpec (Jvm.Cond.code x code maxLocals ret :: tables_1) room_1).applies x e0.platform about1 = true :=
  (Spec.applies_iff w_frames).mpr ⟨w_running, w_runnable, w_alone, w_named, w_hears, w_ripe, w_room, w_tables⟩
theorem atStart : AtStart classFile x code maxLocals ret World_1 tables_1 room_1 Calls_1 rest_1 Pre_1 launch0 p0 e0 about1 theMethod args0 below0 :=
  ⟨lists_1, trivial, launch0.admits_env _ _ _, launch0.least_env, fairChoices_fair.cas, fairChoices_fair.clock, w_frames, w_args, w_heap, w_applies, ⟨⟨37, k37, 5, by decide +kernel, rfl, rfl, _, rfl, rfl⟩, ⟨w_consts, trivial⟩⟩, w_rest, w_case⟩
end start1
theorem witness_1 : WitnessClaimed_1 := ⟨start1.p0, start1.e0, start1.about1, start1.theMethod, start1.args0, start1.below0, start1.atStart⟩
end Jvm.Pilot.@@N@@
