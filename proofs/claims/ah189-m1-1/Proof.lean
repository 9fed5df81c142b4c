import JvmDerived
import JvmDerived.Pilot.@@N@@Statement
import JvmDerived.Pilot.@@N@@Code
set_option linter.unusedVariables false
set_option linter.unusedSimpArgs false
namespace Jvm.RoadKit
open Sem ClassFile Op Lib Jvm.Stand Jvm.Free Jvm.LawKit
section OwnWalk
variable {p : Program} {l : Launch} {e : Env} {R : Room} {s : State} {m : MethodId} {args : Array Value} {below : List Frame} {meth : Method} {c : Code} {T : State} {locs : List Loc} {cells slots : Nat}
/-- what a walk owes from a state on: it comes to an end as the contract says -/
def Goes (p : Program) (e : Env) (below : List Frame) (s : State) (Q : Option Value → Heap → List Loc → Prop) (cs ss : Nat) (st : State) : Prop :=
  ∃ s₂ o, Steps p.tables e below st s₂ ∧ s₂.status = .running ∧ Ended s₂ below o ∧ ∃ v L, o = .returned v ∧ Q v s₂.heap L ∧ FrameEnd s o s₂ L cs ss
theorem Goes.st {Q : Option Value → Heap → List Loc → Prop} {cs ss : Nat} {st st' : State} (h : ∀ t, Steps p.tables e below st' t → Steps p.tables e below st t) (g : Goes p e below s Q cs ss st') : Goes p e below s Q cs ss st := by
  obtain ⟨s2, o, h1, r⟩ := g
  exact ⟨s2, o, h _ h1, r⟩
theorem Goes.sts {Q : Option Value → Heap → List Loc → Prop} {cs ss : Nat} {st st' : State} (h : Steps p.tables e below st st') (g : Goes p e below s Q cs ss st') : Goes p e below s Q cs ss st := Goes.st (fun _ k => h.trans k) g
theorem Goes.fin {Q : Option Value → Heap → List Loc → Prop} {cs ss : Nat} (X : Stand p l e R s m args below meth c T locs cells slots) (hlk : meth.locks = false) {v : Option Value} (hv : meth.sig.returnType = none → v = none) {F : JFrame}
    (hst : ∀ fs, (∀ (f : JFrame) (acts : List Action), f.method = m → f.locked = none → f.entered = [] → (doReturn e (T.setTop f) acts v).1 = T.setFrames fs) → Steps p.tables e below (T.setTop F) (T.setFrames fs))
    (hq : Q v T.heap locs) (hc : cells ≤ cs) (hs : slots ≤ ss) : Goes p e below s Q cs ss (T.setTop F) := by
  obtain ⟨fs, hr, hrun, hended, hW, hsame⟩ := X.leave (v := v) hv hlk
  exact ⟨_, _, hst fs hr, hrun, hended, _, _, rfl, hq, ⟨_, rfl⟩, hW, hsame.mono hc hs⟩
theorem Goes.retN {Q : Option Value → Heap → List Loc → Prop} {cs ss : Nat} (X : Stand p l e R s m args below meth c T locs cells slots) (hx : p.tables.exec = Jvm.exec) (hlk : meth.locks = false) {t : FieldType} (hret : meth.sig.returnType = some t) (ht : t = .boolean ∨ t = .byte ∨ t = .char ∨ t = .short) {pc : Nat} {Ls : Array Slot} {z : Int32} {rest : List Value}
    (hd : decode c.code pc = .ok (.ireturn, 1)) (hn : nar t z = z) (hq : Q (some (.int z)) T.heap locs) (hc : cells ≤ cs) (hs : slots ≤ ss) : Goes p e below s Q cs ss (T.setTop (mkF m pc Ls (.int z :: rest))) :=
  Goes.fin X hlk (v := some (.int z)) (fun h => by rw [hret] at h; cases h) (fun fs hr => RoadKit.retN X hx hret ht hd (by rw [hn]; exact hr)) hq hc hs
theorem Goes.retW {Q : Option Value → Heap → List Loc → Prop} {cs ss : Nat} (X : Stand p l e R s m args below meth c T locs cells slots) (hx : p.tables.exec = Jvm.exec) (hlk : meth.locks = false) {t : FieldType} (hret : meth.sig.returnType = some t) {pc : Nat} {Ls : Array Slot} {w : Value} {i : Instr} {rest : List Value} (hn : narrow t w = w)
    (hi : (i = .ireturn ∧ (t = .int ∨ t = .boolean ∨ t = .byte ∨ t = .char ∨ t = .short) ∧ ∃ z, w = .int z) ∨ (i = .lreturn ∧ t = .long ∧ ∃ z, w = .long z) ∨ (i = .dreturn ∧ t = .double ∧ ∃ z, w = .double z) ∨ (i = .freturn ∧ t = .float ∧ ∃ z, w = .float z) ∨ (i = .areturn ∧ t.isReference = true ∧ w.isRef = true))
    (hd : decode c.code pc = .ok (i, 1)) (hq : Q (some w) T.heap locs) (hc : cells ≤ cs) (hs : slots ≤ ss) : Goes p e below s Q cs ss (T.setTop (mkF m pc Ls (w :: rest))) :=
  Goes.fin X hlk (v := some w) (fun h => by rw [hret] at h; cases h) (fun fs hr => RoadKit.retOut X hx hret hn hi hd hr) hq hc hs
theorem Goes.retI {Q : Option Value → Heap → List Loc → Prop} {cs ss : Nat} (X : Stand p l e R s m args below meth c T locs cells slots) (hx : p.tables.exec = Jvm.exec) (hlk : meth.locks = false) (hret : meth.sig.returnType = some .int) {pc : Nat} {Ls : Array Slot} {z : Int32} {rest : List Value}
    (hd : decode c.code pc = .ok (.ireturn, 1)) (hq : Q (some (.int z)) T.heap locs) (hc : cells ≤ cs) (hs : slots ≤ ss) : Goes p e below s Q cs ss (T.setTop (mkF m pc Ls (.int z :: rest))) :=
  Goes.retW X hx hlk hret rfl (Or.inl ⟨rfl, Or.inl rfl, _, rfl⟩) hd hq hc hs
theorem Goes.retL {Q : Option Value → Heap → List Loc → Prop} {cs ss : Nat} (X : Stand p l e R s m args below meth c T locs cells slots) (hx : p.tables.exec = Jvm.exec) (hlk : meth.locks = false) (hret : meth.sig.returnType = some .long) {pc : Nat} {Ls : Array Slot} {z : Int64} {rest : List Value}
    (hd : decode c.code pc = .ok (.lreturn, 1)) (hq : Q (some (.long z)) T.heap locs) (hc : cells ≤ cs) (hs : slots ≤ ss) : Goes p e below s Q cs ss (T.setTop (mkF m pc Ls (.long z :: rest))) :=
  Goes.retW X hx hlk hret rfl (Or.inr (Or.inl ⟨rfl, rfl, _, rfl⟩)) hd hq hc hs
theorem Goes.retD {Q : Option Value → Heap → List Loc → Prop} {cs ss : Nat} (X : Stand p l e R s m args below meth c T locs cells slots) (hx : p.tables.exec = Jvm.exec) (hlk : meth.locks = false) (hret : meth.sig.returnType = some .double) {pc : Nat} {Ls : Array Slot} {z : UInt64} {rest : List Value}
    (hd : decode c.code pc = .ok (.dreturn, 1)) (hq : Q (some (.double z)) T.heap locs) (hc : cells ≤ cs) (hs : slots ≤ ss) : Goes p e below s Q cs ss (T.setTop (mkF m pc Ls (.double z :: rest))) :=
  Goes.retW X hx hlk hret rfl (Or.inr (Or.inr (Or.inl ⟨rfl, rfl, _, rfl⟩))) hd hq hc hs
theorem Goes.retA {Q : Option Value → Heap → List Loc → Prop} {cs ss : Nat} (X : Stand p l e R s m args below meth c T locs cells slots) (hx : p.tables.exec = Jvm.exec) (hlk : meth.locks = false) {t : FieldType} (hret : meth.sig.returnType = some t) (ht : t.isReference = true) {pc : Nat} {Ls : Array Slot} {w : Value} {rest : List Value} (hn : narrow t w = w) (hw : w.isRef = true)
    (hd : decode c.code pc = .ok (.areturn, 1)) (hq : Q (some w) T.heap locs) (hc : cells ≤ cs) (hs : slots ≤ ss) : Goes p e below s Q cs ss (T.setTop (mkF m pc Ls (w :: rest))) :=
  Goes.retW X hx hlk hret hn (Or.inr (Or.inr (Or.inr (Or.inr ⟨rfl, ht, hw⟩)))) hd hq hc hs
theorem Goes.retV {Q : Option Value → Heap → List Loc → Prop} {cs ss : Nat} (X : Stand p l e R s m args below meth c T locs cells slots) (hx : p.tables.exec = Jvm.exec) (hlk : meth.locks = false) (hret : meth.sig.returnType = none) {pc : Nat} {Ls : Array Slot}
    (hd : decode c.code pc = .ok (.return_, 1)) (hq : Q none T.heap locs) (hc : cells ≤ cs) (hs : slots ≤ ss) : Goes p e below s Q cs ss (T.setTop (mkF m pc Ls [])) :=
  Goes.fin X hlk (v := none) (fun _ => rfl) (fun fs hr => X.returnOut hx hret hd hr) hq hc hs
end OwnWalk
end Jvm.RoadKit
namespace Jvm.Pilot.@@N@@
open Jvm Jvm.ClassFile Sem Op Lib Jvm.Free Jvm.Stand Jvm.LawKit Jvm.RoadKit Bundle Jvm.Free.Fl Jvm.Pilot.@@N@@.Jvm.D
/-- what both say: the larger count of violations, or at the same the larger total -/
def gtG (va : Int64) (ta : UInt64) (vb : Int64) (tb : UInt64) : Int32 := if vb < va then 1 else if va = vb then (if (0 : Int32) < cmpValue (FP.dcmp ta tb) .l then 1 else 0) else 0
theorem own_eq64 {a b : Int64} (h1 : ¬ b < a) (h2 : ¬ a < b) : a = b := by
  rw [Int64.lt_iff_toInt_lt] at h1 h2; exact Int64.toInt_inj.mp (by omega)
theorem own_ne64 {a b : Int64} (h : a < b) : ¬ a = b := fun q => by
  rw [Int64.lt_iff_toInt_lt, q] at h; omega
theorem d_jdk_30_method_1_0 : decode jdk_30_method_1_code 0 = .ok (.aload_n 0, 1) := by decide +kernel
theorem d_jdk_30_method_1_1 : decode jdk_30_method_1_code 1 = .ok (.invokespecial 1, 3) := by decide +kernel
theorem d_jdk_30_method_1_4 : decode jdk_30_method_1_code 4 = .ok (.return_, 1) := by decide +kernel
theorem pn_java_lang_Record : plainName "java/lang/Record" = true := by first | (simp [plainName, overriddenIn]; done) | decide +kernel
theorem ef_Rec (m : MethodId) (x0 : Addr) : entryFrame m #[(.ref x0)] 1 = mkF m 0 #[.val (.ref x0)] [] := by first | (simp [entryFrame, mkF, argsToLocals, Value.category]; done) | rfl
def QRec (Z : State) (a : Addr) (h0 : Heap) (n0 : Nat) (v : Option Value) (h : Heap) (L : List Loc) : Prop := v = none ∧ Fr n0 L ∧ h = h0
set_option maxRecDepth 65536 in
set_option maxHeartbeats 40000000 in
theorem rmRec (l : Launch) (Z : State) (a0 : Array Value) (hw : ∀ d ∈ tables_1, d.before a0 Z = true) (ws : List Jvm.Cond) (a : Addr) (h0 : Heap) (n0 : Nat) (Z0 : n0 ≤ h0.size)  :
    MetFree l (⟨"java/lang/Record", "<init>", "()V"⟩ : MethodName) (head1 (Jvm.Cond.code (⟨"java/lang/Record", "<init>", "()V"⟩ : MethodName) jdk_30_method_1_code 1 none :: ws) ({ frames := 1, cells := 0, slots := 0, locals := 12 } : Room)) (fun aa U => aa = #[(.ref a)] ∧ Z.Warmed39 U.vm ∧ U.heap = h0) (fun _ _ _ _ _ => True) (fun _ U o U' => ∃ v L, o = .returned v ∧ QRec Z a h0 n0 v U'.heap L ∧ FrameEnd U o U' L ({ frames := 1, cells := 0, slots := 0, locals := 12 } : Room).cells ({ frames := 1, cells := 0, slots := 0, locals := 12 } : Room).slots) := by
  refine MetFree.of_bodySF (plainFor_of_name pn_java_lang_Record) hisR ?_
  intro p e s m args below meth c s₁ Bd hml0 hP hK
  obtain ⟨rfl, hZ, hh⟩ := hP
  have hx := Bd.exec
  have hby := Bd.bytes
  have hlk := BodyLoose.notSynchronized Bd
  have hret := Bd.returns
  have hml : c.maxLocals = 1 := hml0
  have hown : s.vm.findClass "java/lang/Record" = some m.cls := findClass_of_methodNamed Bd.named
  have hnm := (name_of_methodNamed Bd.named Bd.method).1
  have X0 : Stand p l e ({ frames := 1, cells := 0, slots := 0, locals := 12 } : Room) s m #[(.ref a)] below meth c s₁ [] 0 0 := Stand.of_body Bd
  have e0 : s₁.heap = h0 := by rw [← hh, Bd.state]; rfl
  have N0 := Fr.nil n0
  refine Goes.st (s := s) (Q := QRec Z a h0 n0) (cs := ({ frames := 1, cells := 0, slots := 0, locals := 12 } : Room).cells) (ss := ({ frames := 1, cells := 0, slots := 0, locals := 12 } : Room).slots) (fun t k => castTop (ef_Rec m a) k) ?_
  show Goes p e below s _ _ _ (s₁.setTop (mkF m 0 #[.val (.ref a)] []))
  refine Goes.st (fun t k => XS.aloadN X0.here hx rfl (hb hby d_jdk_30_method_1_0) rfl rfl k) ?_
  show Goes p e below s _ _ _ (s₁.setTop (mkF m 1 #[.val (.ref a)] [(.ref a)]))
  obtain ⟨T1, X1, e1, st1⟩ := initO X0 hx hZ hown (hw _ (List.mem_of_getElem? (i := 11) rfl)) (hw _ (List.mem_of_getElem? (i := 12) rfl)) (hw _ (List.mem_of_getElem? (i := 13) rfl)) e0 (g := (mkF m 1 #[.val (.ref a)] [(.ref a)])) rfl (by rw [hml]; rfl) rfl (hb hby d_jdk_30_method_1_1) (by decide) (W := 0) (by show 2 * 0 + _ ≤ _; exact Nat.le_of_eq rfl) (by decide)
  refine Goes.st st1 ?_
  show Goes p e below s _ _ _ (T1.setTop (mkF m 4 #[.val (.ref a)] []))
  refine Goes.retV X1 hx hlk hret (hb hby d_jdk_30_method_1_4) ?_ (by decide) (by decide)
  rw [e1]
  exact ⟨rfl, N0, rfl⟩
theorem d_prog_27_method_1_0 : decode prog_27_method_1_code 0 = .ok (.aload_n 0, 1) := by decide +kernel
theorem d_prog_27_method_1_1 : decode prog_27_method_1_code 1 = .ok (.invokespecial 1, 3) := by decide +kernel
theorem d_prog_27_method_1_4 : decode prog_27_method_1_code 4 = .ok (.aload_n 0, 1) := by decide +kernel
theorem d_prog_27_method_1_5 : decode prog_27_method_1_code 5 = .ok (.lload_n 1, 1) := by decide +kernel
theorem d_prog_27_method_1_6 : decode prog_27_method_1_code 6 = .ok (.putfield 7, 3) := by decide +kernel
theorem d_prog_27_method_1_9 : decode prog_27_method_1_code 9 = .ok (.aload_n 0, 1) := by decide +kernel
theorem d_prog_27_method_1_10 : decode prog_27_method_1_code 10 = .ok (.dload_n 3, 1) := by decide +kernel
theorem d_prog_27_method_1_11 : decode prog_27_method_1_code 11 = .ok (.putfield 13, 3) := by decide +kernel
theorem d_prog_27_method_1_14 : decode prog_27_method_1_code 14 = .ok (.return_, 1) := by decide +kernel
theorem pn_com_example_parley_parley_LocalSearch_Gain : plainName "com/example/parley/parley/LocalSearch$Gain" = true := by first | (simp [plainName, overriddenIn]; done) | decide +kernel
theorem pd___V_566 : parseMethodDescriptor "()V" = some ⟨[], none⟩ := by decide +kernel
theorem ef_C (m : MethodId) (x0 : Addr) (x1 : Int64) (x2 : UInt64) : entryFrame m #[(.ref x0), (.long x1), (.double x2)] 5 = mkF m 0 #[.val (.ref x0), .val (.long x1), .second, .val (.double x2), .second] [] := by first | (simp [entryFrame, mkF, argsToLocals, Value.category]; done) | rfl
def QC (Z : State) (a : Addr) (pv : Int64) (pt : UInt64) (u0 u1 : Value) (h0 : Heap) (n0 : Nat) (v : Option Value) (h : Heap) (L : List Loc) : Prop := v = none ∧ Fr n0 L ∧ Keep h0 h [a] ∧ Fld Z h a "com/example/parley/parley/LocalSearch$Gain" "violations" "J" (.long pv) ∧ Fld Z h a "com/example/parley/parley/LocalSearch$Gain" "total" "D" (.double pt)
set_option maxRecDepth 65536 in
set_option maxHeartbeats 40000000 in
theorem rmC (l : Launch) (Z : State) (a0 : Array Value) (hw : ∀ d ∈ tables_1, d.before a0 Z = true) (ws : List Jvm.Cond) (a : Addr) (pv : Int64) (pt : UInt64) (u0 u1 : Value) (h0 : Heap) (n0 : Nat) (Z0 : n0 ≤ h0.size) (Ea : Exa Z h0 a "com/example/parley/parley/LocalSearch$Gain") (ga : n0 ≤ a) (Fviolations : Fld Z h0 a "com/example/parley/parley/LocalSearch$Gain" "violations" "J" u0) (Ftotal : Fld Z h0 a "com/example/parley/parley/LocalSearch$Gain" "total" "D" u1) :
    MetFree l (⟨"com/example/parley/parley/LocalSearch$Gain", "<init>", "(JD)V"⟩ : MethodName) (head1 (Jvm.Cond.code (⟨"com/example/parley/parley/LocalSearch$Gain", "<init>", "(JD)V"⟩ : MethodName) prog_27_method_1_code 5 none :: ws) ({ frames := 2, cells := 0, slots := 0, locals := 24 } : Room)) (fun aa U => aa = #[(.ref a), (.long pv), (.double pt)] ∧ Z.Warmed39 U.vm ∧ U.heap = h0) (fun _ _ _ _ _ => True) (fun _ U o U' => ∃ v L, o = .returned v ∧ QC Z a pv pt u0 u1 h0 n0 v U'.heap L ∧ FrameEnd U o U' L ({ frames := 2, cells := 0, slots := 0, locals := 24 } : Room).cells ({ frames := 2, cells := 0, slots := 0, locals := 24 } : Room).slots) := by
  refine MetFree.of_bodySF (plainFor_of_name pn_com_example_parley_parley_LocalSearch_Gain) hisR ?_
  intro p e s m args below meth c s₁ Bd hml0 hP hK
  obtain ⟨rfl, hZ, hh⟩ := hP
  have hx := Bd.exec
  have hby := Bd.bytes
  have hlk := BodyLoose.notSynchronized Bd
  have hret := Bd.returns
  have hml : c.maxLocals = 5 := hml0
  have hown : s.vm.findClass "com/example/parley/parley/LocalSearch$Gain" = some m.cls := findClass_of_methodNamed Bd.named
  have hnm := (name_of_methodNamed Bd.named Bd.method).1
  have X0 : Stand p l e ({ frames := 2, cells := 0, slots := 0, locals := 24 } : Room) s m #[(.ref a), (.long pv), (.double pt)] below meth c s₁ [] 0 0 := Stand.of_body Bd
  have e0 : s₁.heap = h0 := by rw [← hh, Bd.state]; rfl
  have N0 := Fr.nil n0
  refine Goes.st (s := s) (Q := QC Z a pv pt u0 u1 h0 n0) (cs := ({ frames := 2, cells := 0, slots := 0, locals := 24 } : Room).cells) (ss := ({ frames := 2, cells := 0, slots := 0, locals := 24 } : Room).slots) (fun t k => castTop (ef_C m a pv pt) k) ?_
  have K0 : Keep h0 h0 [a] := Keep.refl _ _
  show Goes p e below s _ _ _ (s₁.setTop (mkF m 0 #[.val (.ref a), .val (.long pv), .second, .val (.double pt), .second] []))
  refine Goes.st (fun t k => XS.aloadN X0.here hx rfl (hb hby d_prog_27_method_1_0) rfl rfl k) ?_
  show Goes p e below s _ _ _ (s₁.setTop (mkF m 1 #[.val (.ref a), .val (.long pv), .second, .val (.double pt), .second] [(.ref a)]))
  obtain ⟨_, _, ⟨T1, L1, k1, n1⟩, -, X1, ⟨Lc1, hQ1, l1, y1, z1⟩, st1⟩ := X0.specialBack hx (y := (⟨"java/lang/Record", "<init>", "()V"⟩ : MethodName)) rfl hown (mvT hZ (hw _ (List.mem_of_getElem? (i := 6) rfl))) (mvT hZ (hw _ (List.mem_of_getElem? (i := 7) rfl))) (mvT hZ (hw _ (List.mem_of_getElem? (i := 10) rfl))) (by decide) (backOf (W := 0) (rmRec l Z a0 hw [] a h0 n0 Z0 ) hZ (hw _ (List.mem_of_getElem? (i := 10) rfl)) (hw _ (List.mem_of_getElem? (i := 9) rfl)) (by decide) (by decide)) (g := (mkF m 1 #[.val (.ref a), .val (.long pv), .second, .val (.double pt), .second] [(.ref a)])) rfl (by rw [hml]; rfl) (Steps.refl _) (a := a) (argsL := []) (rest := []) (lenOf pd___V_566 rfl) rfl (by show 2 * 0 + _ ≤ _; exact Nat.le_of_eq rfl) (hb hby d_prog_27_method_1_1) (fun _ _ => ⟨rfl, e0, (by decide : 0 + 0 ≤ 0), (by decide : 0 + 0 ≤ 0)⟩)
  dsimp only [Pt.U, Pt.locs, Pt.cells, Pt.slots] at X1 l1 y1 z1 st1 hQ1
  subst l1 y1 z1
  obtain ⟨rfl, N1q, eh1⟩ := hQ1
  have N1 := Fr.app N0 N1q
  refine Goes.sts st1 ?_
  show Goes p e below s _ _ _ (T1.setTop (mkF m 4 #[.val (.ref a), .val (.long pv), .second, .val (.double pt), .second] []))
  refine Goes.st (fun t k => XS.aloadN X1.here hx rfl (hb hby d_prog_27_method_1_4) rfl rfl k) ?_
  show Goes p e below s _ _ _ (T1.setTop (mkF m 5 #[.val (.ref a), .val (.long pv), .second, .val (.double pt), .second] [(.ref a)]))
  refine Goes.st (fun t k => XT.lloadN X1.here hx rfl (hb hby d_prog_27_method_1_5) rfl k) ?_
  show Goes p e below s _ _ _ (T1.setTop (mkF m 6 #[.val (.ref a), .val (.long pv), .second, .val (.double pt), .second] [(.long pv), (.ref a)]))
  obtain ⟨T2, h2, X2, e2, W2, st2⟩ := putF X1 hx hZ hown (host := "") (Or.inl (hw _ (List.mem_of_getElem? (i := 14) rfl))) Via.refl eh1 Fviolations Ea (Or.inr ⟨(hw _ (List.mem_of_getElem? (i := 15) rfl)), rfl, hnm⟩) (hw _ (List.mem_of_getElem? (i := 1) rfl)) (ty := .long) (by decide) rfl rfl (g := (mkF m 6 #[.val (.ref a), .val (.long pv), .second, .val (.double pt), .second] [(.long pv), (.ref a)])) rfl rfl (hb hby d_prog_27_method_1_6)
  have N2 := Fr.snoc X2 N1 ga
  have G2 := Fviolations.same W2
  refine Goes.st st2 ?_
  have KK3 := K0.wr W2 (Or.inl (List.mem_of_getElem? (i := 0) rfl))
  have Z2 : n0 ≤ h2.size := by have := W2.size; have := Z0; omega
  show Goes p e below s _ _ _ (T2.setTop (mkF m 9 #[.val (.ref a), .val (.long pv), .second, .val (.double pt), .second] []))
  refine Goes.st (fun t k => XS.aloadN X2.here hx rfl (hb hby d_prog_27_method_1_9) rfl rfl k) ?_
  show Goes p e below s _ _ _ (T2.setTop (mkF m 10 #[.val (.ref a), .val (.long pv), .second, .val (.double pt), .second] [(.ref a)]))
  refine Goes.st (fun t k => XS.dloadN X2.here hx rfl (hb hby d_prog_27_method_1_10) rfl k) ?_
  show Goes p e below s _ _ _ (T2.setTop (mkF m 11 #[.val (.ref a), .val (.long pv), .second, .val (.double pt), .second] [(.double pt), (.ref a)]))
  have f5 := (Ftotal.other W2 (Or.inr (slot_ne (Or.inr (hw _ (List.mem_of_getElem? (i := 17) rfl))) (Or.inr (hw _ (List.mem_of_getElem? (i := 15) rfl))) (by decide) (t := .double) (t' := .long) (by decide) (by decide))))
  have f6 := (Ea.wr W2)
  obtain ⟨T4, h4, X4, e4, W4, st4⟩ := putF X2 hx hZ hown (host := "") (Or.inl (hw _ (List.mem_of_getElem? (i := 16) rfl))) Via.refl e2 f5 f6 (Or.inr ⟨(hw _ (List.mem_of_getElem? (i := 17) rfl)), rfl, hnm⟩) (hw _ (List.mem_of_getElem? (i := 1) rfl)) (ty := .double) (by decide) rfl rfl (g := (mkF m 11 #[.val (.ref a), .val (.long pv), .second, .val (.double pt), .second] [(.double pt), (.ref a)])) rfl rfl (hb hby d_prog_27_method_1_11)
  have N4 := Fr.snoc X4 N2 ga
  have G4 := f5.same W4
  refine Goes.st st4 ?_
  have KK7 := KK3.wr W4 (Or.inl (List.mem_of_getElem? (i := 0) rfl))
  have Z4 : n0 ≤ h4.size := by have := W4.size; have := Z2; omega
  show Goes p e below s _ _ _ (T4.setTop (mkF m 14 #[.val (.ref a), .val (.long pv), .second, .val (.double pt), .second] []))
  have f8 := (G2.other W4 (Or.inr (slot_ne (Or.inr (hw _ (List.mem_of_getElem? (i := 15) rfl))) (Or.inr (hw _ (List.mem_of_getElem? (i := 17) rfl))) (by decide) (t := .long) (t' := .double) (by decide) (by decide))))
  refine Goes.retV X4 hx hlk hret (hb hby d_prog_27_method_1_14) ?_ (by decide) (by decide)
  rw [e4]
  exact ⟨rfl, N4, KK7, f8, G4⟩
theorem d_prog_27_method_2_0 : decode prog_27_method_2_code 0 = .ok (.aload_n 0, 1) := by decide +kernel
theorem d_prog_27_method_2_1 : decode prog_27_method_2_code 1 = .ok (.getfield 7, 3) := by decide +kernel
theorem d_prog_27_method_2_4 : decode prog_27_method_2_code 4 = .ok (.aload_n 1, 1) := by decide +kernel
theorem d_prog_27_method_2_5 : decode prog_27_method_2_code 5 = .ok (.getfield 7, 3) := by decide +kernel
theorem d_prog_27_method_2_8 : decode prog_27_method_2_code 8 = .ok (.lcmp, 1) := by decide +kernel
theorem d_prog_27_method_2_9 : decode prog_27_method_2_code 9 = .ok (.ifCond .gt 27, 3) := by decide +kernel
theorem d_prog_27_method_2_12 : decode prog_27_method_2_code 12 = .ok (.aload_n 0, 1) := by decide +kernel
theorem d_prog_27_method_2_13 : decode prog_27_method_2_code 13 = .ok (.getfield 7, 3) := by decide +kernel
theorem d_prog_27_method_2_16 : decode prog_27_method_2_code 16 = .ok (.aload_n 1, 1) := by decide +kernel
theorem d_prog_27_method_2_17 : decode prog_27_method_2_code 17 = .ok (.getfield 7, 3) := by decide +kernel
theorem d_prog_27_method_2_20 : decode prog_27_method_2_code 20 = .ok (.lcmp, 1) := by decide +kernel
theorem d_prog_27_method_2_21 : decode prog_27_method_2_code 21 = .ok (.ifCond .ne 19, 3) := by decide +kernel
theorem d_prog_27_method_2_24 : decode prog_27_method_2_code 24 = .ok (.aload_n 0, 1) := by decide +kernel
theorem d_prog_27_method_2_25 : decode prog_27_method_2_code 25 = .ok (.getfield 13, 3) := by decide +kernel
theorem d_prog_27_method_2_28 : decode prog_27_method_2_code 28 = .ok (.aload_n 1, 1) := by decide +kernel
theorem d_prog_27_method_2_29 : decode prog_27_method_2_code 29 = .ok (.getfield 13, 3) := by decide +kernel
theorem d_prog_27_method_2_32 : decode prog_27_method_2_code 32 = .ok (.dcmp .l, 1) := by decide +kernel
theorem d_prog_27_method_2_33 : decode prog_27_method_2_code 33 = .ok (.ifCond .le 7, 3) := by decide +kernel
theorem d_prog_27_method_2_36 : decode prog_27_method_2_code 36 = .ok (.iconst 1, 1) := by decide +kernel
theorem d_prog_27_method_2_37 : decode prog_27_method_2_code 37 = .ok (.goto 4, 3) := by decide +kernel
theorem d_prog_27_method_2_40 : decode prog_27_method_2_code 40 = .ok (.iconst 0, 1) := by decide +kernel
theorem d_prog_27_method_2_41 : decode prog_27_method_2_code 41 = .ok (.ireturn, 1) := by decide +kernel
theorem ef_L (m : MethodId) (x0 : Addr) (x1 : Addr) : entryFrame m #[(.ref x0), (.ref x1)] 2 = mkF m 0 #[.val (.ref x0), .val (.ref x1)] [] := by first | (simp [entryFrame, mkF, argsToLocals, Value.category]; done) | rfl
def QL (Z : State) (a b : Addr) (va vb : Int64) (ta tb : UInt64) (h0 : Heap) (n0 : Nat) (v : Option Value) (h : Heap) (L : List Loc) : Prop := v = some (.int (gtG va ta vb tb)) ∧ Fr n0 L ∧ h = h0
set_option maxRecDepth 65536 in
set_option maxHeartbeats 40000000 in
theorem rmL (l : Launch) (Z : State) (a0 : Array Value) (hw : ∀ d ∈ tables_1, d.before a0 Z = true) (ws : List Jvm.Cond) (a b : Addr) (va vb : Int64) (ta tb : UInt64) (h0 : Heap) (n0 : Nat) (Z0 : n0 ≤ h0.size) (Fva : Fld Z h0 a "com/example/parley/parley/LocalSearch$Gain" "violations" "J" (.long va)) (Fta : Fld Z h0 a "com/example/parley/parley/LocalSearch$Gain" "total" "D" (.double ta)) (Fvb : Fld Z h0 b "com/example/parley/parley/LocalSearch$Gain" "violations" "J" (.long vb)) (Ftb : Fld Z h0 b "com/example/parley/parley/LocalSearch$Gain" "total" "D" (.double tb)) :
    MetFree l (⟨"com/example/parley/parley/LocalSearch$Gain", "isLargerThan", "(Lcom/example/parley/parley/LocalSearch$Gain;)Z"⟩ : MethodName) (head1 (Jvm.Cond.code (⟨"com/example/parley/parley/LocalSearch$Gain", "isLargerThan", "(Lcom/example/parley/parley/LocalSearch$Gain;)Z"⟩ : MethodName) prog_27_method_2_code 2 (some .boolean) :: ws) ({ frames := 0, cells := 0, slots := 0, locals := 0 } : Room)) (fun aa U => aa = #[(.ref a), (.ref b)] ∧ Z.Warmed39 U.vm ∧ U.heap = h0) (fun _ _ _ _ _ => True) (fun _ U o U' => ∃ v L, o = .returned v ∧ QL Z a b va vb ta tb h0 n0 v U'.heap L ∧ FrameEnd U o U' L ({ frames := 0, cells := 0, slots := 0, locals := 0 } : Room).cells ({ frames := 0, cells := 0, slots := 0, locals := 0 } : Room).slots) := by
  refine MetFree.of_bodySF (plainFor_of_name pn_com_example_parley_parley_LocalSearch_Gain) hisR ?_
  intro p e s m args below meth c s₁ Bd hml0 hP hK
  obtain ⟨rfl, hZ, hh⟩ := hP
  have hx := Bd.exec
  have hby := Bd.bytes
  have hlk := BodyLoose.notSynchronized Bd
  have hret := Bd.returns
  have hml : c.maxLocals = 2 := hml0
  have hown : s.vm.findClass "com/example/parley/parley/LocalSearch$Gain" = some m.cls := findClass_of_methodNamed Bd.named
  have hnm := (name_of_methodNamed Bd.named Bd.method).1
  have X0 : Stand p l e ({ frames := 0, cells := 0, slots := 0, locals := 0 } : Room) s m #[(.ref a), (.ref b)] below meth c s₁ [] 0 0 := Stand.of_body Bd
  have e0 : s₁.heap = h0 := by rw [← hh, Bd.state]; rfl
  have N0 := Fr.nil n0
  refine Goes.st (s := s) (Q := QL Z a b va vb ta tb h0 n0) (cs := ({ frames := 0, cells := 0, slots := 0, locals := 0 } : Room).cells) (ss := ({ frames := 0, cells := 0, slots := 0, locals := 0 } : Room).slots) (fun t k => castTop (ef_L m a b) k) ?_
  show Goes p e below s _ _ _ (s₁.setTop (mkF m 0 #[.val (.ref a), .val (.ref b)] []))
  refine Goes.st (fun t k => XS.aloadN X0.here hx rfl (hb hby d_prog_27_method_2_0) rfl rfl k) ?_
  show Goes p e below s _ _ _ (s₁.setTop (mkF m 1 #[.val (.ref a), .val (.ref b)] [(.ref a)]))
  obtain ⟨T1, X1, e1, st1⟩ := getF X0 hx hZ hown (host := "") (Or.inl (hw _ (List.mem_of_getElem? (i := 14) rfl))) Via.refl e0 Fva (g := (mkF m 1 #[.val (.ref a), .val (.ref b)] [(.ref a)])) rfl rfl (hb hby d_prog_27_method_2_1)
  refine Goes.st st1 ?_
  show Goes p e below s _ _ _ (T1.setTop (mkF m 4 #[.val (.ref a), .val (.ref b)] [(.long va)]))
  refine Goes.st (fun t k => XS.aloadN X1.here hx rfl (hb hby d_prog_27_method_2_4) rfl rfl k) ?_
  show Goes p e below s _ _ _ (T1.setTop (mkF m 5 #[.val (.ref a), .val (.ref b)] [(.ref b), (.long va)]))
  obtain ⟨T2, X2, e2, st2⟩ := getF X1 hx hZ hown (host := "") (Or.inl (hw _ (List.mem_of_getElem? (i := 14) rfl))) Via.refl e1 Fvb (g := (mkF m 5 #[.val (.ref a), .val (.ref b)] [(.ref b), (.long va)])) rfl rfl (hb hby d_prog_27_method_2_5)
  refine Goes.st st2 ?_
  show Goes p e below s _ _ _ (T2.setTop (mkF m 8 #[.val (.ref a), .val (.ref b)] [(.long vb), (.long va)]))
  refine Goes.st (fun t k => XT.lcmp X2.here hx rfl (hb hby d_prog_27_method_2_8) rfl k) ?_
  show Goes p e below s _ _ _ (T2.setTop (mkF m 9 #[.val (.ref a), .val (.ref b)] [(.int (XT.cmpL va vb))]))
  by_cases c3 : vb < va
  · refine Goes.st (fun t k => XS.ifYes X2.here hx rfl (pc0 := 9) (pc' := 36) rfl (hb hby d_prog_27_method_2_9) rfl (XT.ll_gt_t c3) (by decide) (by decide) k) ?_
    show Goes p e below s _ _ _ (T2.setTop (mkF m 36 #[.val (.ref a), .val (.ref b)] []))
    refine Goes.st (fun t k => XS.iconst X2.here hx rfl (hb hby d_prog_27_method_2_36) k) ?_
    show Goes p e below s _ _ _ (T2.setTop (mkF m 37 #[.val (.ref a), .val (.ref b)] [(.int (1 : Int32))]))
    refine Goes.st (fun t k => XS.goto X2.here hx rfl (pc0 := 37) (pc' := 41) rfl (hb hby d_prog_27_method_2_37) (by decide) (by decide) k) ?_
    show Goes p e below s _ _ _ (T2.setTop (mkF m 41 #[.val (.ref a), .val (.ref b)] [(.int (1 : Int32))]))
    refine Goes.retN X2 hx hlk hret (by simp) (hb hby d_prog_27_method_2_41) (by decide) ?_ (by decide) (by decide)
    rw [e2]
    exact ⟨by simp [gtG, c3], N0, rfl⟩
  · refine Goes.st (fun t k => XS.ifNo X2.here hx rfl (hb hby d_prog_27_method_2_9) rfl (XT.ll_gt_f c3) k) ?_
    show Goes p e below s _ _ _ (T2.setTop (mkF m 12 #[.val (.ref a), .val (.ref b)] []))
    refine Goes.st (fun t k => XS.aloadN X2.here hx rfl (hb hby d_prog_27_method_2_12) rfl rfl k) ?_
    show Goes p e below s _ _ _ (T2.setTop (mkF m 13 #[.val (.ref a), .val (.ref b)] [(.ref a)]))
    obtain ⟨T4, X4, e4, st4⟩ := getF X2 hx hZ hown (host := "") (Or.inl (hw _ (List.mem_of_getElem? (i := 14) rfl))) Via.refl e2 Fva (g := (mkF m 13 #[.val (.ref a), .val (.ref b)] [(.ref a)])) rfl rfl (hb hby d_prog_27_method_2_13)
    refine Goes.st st4 ?_
    show Goes p e below s _ _ _ (T4.setTop (mkF m 16 #[.val (.ref a), .val (.ref b)] [(.long va)]))
    refine Goes.st (fun t k => XS.aloadN X4.here hx rfl (hb hby d_prog_27_method_2_16) rfl rfl k) ?_
    show Goes p e below s _ _ _ (T4.setTop (mkF m 17 #[.val (.ref a), .val (.ref b)] [(.ref b), (.long va)]))
    obtain ⟨T5, X5, e5, st5⟩ := getF X4 hx hZ hown (host := "") (Or.inl (hw _ (List.mem_of_getElem? (i := 14) rfl))) Via.refl e4 Fvb (g := (mkF m 17 #[.val (.ref a), .val (.ref b)] [(.ref b), (.long va)])) rfl rfl (hb hby d_prog_27_method_2_17)
    refine Goes.st st5 ?_
    show Goes p e below s _ _ _ (T5.setTop (mkF m 20 #[.val (.ref a), .val (.ref b)] [(.long vb), (.long va)]))
    refine Goes.st (fun t k => XT.lcmp X5.here hx rfl (hb hby d_prog_27_method_2_20) rfl k) ?_
    show Goes p e below s _ _ _ (T5.setTop (mkF m 21 #[.val (.ref a), .val (.ref b)] [(.int (XT.cmpL va vb))]))
    by_cases c6 : va = vb
    · refine Goes.st (fun t k => XS.ifNo X5.here hx rfl (hb hby d_prog_27_method_2_21) rfl (XT.ll_ne_f c6) k) ?_
      show Goes p e below s _ _ _ (T5.setTop (mkF m 24 #[.val (.ref a), .val (.ref b)] []))
      refine Goes.st (fun t k => XS.aloadN X5.here hx rfl (hb hby d_prog_27_method_2_24) rfl rfl k) ?_
      show Goes p e below s _ _ _ (T5.setTop (mkF m 25 #[.val (.ref a), .val (.ref b)] [(.ref a)]))
      obtain ⟨T7, X7, e7, st7⟩ := getF X5 hx hZ hown (host := "") (Or.inl (hw _ (List.mem_of_getElem? (i := 16) rfl))) Via.refl e5 Fta (g := (mkF m 25 #[.val (.ref a), .val (.ref b)] [(.ref a)])) rfl rfl (hb hby d_prog_27_method_2_25)
      refine Goes.st st7 ?_
      show Goes p e below s _ _ _ (T7.setTop (mkF m 28 #[.val (.ref a), .val (.ref b)] [(.double ta)]))
      refine Goes.st (fun t k => XS.aloadN X7.here hx rfl (hb hby d_prog_27_method_2_28) rfl rfl k) ?_
      show Goes p e below s _ _ _ (T7.setTop (mkF m 29 #[.val (.ref a), .val (.ref b)] [(.ref b), (.double ta)]))
      obtain ⟨T8, X8, e8, st8⟩ := getF X7 hx hZ hown (host := "") (Or.inl (hw _ (List.mem_of_getElem? (i := 16) rfl))) Via.refl e7 Ftb (g := (mkF m 29 #[.val (.ref a), .val (.ref b)] [(.ref b), (.double ta)])) rfl rfl (hb hby d_prog_27_method_2_29)
      refine Goes.st st8 ?_
      show Goes p e below s _ _ _ (T8.setTop (mkF m 32 #[.val (.ref a), .val (.ref b)] [(.double tb), (.double ta)]))
      refine Goes.st (fun t k => XS.dcmpS X8.here hx rfl (hb hby d_prog_27_method_2_32) rfl (v := (cmpValue (FP.dcmp ta tb) .l)) rfl k) ?_
      show Goes p e below s _ _ _ (T8.setTop (mkF m 33 #[.val (.ref a), .val (.ref b)] [(.int (cmpValue (FP.dcmp ta tb) .l))]))
      by_cases c9 : (0 : Int32) < (cmpValue (FP.dcmp ta tb) .l)
      · refine Goes.st (fun t k => XS.ifNo X8.here hx rfl (hb hby d_prog_27_method_2_33) rfl ((if0 _ _).trans (tlt c9).2.2.2) k) ?_
        show Goes p e below s _ _ _ (T8.setTop (mkF m 36 #[.val (.ref a), .val (.ref b)] []))
        refine Goes.st (fun t k => XS.iconst X8.here hx rfl (hb hby d_prog_27_method_2_36) k) ?_
        show Goes p e below s _ _ _ (T8.setTop (mkF m 37 #[.val (.ref a), .val (.ref b)] [(.int (1 : Int32))]))
        refine Goes.st (fun t k => XS.goto X8.here hx rfl (pc0 := 37) (pc' := 41) rfl (hb hby d_prog_27_method_2_37) (by decide) (by decide) k) ?_
        show Goes p e below s _ _ _ (T8.setTop (mkF m 41 #[.val (.ref a), .val (.ref b)] [(.int (1 : Int32))]))
        refine Goes.retN X8 hx hlk hret (by simp) (hb hby d_prog_27_method_2_41) (by decide) ?_ (by decide) (by decide)
        rw [e8]
        exact ⟨by simp [gtG, c3, c6, c9], N0, rfl⟩
      · refine Goes.st (fun t k => XS.ifYes X8.here hx rfl (pc0 := 33) (pc' := 40) rfl (hb hby d_prog_27_method_2_33) rfl ((if0 _ _).trans (flt c9).2.2.2) (by decide) (by decide) k) ?_
        show Goes p e below s _ _ _ (T8.setTop (mkF m 40 #[.val (.ref a), .val (.ref b)] []))
        refine Goes.st (fun t k => XS.iconst X8.here hx rfl (hb hby d_prog_27_method_2_40) k) ?_
        show Goes p e below s _ _ _ (T8.setTop (mkF m 41 #[.val (.ref a), .val (.ref b)] [(.int (0 : Int32))]))
        refine Goes.retN X8 hx hlk hret (by simp) (hb hby d_prog_27_method_2_41) (by decide) ?_ (by decide) (by decide)
        rw [e8]
        exact ⟨by simp [gtG, c3, c6, c9], N0, rfl⟩
    · refine Goes.st (fun t k => XS.ifYes X5.here hx rfl (pc0 := 21) (pc' := 40) rfl (hb hby d_prog_27_method_2_21) rfl (XT.ll_ne_t c6) (by decide) (by decide) k) ?_
      show Goes p e below s _ _ _ (T5.setTop (mkF m 40 #[.val (.ref a), .val (.ref b)] []))
      refine Goes.st (fun t k => XS.iconst X5.here hx rfl (hb hby d_prog_27_method_2_40) k) ?_
      show Goes p e below s _ _ _ (T5.setTop (mkF m 41 #[.val (.ref a), .val (.ref b)] [(.int (0 : Int32))]))
      refine Goes.retN X5 hx hlk hret (by simp) (hb hby d_prog_27_method_2_41) (by decide) ?_ (by decide) (by decide)
      rw [e5]
      exact ⟨by simp [gtG, c3, c6], N0, rfl⟩
theorem d_method_2_0 : decode method_2_code 0 = .ok (.lload_n 0, 1) := by decide +kernel
theorem d_method_2_1 : decode method_2_code 1 = .ok (.lload 4, 2) := by decide +kernel
theorem d_method_2_3 : decode method_2_code 3 = .ok (.lcmp, 1) := by decide +kernel
theorem d_method_2_4 : decode method_2_code 4 = .ok (.ifCond .le 5, 3) := by decide +kernel
theorem d_method_2_7 : decode method_2_code 7 = .ok (.iconst 1, 1) := by decide +kernel
theorem d_method_2_8 : decode method_2_code 8 = .ok (.ireturn, 1) := by decide +kernel
theorem d_method_2_9 : decode method_2_code 9 = .ok (.lload_n 0, 1) := by decide +kernel
theorem d_method_2_10 : decode method_2_code 10 = .ok (.lload 4, 2) := by decide +kernel
theorem d_method_2_12 : decode method_2_code 12 = .ok (.lcmp, 1) := by decide +kernel
theorem d_method_2_13 : decode method_2_code 13 = .ok (.ifCond .ge 5, 3) := by decide +kernel
theorem d_method_2_16 : decode method_2_code 16 = .ok (.iconst 0, 1) := by decide +kernel
theorem d_method_2_17 : decode method_2_code 17 = .ok (.ireturn, 1) := by decide +kernel
theorem d_method_2_18 : decode method_2_code 18 = .ok (.dload_n 2, 1) := by decide +kernel
theorem d_method_2_19 : decode method_2_code 19 = .ok (.dload 6, 2) := by decide +kernel
theorem d_method_2_21 : decode method_2_code 21 = .ok (.dcmp .l, 1) := by decide +kernel
theorem d_method_2_22 : decode method_2_code 22 = .ok (.ifCond .le 7, 3) := by decide +kernel
theorem d_method_2_25 : decode method_2_code 25 = .ok (.iconst 1, 1) := by decide +kernel
theorem d_method_2_26 : decode method_2_code 26 = .ok (.goto 4, 3) := by decide +kernel
theorem d_method_2_29 : decode method_2_code 29 = .ok (.iconst 0, 1) := by decide +kernel
theorem d_method_2_30 : decode method_2_code 30 = .ok (.ireturn, 1) := by decide +kernel
theorem pn_com_example_parley_parley_GainIsLargerThanPinLaw : plainName "com/example/parley/parley/GainIsLargerThanPinLaw" = true := by first | (simp [plainName, overriddenIn]; done) | decide +kernel
theorem ef_E (m : MethodId) (x0 : Int64) (x1 : UInt64) (x2 : Int64) (x3 : UInt64) : entryFrame m #[(.long x0), (.double x1), (.long x2), (.double x3)] 8 = mkF m 0 #[.val (.long x0), .second, .val (.double x1), .second, .val (.long x2), .second, .val (.double x3), .second] [] := by first | (simp [entryFrame, mkF, argsToLocals, Value.category]; done) | rfl
def QE (Z : State) (va : Int64) (ta : UInt64) (vb : Int64) (tb : UInt64) (h0 : Heap) (n0 : Nat) (v : Option Value) (h : Heap) (L : List Loc) : Prop := v = some (.int (gtG va ta vb tb)) ∧ Fr n0 L ∧ h = h0
set_option maxRecDepth 65536 in
set_option maxHeartbeats 40000000 in
theorem rmE (l : Launch) (Z : State) (a0 : Array Value) (hw : ∀ d ∈ tables_1, d.before a0 Z = true) (ws : List Jvm.Cond) (va : Int64) (ta : UInt64) (vb : Int64) (tb : UInt64) (h0 : Heap) (n0 : Nat) (Z0 : n0 ≤ h0.size)  :
    MetFree l (⟨"com/example/parley/parley/GainIsLargerThanPinLaw", "expected", "(JDJD)Z"⟩ : MethodName) (head1 (Jvm.Cond.code (⟨"com/example/parley/parley/GainIsLargerThanPinLaw", "expected", "(JDJD)Z"⟩ : MethodName) method_2_code 8 (some .boolean) :: ws) ({ frames := 0, cells := 0, slots := 0, locals := 0 } : Room)) (fun aa U => aa = #[(.long va), (.double ta), (.long vb), (.double tb)] ∧ Z.Warmed39 U.vm ∧ U.heap = h0) (fun _ _ _ _ _ => True) (fun _ U o U' => ∃ v L, o = .returned v ∧ QE Z va ta vb tb h0 n0 v U'.heap L ∧ FrameEnd U o U' L ({ frames := 0, cells := 0, slots := 0, locals := 0 } : Room).cells ({ frames := 0, cells := 0, slots := 0, locals := 0 } : Room).slots) := by
  refine MetFree.of_bodySF (plainFor_of_name pn_com_example_parley_parley_GainIsLargerThanPinLaw) hisR ?_
  intro p e s m args below meth c s₁ Bd hml0 hP hK
  obtain ⟨rfl, hZ, hh⟩ := hP
  have hx := Bd.exec
  have hby := Bd.bytes
  have hlk := BodyLoose.notSynchronized Bd
  have hret := Bd.returns
  have hml : c.maxLocals = 8 := hml0
  have hown : s.vm.findClass "com/example/parley/parley/GainIsLargerThanPinLaw" = some m.cls := findClass_of_methodNamed Bd.named
  have hnm := (name_of_methodNamed Bd.named Bd.method).1
  have X0 : Stand p l e ({ frames := 0, cells := 0, slots := 0, locals := 0 } : Room) s m #[(.long va), (.double ta), (.long vb), (.double tb)] below meth c s₁ [] 0 0 := Stand.of_body Bd
  have e0 : s₁.heap = h0 := by rw [← hh, Bd.state]; rfl
  have N0 := Fr.nil n0
  refine Goes.st (s := s) (Q := QE Z va ta vb tb h0 n0) (cs := ({ frames := 0, cells := 0, slots := 0, locals := 0 } : Room).cells) (ss := ({ frames := 0, cells := 0, slots := 0, locals := 0 } : Room).slots) (fun t k => castTop (ef_E m va ta vb tb) k) ?_
  show Goes p e below s _ _ _ (s₁.setTop (mkF m 0 #[.val (.long va), .second, .val (.double ta), .second, .val (.long vb), .second, .val (.double tb), .second] []))
  refine Goes.st (fun t k => XT.lloadN X0.here hx rfl (hb hby d_method_2_0) rfl k) ?_
  show Goes p e below s _ _ _ (s₁.setTop (mkF m 1 #[.val (.long va), .second, .val (.double ta), .second, .val (.long vb), .second, .val (.double tb), .second] [(.long va)]))
  refine Goes.st (fun t k => XT.lload X0.here hx rfl (hb hby d_method_2_1) rfl k) ?_
  show Goes p e below s _ _ _ (s₁.setTop (mkF m 3 #[.val (.long va), .second, .val (.double ta), .second, .val (.long vb), .second, .val (.double tb), .second] [(.long vb), (.long va)]))
  refine Goes.st (fun t k => XT.lcmp X0.here hx rfl (hb hby d_method_2_3) rfl k) ?_
  show Goes p e below s _ _ _ (s₁.setTop (mkF m 4 #[.val (.long va), .second, .val (.double ta), .second, .val (.long vb), .second, .val (.double tb), .second] [(.int (XT.cmpL va vb))]))
  by_cases c1 : vb < va
  · refine Goes.st (fun t k => XS.ifNo X0.here hx rfl (hb hby d_method_2_4) rfl (XT.ll_le_f c1) k) ?_
    show Goes p e below s _ _ _ (s₁.setTop (mkF m 7 #[.val (.long va), .second, .val (.double ta), .second, .val (.long vb), .second, .val (.double tb), .second] []))
    refine Goes.st (fun t k => XS.iconst X0.here hx rfl (hb hby d_method_2_7) k) ?_
    show Goes p e below s _ _ _ (s₁.setTop (mkF m 8 #[.val (.long va), .second, .val (.double ta), .second, .val (.long vb), .second, .val (.double tb), .second] [(.int (1 : Int32))]))
    refine Goes.retN X0 hx hlk hret (by simp) (hb hby d_method_2_8) (by decide) ?_ (by decide) (by decide)
    rw [e0]
    exact ⟨by simp [gtG, c1], N0, rfl⟩
  · refine Goes.st (fun t k => XS.ifYes X0.here hx rfl (pc0 := 4) (pc' := 9) rfl (hb hby d_method_2_4) rfl (XT.ll_le_t c1) (by decide) (by decide) k) ?_
    show Goes p e below s _ _ _ (s₁.setTop (mkF m 9 #[.val (.long va), .second, .val (.double ta), .second, .val (.long vb), .second, .val (.double tb), .second] []))
    refine Goes.st (fun t k => XT.lloadN X0.here hx rfl (hb hby d_method_2_9) rfl k) ?_
    show Goes p e below s _ _ _ (s₁.setTop (mkF m 10 #[.val (.long va), .second, .val (.double ta), .second, .val (.long vb), .second, .val (.double tb), .second] [(.long va)]))
    refine Goes.st (fun t k => XT.lload X0.here hx rfl (hb hby d_method_2_10) rfl k) ?_
    show Goes p e below s _ _ _ (s₁.setTop (mkF m 12 #[.val (.long va), .second, .val (.double ta), .second, .val (.long vb), .second, .val (.double tb), .second] [(.long vb), (.long va)]))
    refine Goes.st (fun t k => XT.lcmp X0.here hx rfl (hb hby d_method_2_12) rfl k) ?_
    show Goes p e below s _ _ _ (s₁.setTop (mkF m 13 #[.val (.long va), .second, .val (.double ta), .second, .val (.long vb), .second, .val (.double tb), .second] [(.int (XT.cmpL va vb))]))
    by_cases c2 : va < vb
    · refine Goes.st (fun t k => XS.ifNo X0.here hx rfl (hb hby d_method_2_13) rfl (XT.ll_ge_f c2) k) ?_
      show Goes p e below s _ _ _ (s₁.setTop (mkF m 16 #[.val (.long va), .second, .val (.double ta), .second, .val (.long vb), .second, .val (.double tb), .second] []))
      refine Goes.st (fun t k => XS.iconst X0.here hx rfl (hb hby d_method_2_16) k) ?_
      show Goes p e below s _ _ _ (s₁.setTop (mkF m 17 #[.val (.long va), .second, .val (.double ta), .second, .val (.long vb), .second, .val (.double tb), .second] [(.int (0 : Int32))]))
      refine Goes.retN X0 hx hlk hret (by simp) (hb hby d_method_2_17) (by decide) ?_ (by decide) (by decide)
      rw [e0]
      exact ⟨by simp [gtG, c1, c2, own_ne64 c2], N0, rfl⟩
    · refine Goes.st (fun t k => XS.ifYes X0.here hx rfl (pc0 := 13) (pc' := 18) rfl (hb hby d_method_2_13) rfl (XT.ll_ge_t c2) (by decide) (by decide) k) ?_
      show Goes p e below s _ _ _ (s₁.setTop (mkF m 18 #[.val (.long va), .second, .val (.double ta), .second, .val (.long vb), .second, .val (.double tb), .second] []))
      refine Goes.st (fun t k => XS.dloadN X0.here hx rfl (hb hby d_method_2_18) rfl k) ?_
      show Goes p e below s _ _ _ (s₁.setTop (mkF m 19 #[.val (.long va), .second, .val (.double ta), .second, .val (.long vb), .second, .val (.double tb), .second] [(.double ta)]))
      refine Goes.st (fun t k => XS.dload X0.here hx rfl (hb hby d_method_2_19) rfl k) ?_
      show Goes p e below s _ _ _ (s₁.setTop (mkF m 21 #[.val (.long va), .second, .val (.double ta), .second, .val (.long vb), .second, .val (.double tb), .second] [(.double tb), (.double ta)]))
      refine Goes.st (fun t k => XS.dcmpS X0.here hx rfl (hb hby d_method_2_21) rfl (v := (cmpValue (FP.dcmp ta tb) .l)) rfl k) ?_
      show Goes p e below s _ _ _ (s₁.setTop (mkF m 22 #[.val (.long va), .second, .val (.double ta), .second, .val (.long vb), .second, .val (.double tb), .second] [(.int (cmpValue (FP.dcmp ta tb) .l))]))
      by_cases c3 : (0 : Int32) < (cmpValue (FP.dcmp ta tb) .l)
      · refine Goes.st (fun t k => XS.ifNo X0.here hx rfl (hb hby d_method_2_22) rfl ((if0 _ _).trans (tlt c3).2.2.2) k) ?_
        show Goes p e below s _ _ _ (s₁.setTop (mkF m 25 #[.val (.long va), .second, .val (.double ta), .second, .val (.long vb), .second, .val (.double tb), .second] []))
        refine Goes.st (fun t k => XS.iconst X0.here hx rfl (hb hby d_method_2_25) k) ?_
        show Goes p e below s _ _ _ (s₁.setTop (mkF m 26 #[.val (.long va), .second, .val (.double ta), .second, .val (.long vb), .second, .val (.double tb), .second] [(.int (1 : Int32))]))
        refine Goes.st (fun t k => XS.goto X0.here hx rfl (pc0 := 26) (pc' := 30) rfl (hb hby d_method_2_26) (by decide) (by decide) k) ?_
        show Goes p e below s _ _ _ (s₁.setTop (mkF m 30 #[.val (.long va), .second, .val (.double ta), .second, .val (.long vb), .second, .val (.double tb), .second] [(.int (1 : Int32))]))
        refine Goes.retN X0 hx hlk hret (by simp) (hb hby d_method_2_30) (by decide) ?_ (by decide) (by decide)
        rw [e0]
        exact ⟨by have q := own_eq64 c1 c2; subst q; simp [gtG, c1, c3], N0, rfl⟩
      · refine Goes.st (fun t k => XS.ifYes X0.here hx rfl (pc0 := 22) (pc' := 29) rfl (hb hby d_method_2_22) rfl ((if0 _ _).trans (flt c3).2.2.2) (by decide) (by decide) k) ?_
        show Goes p e below s _ _ _ (s₁.setTop (mkF m 29 #[.val (.long va), .second, .val (.double ta), .second, .val (.long vb), .second, .val (.double tb), .second] []))
        refine Goes.st (fun t k => XS.iconst X0.here hx rfl (hb hby d_method_2_29) k) ?_
        show Goes p e below s _ _ _ (s₁.setTop (mkF m 30 #[.val (.long va), .second, .val (.double ta), .second, .val (.long vb), .second, .val (.double tb), .second] [(.int (0 : Int32))]))
        refine Goes.retN X0 hx hlk hret (by simp) (hb hby d_method_2_30) (by decide) ?_ (by decide) (by decide)
        rw [e0]
        exact ⟨by have q := own_eq64 c1 c2; subst q; simp [gtG, c1, c3], N0, rfl⟩
theorem pd__JD_V_b18 : parseMethodDescriptor "(JD)V" = some ⟨[.long, .double], none⟩ := by decide +kernel
theorem pd__Lcom_example_parley_parley_LocalSearch_Gain__Z_fa69 : parseMethodDescriptor "(Lcom/example/parley/parley/LocalSearch$Gain;)Z" = some ⟨[(.object "com/example/parley/parley/LocalSearch$Gain")], some .boolean⟩ := by decide +kernel
theorem pd__JDJD_Z_121a : parseMethodDescriptor "(JDJD)Z" = some ⟨[.long, .double, .long, .double], some .boolean⟩ := by decide +kernel
theorem ef_0 (m : MethodId) (x0 : Int64) (x1 : Int64) (x2 : Int32) (x3 : Int32) (x4 : Int32) : entryFrame m #[(.long x0), (.long x1), (.int x2), (.int x3), (.int x4)] maxLocals = mkF m 0 #[.val (.long x0), .second, .val (.long x1), .second, .val (.int x2), .val (.int x3), .val (.int x4), .unset, .unset, .unset, .unset, .unset, .unset, .unset, .unset, .unset, .unset] [] := by first | (simp [entryFrame, mkF, argsToLocals, Value.category, maxLocals]; done) | rfl
def Q0 (Z : State) (p0 p1 : Int64) (p2 p3 p4 : Int32) (h0 : Heap) (n0 : Nat) (v : Option Value) (h : Heap) (L : List Loc) : Prop := v = some (.int 1) ∧ Fr n0 L
set_option maxRecDepth 65536 in
set_option maxHeartbeats 40000000 in
theorem rm0 (l : Launch) (Z : State) (a0 : Array Value) (hw : ∀ d ∈ tables_1, d.before a0 Z = true) (ws : List Jvm.Cond) (p0 p1 : Int64) (p2 p3 p4 : Int32) (h0 : Heap) (n0 : Nat) (Z0 : n0 ≤ h0.size)  :
    MetFree l x (head1 (Jvm.Cond.code x code maxLocals ret :: ws) room_1) (fun aa U => aa = #[(.long p0), (.long p1), (.int p2), (.int p3), (.int p4)] ∧ Z.Warmed39 U.vm ∧ U.heap = h0) (fun _ _ _ _ _ => True) (fun _ U o U' => ∃ v L, o = .returned v ∧ Q0 Z p0 p1 p2 p3 p4 h0 n0 v U'.heap L ∧ FrameEnd U o U' L 16 128) := by
  refine MetFree.of_bodySF (plainFor_of_name pn_com_example_parley_parley_GainIsLargerThanPinLaw) hisR ?_
  intro p e s m args below meth c s₁ Bd hml0 hP hK
  obtain ⟨rfl, hZ, hh⟩ := hP
  have hx := Bd.exec
  have hby := Bd.bytes
  have hlk := BodyLoose.notSynchronized Bd
  have hret := Bd.returns
  have hml : c.maxLocals = 17 := hml0
  have hown : s.vm.findClass "com/example/parley/parley/GainIsLargerThanPinLaw" = some m.cls := findClass_of_methodNamed Bd.named
  have hnm := (name_of_methodNamed Bd.named Bd.method).1
  have X0 : Stand p l e room_1 s m #[(.long p0), (.long p1), (.int p2), (.int p3), (.int p4)] below meth c s₁ [] 0 0 := Stand.of_body Bd
  have e0 : s₁.heap = h0 := by rw [← hh, Bd.state]; rfl
  have N0 := Fr.nil n0
  refine Goes.st (s := s) (Q := Q0 Z p0 p1 p2 p3 p4 h0 n0) (cs := 16) (ss := 128) (fun t k => castTop (ef_0 m p0 p1 p2 p3 p4) k) ?_
  show Goes p e below s _ _ _ (s₁.setTop (mkF m 0 #[.val (.long p0), .second, .val (.long p1), .second, .val (.int p2), .val (.int p3), .val (.int p4), .unset, .unset, .unset, .unset, .unset, .unset, .unset, .unset, .unset, .unset] []))
  refine Goes.st (fun t k => XS.iload X0.here hx rfl (hb hby at_0) rfl k) ?_
  show Goes p e below s _ _ _ (s₁.setTop (mkF m 2 #[.val (.long p0), .second, .val (.long p1), .second, .val (.int p2), .val (.int p3), .val (.int p4), .unset, .unset, .unset, .unset, .unset, .unset, .unset, .unset, .unset, .unset] [(.int p4)]))
  refine Goes.st (fun t k => XS.iconst X0.here hx rfl (hb hby at_2) k) ?_
  show Goes p e below s _ _ _ (s₁.setTop (mkF m 3 #[.val (.long p0), .second, .val (.long p1), .second, .val (.int p2), .val (.int p3), .val (.int p4), .unset, .unset, .unset, .unset, .unset, .unset, .unset, .unset, .unset, .unset] [(.int (1 : Int32)), (.int p4)]))
  refine Goes.st (fun t k => XS.iand X0.here hx rfl (hb hby at_3) rfl k) ?_
  show Goes p e below s _ _ _ (s₁.setTop (mkF m 4 #[.val (.long p0), .second, .val (.long p1), .second, .val (.int p2), .val (.int p3), .val (.int p4), .unset, .unset, .unset, .unset, .unset, .unset, .unset, .unset, .unset, .unset] [(.int (p4 &&& (1 : Int32)))]))
  by_cases c1 : (p4 &&& (1 : Int32)) = (0 : Int32)
  · refine Goes.st (fun t k => XS.ifYes X0.here hx rfl (pc0 := 4) (pc' := 11) rfl (hb hby at_4) rfl ((if0 _ _).trans (teq c1).1) (by decide) (by decide) k) ?_
    show Goes p e below s _ _ _ (s₁.setTop (mkF m 11 #[.val (.long p0), .second, .val (.long p1), .second, .val (.int p2), .val (.int p3), .val (.int p4), .unset, .unset, .unset, .unset, .unset, .unset, .unset, .unset, .unset, .unset] []))
    refine Goes.st (fun t k => XT.lloadN X0.here hx rfl (hb hby at_11) rfl k) ?_
    show Goes p e below s _ _ _ (s₁.setTop (mkF m 12 #[.val (.long p0), .second, .val (.long p1), .second, .val (.int p2), .val (.int p3), .val (.int p4), .unset, .unset, .unset, .unset, .unset, .unset, .unset, .unset, .unset, .unset] [(.long p1)]))
    refine Goes.st (fun t k => XT.lstore X0.here hx rfl (hb hby at_12) rfl (l' := #[.val (.long p0), .second, .val (.long p1), .second, .val (.int p2), .val (.int p3), .val (.int p4), .val (.long p1), .second, .unset, .unset, .unset, .unset, .unset, .unset, .unset, .unset]) rfl k) ?_
    show Goes p e below s _ _ _ (s₁.setTop (mkF m 14 #[.val (.long p0), .second, .val (.long p1), .second, .val (.int p2), .val (.int p3), .val (.int p4), .val (.long p1), .second, .unset, .unset, .unset, .unset, .unset, .unset, .unset, .unset] []))
    refine Goes.st (fun t k => XS.iload X0.here hx rfl (hb hby at_14) rfl k) ?_
    show Goes p e below s _ _ _ (s₁.setTop (mkF m 16 #[.val (.long p0), .second, .val (.long p1), .second, .val (.int p2), .val (.int p3), .val (.int p4), .val (.long p1), .second, .unset, .unset, .unset, .unset, .unset, .unset, .unset, .unset] [(.int p2)]))
    refine Goes.st (fun t k => XS.i2dS X0.here hx rfl (hb hby at_16) rfl (v := (FP.i2d p2)) rfl k) ?_
    show Goes p e below s _ _ _ (s₁.setTop (mkF m 17 #[.val (.long p0), .second, .val (.long p1), .second, .val (.int p2), .val (.int p3), .val (.int p4), .val (.long p1), .second, .unset, .unset, .unset, .unset, .unset, .unset, .unset, .unset] [(.double (FP.i2d p2))]))
    refine Goes.st (fun t k => XS.dstore X0.here hx rfl (hb hby at_17) rfl (l' := #[.val (.long p0), .second, .val (.long p1), .second, .val (.int p2), .val (.int p3), .val (.int p4), .val (.long p1), .second, .val (.double (FP.i2d p2)), .second, .unset, .unset, .unset, .unset, .unset, .unset]) rfl k) ?_
    show Goes p e below s _ _ _ (s₁.setTop (mkF m 19 #[.val (.long p0), .second, .val (.long p1), .second, .val (.int p2), .val (.int p3), .val (.int p4), .val (.long p1), .second, .val (.double (FP.i2d p2)), .second, .unset, .unset, .unset, .unset, .unset, .unset] []))
    refine Goes.st (fun t k => XS.iload X0.here hx rfl (hb hby at_19) rfl k) ?_
    show Goes p e below s _ _ _ (s₁.setTop (mkF m 21 #[.val (.long p0), .second, .val (.long p1), .second, .val (.int p2), .val (.int p3), .val (.int p4), .val (.long p1), .second, .val (.double (FP.i2d p2)), .second, .unset, .unset, .unset, .unset, .unset, .unset] [(.int p4)]))
    refine Goes.st (fun t k => XS.iconst X0.here hx rfl (hb hby at_21) k) ?_
    show Goes p e below s _ _ _ (s₁.setTop (mkF m 22 #[.val (.long p0), .second, .val (.long p1), .second, .val (.int p2), .val (.int p3), .val (.int p4), .val (.long p1), .second, .val (.double (FP.i2d p2)), .second, .unset, .unset, .unset, .unset, .unset, .unset] [(.int (2 : Int32)), (.int p4)]))
    refine Goes.st (fun t k => XS.iand X0.here hx rfl (hb hby at_22) rfl k) ?_
    show Goes p e below s _ _ _ (s₁.setTop (mkF m 23 #[.val (.long p0), .second, .val (.long p1), .second, .val (.int p2), .val (.int p3), .val (.int p4), .val (.long p1), .second, .val (.double (FP.i2d p2)), .second, .unset, .unset, .unset, .unset, .unset, .unset] [(.int (p4 &&& (2 : Int32)))]))
    by_cases c2 : (p4 &&& (2 : Int32)) = (0 : Int32)
    · refine Goes.st (fun t k => XS.ifYes X0.here hx rfl (pc0 := 23) (pc' := 42) rfl (hb hby at_23) rfl ((if0 _ _).trans (teq c2).1) (by decide) (by decide) k) ?_
      show Goes p e below s _ _ _ (s₁.setTop (mkF m 42 #[.val (.long p0), .second, .val (.long p1), .second, .val (.int p2), .val (.int p3), .val (.int p4), .val (.long p1), .second, .val (.double (FP.i2d p2)), .second, .unset, .unset, .unset, .unset, .unset, .unset] []))
      refine Goes.st (fun t k => XS.iload X0.here hx rfl (hb hby at_42) rfl k) ?_
      show Goes p e below s _ _ _ (s₁.setTop (mkF m 44 #[.val (.long p0), .second, .val (.long p1), .second, .val (.int p2), .val (.int p3), .val (.int p4), .val (.long p1), .second, .val (.double (FP.i2d p2)), .second, .unset, .unset, .unset, .unset, .unset, .unset] [(.int p3)]))
      refine Goes.st (fun t k => XS.i2dS X0.here hx rfl (hb hby at_44) rfl (v := (FP.i2d p3)) rfl k) ?_
      show Goes p e below s _ _ _ (s₁.setTop (mkF m 45 #[.val (.long p0), .second, .val (.long p1), .second, .val (.int p2), .val (.int p3), .val (.int p4), .val (.long p1), .second, .val (.double (FP.i2d p2)), .second, .unset, .unset, .unset, .unset, .unset, .unset] [(.double (FP.i2d p3))]))
      refine Goes.st (fun t k => XS.dstore X0.here hx rfl (hb hby at_45) rfl (l' := #[.val (.long p0), .second, .val (.long p1), .second, .val (.int p2), .val (.int p3), .val (.int p4), .val (.long p1), .second, .val (.double (FP.i2d p2)), .second, .val (.double (FP.i2d p3)), .second, .unset, .unset, .unset, .unset]) rfl k) ?_
      show Goes p e below s _ _ _ (s₁.setTop (mkF m 47 #[.val (.long p0), .second, .val (.long p1), .second, .val (.int p2), .val (.int p3), .val (.int p4), .val (.long p1), .second, .val (.double (FP.i2d p2)), .second, .val (.double (FP.i2d p3)), .second, .unset, .unset, .unset, .unset] []))
      obtain ⟨T3, h3, X3, e3, E3, A3, D3, -, st3⟩ := newO X0 hx hZ hown (hw _ (List.mem_of_getElem? (i := 0) rfl)) (hw _ (List.mem_of_getElem? (i := 1) rfl)) (hw _ (List.mem_of_getElem? (i := 2) rfl)) e0 (g := (mkF m 47 #[.val (.long p0), .second, .val (.long p1), .second, .val (.int p2), .val (.int p3), .val (.int p4), .val (.long p1), .second, .val (.double (FP.i2d p2)), .second, .val (.double (FP.i2d p3)), .second, .unset, .unset, .unset, .unset] [])) rfl (hb hby at_47) (by decide) (by decide)
      obtain ⟨b3, g3⟩ : ∃ z, z = h0.size := ⟨_, rfl⟩
      rw [← g3] at A3 D3 st3
      have lo_b3 : n0 ≤ b3 := by have := Z0; omega
      refine Goes.st st3 ?_
      have Z3 : n0 ≤ h3.size := Nat.le_trans Z0 E3.1
      have F3_violations : Fld Z h3 b3 "com/example/parley/parley/LocalSearch$Gain" "violations" "J" (.long (0 : Int64)) := D3 (Or.inr (hw _ (List.mem_of_getElem? (i := 15) rfl))) (ty := .long) (by decide)
      have F3_total : Fld Z h3 b3 "com/example/parley/parley/LocalSearch$Gain" "total" "D" (.double (0 : UInt64)) := D3 (Or.inr (hw _ (List.mem_of_getElem? (i := 17) rfl))) (ty := .double) (by decide)
      show Goes p e below s _ _ _ (T3.setTop (mkF m 50 #[.val (.long p0), .second, .val (.long p1), .second, .val (.int p2), .val (.int p3), .val (.int p4), .val (.long p1), .second, .val (.double (FP.i2d p2)), .second, .val (.double (FP.i2d p3)), .second, .unset, .unset, .unset, .unset] [(.ref b3)]))
      refine Goes.st (fun t k => XS.dup X3.here hx rfl (hb hby at_50) rfl rfl k) ?_
      show Goes p e below s _ _ _ (T3.setTop (mkF m 51 #[.val (.long p0), .second, .val (.long p1), .second, .val (.int p2), .val (.int p3), .val (.int p4), .val (.long p1), .second, .val (.double (FP.i2d p2)), .second, .val (.double (FP.i2d p3)), .second, .unset, .unset, .unset, .unset] [(.ref b3), (.ref b3)]))
      refine Goes.st (fun t k => XT.lloadN X3.here hx rfl (hb hby at_51) rfl k) ?_
      show Goes p e below s _ _ _ (T3.setTop (mkF m 52 #[.val (.long p0), .second, .val (.long p1), .second, .val (.int p2), .val (.int p3), .val (.int p4), .val (.long p1), .second, .val (.double (FP.i2d p2)), .second, .val (.double (FP.i2d p3)), .second, .unset, .unset, .unset, .unset] [(.long p0), (.ref b3), (.ref b3)]))
      refine Goes.st (fun t k => XS.dload X3.here hx rfl (hb hby at_52) rfl k) ?_
      show Goes p e below s _ _ _ (T3.setTop (mkF m 54 #[.val (.long p0), .second, .val (.long p1), .second, .val (.int p2), .val (.int p3), .val (.int p4), .val (.long p1), .second, .val (.double (FP.i2d p2)), .second, .val (.double (FP.i2d p3)), .second, .unset, .unset, .unset, .unset] [(.double (FP.i2d p2)), (.long p0), (.ref b3), (.ref b3)]))
      obtain ⟨_, _, ⟨T5, L5, k5, n5⟩, -, X5, ⟨Lc5, hQ5, l5, y5, z5⟩, st5⟩ := X3.specialBack hx (y := (⟨"com/example/parley/parley/LocalSearch$Gain", "<init>", "(JD)V"⟩ : MethodName)) rfl hown (mvT hZ (hw _ (List.mem_of_getElem? (i := 3) rfl))) (mvT hZ (hw _ (List.mem_of_getElem? (i := 4) rfl))) (mvT hZ (hw _ (List.mem_of_getElem? (i := 5) rfl))) (by decide) (backOf (W := 1) (rmC l Z a0 hw [] b3 p0 (FP.i2d p2) (.long (0 : Int64)) (.double (0 : UInt64)) h3 n0 Z3 A3 lo_b3 F3_violations F3_total) hZ (hw _ (List.mem_of_getElem? (i := 5) rfl)) (hw _ (List.mem_of_getElem? (i := 2) rfl)) (by decide) (by decide)) (g := (mkF m 54 #[.val (.long p0), .second, .val (.long p1), .second, .val (.int p2), .val (.int p3), .val (.int p4), .val (.long p1), .second, .val (.double (FP.i2d p2)), .second, .val (.double (FP.i2d p3)), .second, .unset, .unset, .unset, .unset] [(.double (FP.i2d p2)), (.long p0), (.ref b3), (.ref b3)])) rfl (by rw [hml]; rfl) (Steps.refl _) (a := b3) (argsL := [(.long p0), (.double (FP.i2d p2))]) (rest := [(.ref b3)]) (lenOf pd__JD_V_b18 rfl) rfl (by show 2 * 0 + _ ≤ _; exact Nat.le_of_eq rfl) (hb hby at_54) (fun _ _ => ⟨rfl, e3, (by decide : 1 + 0 ≤ 16), (by decide : 2 + 0 ≤ 128)⟩)
      dsimp only [Pt.U, Pt.locs, Pt.cells, Pt.slots] at X5 l5 y5 z5 st5 hQ5
      subst l5 y5 z5
      obtain ⟨rfl, N5q, K5, R5_0, R5_1⟩ := hQ5
      have Z5 : n0 ≤ T5.heap.size := Nat.le_trans Z3 K5.1
      have N5 := Fr.app N0 N5q
      refine Goes.sts st5 ?_
      show Goes p e below s _ _ _ (T5.setTop (mkF m 57 #[.val (.long p0), .second, .val (.long p1), .second, .val (.int p2), .val (.int p3), .val (.int p4), .val (.long p1), .second, .val (.double (FP.i2d p2)), .second, .val (.double (FP.i2d p3)), .second, .unset, .unset, .unset, .unset] [(.ref b3)]))
      refine Goes.st (fun t k => XS.astore X5.here hx rfl (hb hby at_57) rfl rfl (l' := #[.val (.long p0), .second, .val (.long p1), .second, .val (.int p2), .val (.int p3), .val (.int p4), .val (.long p1), .second, .val (.double (FP.i2d p2)), .second, .val (.double (FP.i2d p3)), .second, .val (.ref b3), .unset, .unset, .unset]) rfl k) ?_
      show Goes p e below s _ _ _ (T5.setTop (mkF m 59 #[.val (.long p0), .second, .val (.long p1), .second, .val (.int p2), .val (.int p3), .val (.int p4), .val (.long p1), .second, .val (.double (FP.i2d p2)), .second, .val (.double (FP.i2d p3)), .second, .val (.ref b3), .unset, .unset, .unset] []))
      obtain ⟨T7, h7, X7, e7, E7, A7, D7, -, st7⟩ := newO X5 hx hZ hown (hw _ (List.mem_of_getElem? (i := 0) rfl)) (hw _ (List.mem_of_getElem? (i := 1) rfl)) (hw _ (List.mem_of_getElem? (i := 2) rfl)) rfl (g := (mkF m 59 #[.val (.long p0), .second, .val (.long p1), .second, .val (.int p2), .val (.int p3), .val (.int p4), .val (.long p1), .second, .val (.double (FP.i2d p2)), .second, .val (.double (FP.i2d p3)), .second, .val (.ref b3), .unset, .unset, .unset] [])) rfl (hb hby at_59) (by decide) (by decide)
      obtain ⟨b7, g7⟩ : ∃ z, z = T5.heap.size := ⟨_, rfl⟩
      rw [← g7] at A7 D7 st7
      have f8 := (A3.keep K5)
      have ne_b3_b7 : b3 ≠ b7 := Nat.ne_of_lt (Nat.lt_of_lt_of_le f8.lt (Nat.le_of_eq g7.symm))
      have lo_b7 : n0 ≤ b7 := by have := Z5; omega
      refine Goes.st st7 ?_
      have Z7 : n0 ≤ h7.size := Nat.le_trans Z5 E7.1
      have F7_violations : Fld Z h7 b7 "com/example/parley/parley/LocalSearch$Gain" "violations" "J" (.long (0 : Int64)) := D7 (Or.inr (hw _ (List.mem_of_getElem? (i := 15) rfl))) (ty := .long) (by decide)
      have F7_total : Fld Z h7 b7 "com/example/parley/parley/LocalSearch$Gain" "total" "D" (.double (0 : UInt64)) := D7 (Or.inr (hw _ (List.mem_of_getElem? (i := 17) rfl))) (ty := .double) (by decide)
      show Goes p e below s _ _ _ (T7.setTop (mkF m 62 #[.val (.long p0), .second, .val (.long p1), .second, .val (.int p2), .val (.int p3), .val (.int p4), .val (.long p1), .second, .val (.double (FP.i2d p2)), .second, .val (.double (FP.i2d p3)), .second, .val (.ref b3), .unset, .unset, .unset] [(.ref b7)]))
      refine Goes.st (fun t k => XS.dup X7.here hx rfl (hb hby at_62) rfl rfl k) ?_
      show Goes p e below s _ _ _ (T7.setTop (mkF m 63 #[.val (.long p0), .second, .val (.long p1), .second, .val (.int p2), .val (.int p3), .val (.int p4), .val (.long p1), .second, .val (.double (FP.i2d p2)), .second, .val (.double (FP.i2d p3)), .second, .val (.ref b3), .unset, .unset, .unset] [(.ref b7), (.ref b7)]))
      refine Goes.st (fun t k => XT.lload X7.here hx rfl (hb hby at_63) rfl k) ?_
      show Goes p e below s _ _ _ (T7.setTop (mkF m 65 #[.val (.long p0), .second, .val (.long p1), .second, .val (.int p2), .val (.int p3), .val (.int p4), .val (.long p1), .second, .val (.double (FP.i2d p2)), .second, .val (.double (FP.i2d p3)), .second, .val (.ref b3), .unset, .unset, .unset] [(.long p1), (.ref b7), (.ref b7)]))
      refine Goes.st (fun t k => XS.dload X7.here hx rfl (hb hby at_65) rfl k) ?_
      show Goes p e below s _ _ _ (T7.setTop (mkF m 67 #[.val (.long p0), .second, .val (.long p1), .second, .val (.int p2), .val (.int p3), .val (.int p4), .val (.long p1), .second, .val (.double (FP.i2d p2)), .second, .val (.double (FP.i2d p3)), .second, .val (.ref b3), .unset, .unset, .unset] [(.double (FP.i2d p3)), (.long p1), (.ref b7), (.ref b7)]))
      obtain ⟨_, _, ⟨T10, L10, k10, n10⟩, -, X10, ⟨Lc10, hQ10, l10, y10, z10⟩, st10⟩ := X7.specialBack hx (y := (⟨"com/example/parley/parley/LocalSearch$Gain", "<init>", "(JD)V"⟩ : MethodName)) rfl hown (mvT hZ (hw _ (List.mem_of_getElem? (i := 3) rfl))) (mvT hZ (hw _ (List.mem_of_getElem? (i := 4) rfl))) (mvT hZ (hw _ (List.mem_of_getElem? (i := 5) rfl))) (by decide) (backOf (W := 1) (rmC l Z a0 hw [] b7 p1 (FP.i2d p3) (.long (0 : Int64)) (.double (0 : UInt64)) h7 n0 Z7 A7 lo_b7 F7_violations F7_total) hZ (hw _ (List.mem_of_getElem? (i := 5) rfl)) (hw _ (List.mem_of_getElem? (i := 2) rfl)) (by decide) (by decide)) (g := (mkF m 67 #[.val (.long p0), .second, .val (.long p1), .second, .val (.int p2), .val (.int p3), .val (.int p4), .val (.long p1), .second, .val (.double (FP.i2d p2)), .second, .val (.double (FP.i2d p3)), .second, .val (.ref b3), .unset, .unset, .unset] [(.double (FP.i2d p3)), (.long p1), (.ref b7), (.ref b7)])) rfl (by rw [hml]; rfl) (Steps.refl _) (a := b7) (argsL := [(.long p1), (.double (FP.i2d p3))]) (rest := [(.ref b7)]) (lenOf pd__JD_V_b18 rfl) rfl (by show 2 * 0 + _ ≤ _; exact Nat.le_of_eq rfl) (hb hby at_67) (fun _ _ => ⟨rfl, e7, (by decide : 2 + 0 ≤ 16), (by decide : 4 + 0 ≤ 128)⟩)
      dsimp only [Pt.U, Pt.locs, Pt.cells, Pt.slots] at X10 l10 y10 z10 st10 hQ10
      subst l10 y10 z10
      obtain ⟨rfl, N10q, K10, R10_0, R10_1⟩ := hQ10
      have Z10 : n0 ≤ T10.heap.size := Nat.le_trans Z7 K10.1
      have N10 := Fr.app N5 N10q
      refine Goes.sts st10 ?_
      show Goes p e below s _ _ _ (T10.setTop (mkF m 70 #[.val (.long p0), .second, .val (.long p1), .second, .val (.int p2), .val (.int p3), .val (.int p4), .val (.long p1), .second, .val (.double (FP.i2d p2)), .second, .val (.double (FP.i2d p3)), .second, .val (.ref b3), .unset, .unset, .unset] [(.ref b7)]))
      refine Goes.st (fun t k => XS.astore X10.here hx rfl (hb hby at_70) rfl rfl (l' := #[.val (.long p0), .second, .val (.long p1), .second, .val (.int p2), .val (.int p3), .val (.int p4), .val (.long p1), .second, .val (.double (FP.i2d p2)), .second, .val (.double (FP.i2d p3)), .second, .val (.ref b3), .val (.ref b7), .unset, .unset]) rfl k) ?_
      show Goes p e below s _ _ _ (T10.setTop (mkF m 72 #[.val (.long p0), .second, .val (.long p1), .second, .val (.int p2), .val (.int p3), .val (.int p4), .val (.long p1), .second, .val (.double (FP.i2d p2)), .second, .val (.double (FP.i2d p3)), .second, .val (.ref b3), .val (.ref b7), .unset, .unset] []))
      refine Goes.st (fun t k => XS.aload X10.here hx rfl (hb hby at_72) rfl rfl k) ?_
      show Goes p e below s _ _ _ (T10.setTop (mkF m 74 #[.val (.long p0), .second, .val (.long p1), .second, .val (.int p2), .val (.int p3), .val (.int p4), .val (.long p1), .second, .val (.double (FP.i2d p2)), .second, .val (.double (FP.i2d p3)), .second, .val (.ref b3), .val (.ref b7), .unset, .unset] [(.ref b3)]))
      refine Goes.st (fun t k => XS.aload X10.here hx rfl (hb hby at_74) rfl rfl k) ?_
      show Goes p e below s _ _ _ (T10.setTop (mkF m 76 #[.val (.long p0), .second, .val (.long p1), .second, .val (.int p2), .val (.int p3), .val (.int p4), .val (.long p1), .second, .val (.double (FP.i2d p2)), .second, .val (.double (FP.i2d p3)), .second, .val (.ref b3), .val (.ref b7), .unset, .unset] [(.ref b7), (.ref b3)]))
      have f12 := ((R5_0.ext E7).keep K10 (ninS ne_b3_b7 nin0))
      have f13 := ((R5_1.ext E7).keep K10 (ninS ne_b3_b7 nin0))
      have f15 := ((f8.ext E7).keep K10)
      obtain ⟨cq14, kq14, qa14, qb14, qc14⟩ := isOf hZ rfl f15
      obtain ⟨_, _, ⟨T14, L14, k14, n14⟩, -, X14, ⟨Lc14, hQ14, l14, y14, z14⟩, st14⟩ := X10.virtualBack hx (y := (⟨"com/example/parley/parley/LocalSearch$Gain", "isLargerThan", "(Lcom/example/parley/parley/LocalSearch$Gain;)Z"⟩ : MethodName)) (z := (⟨"com/example/parley/parley/LocalSearch$Gain", "isLargerThan", "(Lcom/example/parley/parley/LocalSearch$Gain;)Z"⟩ : MethodName)) hown (mvT hZ (hw _ (List.mem_of_getElem? (i := 18) rfl))) (mvT hZ (hw _ (List.mem_of_getElem? (i := 19) rfl))) (notFace_of_selects (args := #[]) (mvT hZ (hw _ (List.mem_of_getElem? (i := 21) rfl)))) (mvT hZ (hw _ (List.mem_of_getElem? (i := 21) rfl))) (mvT hZ (hw _ (List.mem_of_getElem? (i := 20) rfl))) (by decide) (backOf (W := 0) (rmL l Z a0 hw [] b3 b7 p0 p1 (FP.i2d p2) (FP.i2d p3) T10.heap n0 Z10 f12 f13 R10_0 R10_1) hZ (hw _ (List.mem_of_getElem? (i := 22) rfl)) (hw _ (List.mem_of_getElem? (i := 2) rfl)) (by decide) (by decide)) qa14 qc14 (g := (mkF m 76 #[.val (.long p0), .second, .val (.long p1), .second, .val (.int p2), .val (.int p3), .val (.int p4), .val (.long p1), .second, .val (.double (FP.i2d p2)), .second, .val (.double (FP.i2d p3)), .second, .val (.ref b3), .val (.ref b7), .unset, .unset] [(.ref b7), (.ref b3)])) rfl (by rw [hml]; rfl) (Steps.refl _) (argsL := [(.ref b7)]) (rest := []) (lenOf pd__Lcom_example_parley_parley_LocalSearch_Gain__Z_fa69 rfl) rfl (by show 2 * 0 + _ ≤ _; exact Nat.le_of_eq rfl) (hb hby at_76) (fun _ _ => ⟨rfl, rfl, (by decide : 2 + 0 ≤ 16), (by decide : 4 + 0 ≤ 128)⟩)
      dsimp only [Pt.U, Pt.locs, Pt.cells, Pt.slots] at X14 l14 y14 z14 st14 hQ14
      subst l14 y14 z14
      obtain ⟨rfl, N14q, eh14⟩ := hQ14
      have N14 := Fr.app N10 N14q
      refine Goes.sts st14 ?_
      show Goes p e below s _ _ _ (T14.setTop (mkF m 79 #[.val (.long p0), .second, .val (.long p1), .second, .val (.int p2), .val (.int p3), .val (.int p4), .val (.long p1), .second, .val (.double (FP.i2d p2)), .second, .val (.double (FP.i2d p3)), .second, .val (.ref b3), .val (.ref b7), .unset, .unset] [(.int (gtG p0 (FP.i2d p2) p1 (FP.i2d p3)))]))
      refine Goes.st (fun t k => XS.istore X14.here hx rfl (hb hby at_79) rfl (l' := #[.val (.long p0), .second, .val (.long p1), .second, .val (.int p2), .val (.int p3), .val (.int p4), .val (.long p1), .second, .val (.double (FP.i2d p2)), .second, .val (.double (FP.i2d p3)), .second, .val (.ref b3), .val (.ref b7), .val (.int (gtG p0 (FP.i2d p2) p1 (FP.i2d p3))), .unset]) rfl k) ?_
      show Goes p e below s _ _ _ (T14.setTop (mkF m 81 #[.val (.long p0), .second, .val (.long p1), .second, .val (.int p2), .val (.int p3), .val (.int p4), .val (.long p1), .second, .val (.double (FP.i2d p2)), .second, .val (.double (FP.i2d p3)), .second, .val (.ref b3), .val (.ref b7), .val (.int (gtG p0 (FP.i2d p2) p1 (FP.i2d p3))), .unset] []))
      refine Goes.st (fun t k => XS.aload X14.here hx rfl (hb hby at_81) rfl rfl k) ?_
      show Goes p e below s _ _ _ (T14.setTop (mkF m 83 #[.val (.long p0), .second, .val (.long p1), .second, .val (.int p2), .val (.int p3), .val (.int p4), .val (.long p1), .second, .val (.double (FP.i2d p2)), .second, .val (.double (FP.i2d p3)), .second, .val (.ref b3), .val (.ref b7), .val (.int (gtG p0 (FP.i2d p2) p1 (FP.i2d p3))), .unset] [(.ref b7)]))
      refine Goes.st (fun t k => XS.aload X14.here hx rfl (hb hby at_83) rfl rfl k) ?_
      show Goes p e below s _ _ _ (T14.setTop (mkF m 85 #[.val (.long p0), .second, .val (.long p1), .second, .val (.int p2), .val (.int p3), .val (.int p4), .val (.long p1), .second, .val (.double (FP.i2d p2)), .second, .val (.double (FP.i2d p3)), .second, .val (.ref b3), .val (.ref b7), .val (.int (gtG p0 (FP.i2d p2) p1 (FP.i2d p3))), .unset] [(.ref b3), (.ref b7)]))
      have f17 := (A7.keep K10)
      obtain ⟨cq16, kq16, qa16, qb16, qc16⟩ := isOf hZ eh14 f17
      obtain ⟨_, _, ⟨T16, L16, k16, n16⟩, -, X16, ⟨Lc16, hQ16, l16, y16, z16⟩, st16⟩ := X14.virtualBack hx (y := (⟨"com/example/parley/parley/LocalSearch$Gain", "isLargerThan", "(Lcom/example/parley/parley/LocalSearch$Gain;)Z"⟩ : MethodName)) (z := (⟨"com/example/parley/parley/LocalSearch$Gain", "isLargerThan", "(Lcom/example/parley/parley/LocalSearch$Gain;)Z"⟩ : MethodName)) hown (mvT hZ (hw _ (List.mem_of_getElem? (i := 18) rfl))) (mvT hZ (hw _ (List.mem_of_getElem? (i := 19) rfl))) (notFace_of_selects (args := #[]) (mvT hZ (hw _ (List.mem_of_getElem? (i := 21) rfl)))) (mvT hZ (hw _ (List.mem_of_getElem? (i := 21) rfl))) (mvT hZ (hw _ (List.mem_of_getElem? (i := 20) rfl))) (by decide) (backOf (W := 0) (rmL l Z a0 hw [] b7 b3 p1 p0 (FP.i2d p3) (FP.i2d p2) T10.heap n0 Z10 R10_0 R10_1 f12 f13) hZ (hw _ (List.mem_of_getElem? (i := 22) rfl)) (hw _ (List.mem_of_getElem? (i := 2) rfl)) (by decide) (by decide)) qa16 qc16 (g := (mkF m 85 #[.val (.long p0), .second, .val (.long p1), .second, .val (.int p2), .val (.int p3), .val (.int p4), .val (.long p1), .second, .val (.double (FP.i2d p2)), .second, .val (.double (FP.i2d p3)), .second, .val (.ref b3), .val (.ref b7), .val (.int (gtG p0 (FP.i2d p2) p1 (FP.i2d p3))), .unset] [(.ref b3), (.ref b7)])) rfl (by rw [hml]; rfl) (Steps.refl _) (argsL := [(.ref b3)]) (rest := []) (lenOf pd__Lcom_example_parley_parley_LocalSearch_Gain__Z_fa69 rfl) rfl (by show 2 * 0 + _ ≤ _; exact Nat.le_of_eq rfl) (hb hby at_85) (fun _ _ => ⟨rfl, eh14, (by decide : 2 + 0 ≤ 16), (by decide : 4 + 0 ≤ 128)⟩)
      dsimp only [Pt.U, Pt.locs, Pt.cells, Pt.slots] at X16 l16 y16 z16 st16 hQ16
      subst l16 y16 z16
      obtain ⟨rfl, N16q, eh16⟩ := hQ16
      have N16 := Fr.app N14 N16q
      refine Goes.sts st16 ?_
      show Goes p e below s _ _ _ (T16.setTop (mkF m 88 #[.val (.long p0), .second, .val (.long p1), .second, .val (.int p2), .val (.int p3), .val (.int p4), .val (.long p1), .second, .val (.double (FP.i2d p2)), .second, .val (.double (FP.i2d p3)), .second, .val (.ref b3), .val (.ref b7), .val (.int (gtG p0 (FP.i2d p2) p1 (FP.i2d p3))), .unset] [(.int (gtG p1 (FP.i2d p3) p0 (FP.i2d p2)))]))
      refine Goes.st (fun t k => XS.istore X16.here hx rfl (hb hby at_88) rfl (l' := #[.val (.long p0), .second, .val (.long p1), .second, .val (.int p2), .val (.int p3), .val (.int p4), .val (.long p1), .second, .val (.double (FP.i2d p2)), .second, .val (.double (FP.i2d p3)), .second, .val (.ref b3), .val (.ref b7), .val (.int (gtG p0 (FP.i2d p2) p1 (FP.i2d p3))), .val (.int (gtG p1 (FP.i2d p3) p0 (FP.i2d p2)))]) rfl k) ?_
      show Goes p e below s _ _ _ (T16.setTop (mkF m 90 #[.val (.long p0), .second, .val (.long p1), .second, .val (.int p2), .val (.int p3), .val (.int p4), .val (.long p1), .second, .val (.double (FP.i2d p2)), .second, .val (.double (FP.i2d p3)), .second, .val (.ref b3), .val (.ref b7), .val (.int (gtG p0 (FP.i2d p2) p1 (FP.i2d p3))), .val (.int (gtG p1 (FP.i2d p3) p0 (FP.i2d p2)))] []))
      refine Goes.st (fun t k => XS.iload X16.here hx rfl (hb hby at_90) rfl k) ?_
      show Goes p e below s _ _ _ (T16.setTop (mkF m 92 #[.val (.long p0), .second, .val (.long p1), .second, .val (.int p2), .val (.int p3), .val (.int p4), .val (.long p1), .second, .val (.double (FP.i2d p2)), .second, .val (.double (FP.i2d p3)), .second, .val (.ref b3), .val (.ref b7), .val (.int (gtG p0 (FP.i2d p2) p1 (FP.i2d p3))), .val (.int (gtG p1 (FP.i2d p3) p0 (FP.i2d p2)))] [(.int (gtG p0 (FP.i2d p2) p1 (FP.i2d p3)))]))
      refine Goes.st (fun t k => XT.lloadN X16.here hx rfl (hb hby at_92) rfl k) ?_
      show Goes p e below s _ _ _ (T16.setTop (mkF m 93 #[.val (.long p0), .second, .val (.long p1), .second, .val (.int p2), .val (.int p3), .val (.int p4), .val (.long p1), .second, .val (.double (FP.i2d p2)), .second, .val (.double (FP.i2d p3)), .second, .val (.ref b3), .val (.ref b7), .val (.int (gtG p0 (FP.i2d p2) p1 (FP.i2d p3))), .val (.int (gtG p1 (FP.i2d p3) p0 (FP.i2d p2)))] [(.long p0), (.int (gtG p0 (FP.i2d p2) p1 (FP.i2d p3)))]))
      refine Goes.st (fun t k => XS.dload X16.here hx rfl (hb hby at_93) rfl k) ?_
      show Goes p e below s _ _ _ (T16.setTop (mkF m 95 #[.val (.long p0), .second, .val (.long p1), .second, .val (.int p2), .val (.int p3), .val (.int p4), .val (.long p1), .second, .val (.double (FP.i2d p2)), .second, .val (.double (FP.i2d p3)), .second, .val (.ref b3), .val (.ref b7), .val (.int (gtG p0 (FP.i2d p2) p1 (FP.i2d p3))), .val (.int (gtG p1 (FP.i2d p3) p0 (FP.i2d p2)))] [(.double (FP.i2d p2)), (.long p0), (.int (gtG p0 (FP.i2d p2) p1 (FP.i2d p3)))]))
      refine Goes.st (fun t k => XT.lload X16.here hx rfl (hb hby at_95) rfl k) ?_
      show Goes p e below s _ _ _ (T16.setTop (mkF m 97 #[.val (.long p0), .second, .val (.long p1), .second, .val (.int p2), .val (.int p3), .val (.int p4), .val (.long p1), .second, .val (.double (FP.i2d p2)), .second, .val (.double (FP.i2d p3)), .second, .val (.ref b3), .val (.ref b7), .val (.int (gtG p0 (FP.i2d p2) p1 (FP.i2d p3))), .val (.int (gtG p1 (FP.i2d p3) p0 (FP.i2d p2)))] [(.long p1), (.double (FP.i2d p2)), (.long p0), (.int (gtG p0 (FP.i2d p2) p1 (FP.i2d p3)))]))
      refine Goes.st (fun t k => XS.dload X16.here hx rfl (hb hby at_97) rfl k) ?_
      show Goes p e below s _ _ _ (T16.setTop (mkF m 99 #[.val (.long p0), .second, .val (.long p1), .second, .val (.int p2), .val (.int p3), .val (.int p4), .val (.long p1), .second, .val (.double (FP.i2d p2)), .second, .val (.double (FP.i2d p3)), .second, .val (.ref b3), .val (.ref b7), .val (.int (gtG p0 (FP.i2d p2) p1 (FP.i2d p3))), .val (.int (gtG p1 (FP.i2d p3) p0 (FP.i2d p2)))] [(.double (FP.i2d p3)), (.long p1), (.double (FP.i2d p2)), (.long p0), (.int (gtG p0 (FP.i2d p2) p1 (FP.i2d p3)))]))
      obtain ⟨_, _, ⟨T18, L18, k18, n18⟩, -, X18, ⟨Lc18, hQ18, l18, y18, z18⟩, st18⟩ := Jvm.LawKit.callS X16 hx (y := (⟨"com/example/parley/parley/GainIsLargerThanPinLaw", "expected", "(JDJD)Z"⟩ : MethodName)) hown (mvT hZ (hw _ (List.mem_of_getElem? (i := 23) rfl))) (mvT hZ (hw _ (List.mem_of_getElem? (i := 24) rfl))) (mvT hZ (hw _ (List.mem_of_getElem? (i := 25) rfl))) (mvT hZ (hw _ (List.mem_of_getElem? (i := 26) rfl))) (by decide) (backOf (W := 1) (rmE l Z a0 hw [] p0 (FP.i2d p2) p1 (FP.i2d p3) T10.heap n0 Z10 ) hZ (hw _ (List.mem_of_getElem? (i := 26) rfl)) (hw _ (List.mem_of_getElem? (i := 25) rfl)) (by decide) (by decide)) (g := (mkF m 99 #[.val (.long p0), .second, .val (.long p1), .second, .val (.int p2), .val (.int p3), .val (.int p4), .val (.long p1), .second, .val (.double (FP.i2d p2)), .second, .val (.double (FP.i2d p3)), .second, .val (.ref b3), .val (.ref b7), .val (.int (gtG p0 (FP.i2d p2) p1 (FP.i2d p3))), .val (.int (gtG p1 (FP.i2d p3) p0 (FP.i2d p2)))] [(.double (FP.i2d p3)), (.long p1), (.double (FP.i2d p2)), (.long p0), (.int (gtG p0 (FP.i2d p2) p1 (FP.i2d p3)))])) rfl (by rw [hml]; rfl) (argsL := [(.long p0), (.double (FP.i2d p2)), (.long p1), (.double (FP.i2d p3))]) (rest := [(.int (gtG p0 (FP.i2d p2) p1 (FP.i2d p3)))]) (lenOf pd__JDJD_Z_121a rfl) rfl (by show 2 * 0 + _ ≤ _; exact Nat.le_of_eq rfl) (hb hby at_99) (fun _ _ => ⟨rfl, eh16, (by decide : 2 + 0 ≤ 16), (by decide : 4 + 0 ≤ 128)⟩)
      dsimp only [Pt.U, Pt.locs, Pt.cells, Pt.slots] at X18 l18 y18 z18 st18 hQ18
      subst l18 y18 z18
      obtain ⟨rfl, N18q, eh18⟩ := hQ18
      have N18 := Fr.app N16 N18q
      refine Goes.st st18 ?_
      show Goes p e below s _ _ _ (T18.setTop (mkF m 102 #[.val (.long p0), .second, .val (.long p1), .second, .val (.int p2), .val (.int p3), .val (.int p4), .val (.long p1), .second, .val (.double (FP.i2d p2)), .second, .val (.double (FP.i2d p3)), .second, .val (.ref b3), .val (.ref b7), .val (.int (gtG p0 (FP.i2d p2) p1 (FP.i2d p3))), .val (.int (gtG p1 (FP.i2d p3) p0 (FP.i2d p2)))] [(.int (gtG p0 (FP.i2d p2) p1 (FP.i2d p3))), (.int (gtG p0 (FP.i2d p2) p1 (FP.i2d p3)))]))
      refine Goes.st (fun t k => XS.icmpNo X18.here hx rfl (hb hby at_102) rfl (teq (rfl : (gtG p0 (FP.i2d p2) p1 (FP.i2d p3)) = (gtG p0 (FP.i2d p2) p1 (FP.i2d p3)))).2 k) ?_
      show Goes p e below s _ _ _ (T18.setTop (mkF m 105 #[.val (.long p0), .second, .val (.long p1), .second, .val (.int p2), .val (.int p3), .val (.int p4), .val (.long p1), .second, .val (.double (FP.i2d p2)), .second, .val (.double (FP.i2d p3)), .second, .val (.ref b3), .val (.ref b7), .val (.int (gtG p0 (FP.i2d p2) p1 (FP.i2d p3))), .val (.int (gtG p1 (FP.i2d p3) p0 (FP.i2d p2)))] []))
      refine Goes.st (fun t k => XS.iload X18.here hx rfl (hb hby at_105) rfl k) ?_
      show Goes p e below s _ _ _ (T18.setTop (mkF m 107 #[.val (.long p0), .second, .val (.long p1), .second, .val (.int p2), .val (.int p3), .val (.int p4), .val (.long p1), .second, .val (.double (FP.i2d p2)), .second, .val (.double (FP.i2d p3)), .second, .val (.ref b3), .val (.ref b7), .val (.int (gtG p0 (FP.i2d p2) p1 (FP.i2d p3))), .val (.int (gtG p1 (FP.i2d p3) p0 (FP.i2d p2)))] [(.int (gtG p1 (FP.i2d p3) p0 (FP.i2d p2)))]))
      refine Goes.st (fun t k => XT.lload X18.here hx rfl (hb hby at_107) rfl k) ?_
      show Goes p e below s _ _ _ (T18.setTop (mkF m 109 #[.val (.long p0), .second, .val (.long p1), .second, .val (.int p2), .val (.int p3), .val (.int p4), .val (.long p1), .second, .val (.double (FP.i2d p2)), .second, .val (.double (FP.i2d p3)), .second, .val (.ref b3), .val (.ref b7), .val (.int (gtG p0 (FP.i2d p2) p1 (FP.i2d p3))), .val (.int (gtG p1 (FP.i2d p3) p0 (FP.i2d p2)))] [(.long p1), (.int (gtG p1 (FP.i2d p3) p0 (FP.i2d p2)))]))
      refine Goes.st (fun t k => XS.dload X18.here hx rfl (hb hby at_109) rfl k) ?_
      show Goes p e below s _ _ _ (T18.setTop (mkF m 111 #[.val (.long p0), .second, .val (.long p1), .second, .val (.int p2), .val (.int p3), .val (.int p4), .val (.long p1), .second, .val (.double (FP.i2d p2)), .second, .val (.double (FP.i2d p3)), .second, .val (.ref b3), .val (.ref b7), .val (.int (gtG p0 (FP.i2d p2) p1 (FP.i2d p3))), .val (.int (gtG p1 (FP.i2d p3) p0 (FP.i2d p2)))] [(.double (FP.i2d p3)), (.long p1), (.int (gtG p1 (FP.i2d p3) p0 (FP.i2d p2)))]))
      refine Goes.st (fun t k => XT.lloadN X18.here hx rfl (hb hby at_111) rfl k) ?_
      show Goes p e below s _ _ _ (T18.setTop (mkF m 112 #[.val (.long p0), .second, .val (.long p1), .second, .val (.int p2), .val (.int p3), .val (.int p4), .val (.long p1), .second, .val (.double (FP.i2d p2)), .second, .val (.double (FP.i2d p3)), .second, .val (.ref b3), .val (.ref b7), .val (.int (gtG p0 (FP.i2d p2) p1 (FP.i2d p3))), .val (.int (gtG p1 (FP.i2d p3) p0 (FP.i2d p2)))] [(.long p0), (.double (FP.i2d p3)), (.long p1), (.int (gtG p1 (FP.i2d p3) p0 (FP.i2d p2)))]))
      refine Goes.st (fun t k => XS.dload X18.here hx rfl (hb hby at_112) rfl k) ?_
      show Goes p e below s _ _ _ (T18.setTop (mkF m 114 #[.val (.long p0), .second, .val (.long p1), .second, .val (.int p2), .val (.int p3), .val (.int p4), .val (.long p1), .second, .val (.double (FP.i2d p2)), .second, .val (.double (FP.i2d p3)), .second, .val (.ref b3), .val (.ref b7), .val (.int (gtG p0 (FP.i2d p2) p1 (FP.i2d p3))), .val (.int (gtG p1 (FP.i2d p3) p0 (FP.i2d p2)))] [(.double (FP.i2d p2)), (.long p0), (.double (FP.i2d p3)), (.long p1), (.int (gtG p1 (FP.i2d p3) p0 (FP.i2d p2)))]))
      obtain ⟨_, _, ⟨T19, L19, k19, n19⟩, -, X19, ⟨Lc19, hQ19, l19, y19, z19⟩, st19⟩ := Jvm.LawKit.callS X18 hx (y := (⟨"com/example/parley/parley/GainIsLargerThanPinLaw", "expected", "(JDJD)Z"⟩ : MethodName)) hown (mvT hZ (hw _ (List.mem_of_getElem? (i := 23) rfl))) (mvT hZ (hw _ (List.mem_of_getElem? (i := 24) rfl))) (mvT hZ (hw _ (List.mem_of_getElem? (i := 25) rfl))) (mvT hZ (hw _ (List.mem_of_getElem? (i := 26) rfl))) (by decide) (backOf (W := 1) (rmE l Z a0 hw [] p1 (FP.i2d p3) p0 (FP.i2d p2) T10.heap n0 Z10 ) hZ (hw _ (List.mem_of_getElem? (i := 26) rfl)) (hw _ (List.mem_of_getElem? (i := 25) rfl)) (by decide) (by decide)) (g := (mkF m 114 #[.val (.long p0), .second, .val (.long p1), .second, .val (.int p2), .val (.int p3), .val (.int p4), .val (.long p1), .second, .val (.double (FP.i2d p2)), .second, .val (.double (FP.i2d p3)), .second, .val (.ref b3), .val (.ref b7), .val (.int (gtG p0 (FP.i2d p2) p1 (FP.i2d p3))), .val (.int (gtG p1 (FP.i2d p3) p0 (FP.i2d p2)))] [(.double (FP.i2d p2)), (.long p0), (.double (FP.i2d p3)), (.long p1), (.int (gtG p1 (FP.i2d p3) p0 (FP.i2d p2)))])) rfl (by rw [hml]; rfl) (argsL := [(.long p1), (.double (FP.i2d p3)), (.long p0), (.double (FP.i2d p2))]) (rest := [(.int (gtG p1 (FP.i2d p3) p0 (FP.i2d p2)))]) (lenOf pd__JDJD_Z_121a rfl) rfl (by show 2 * 0 + _ ≤ _; exact Nat.le_of_eq rfl) (hb hby at_114) (fun _ _ => ⟨rfl, eh18, (by decide : 2 + 0 ≤ 16), (by decide : 4 + 0 ≤ 128)⟩)
      dsimp only [Pt.U, Pt.locs, Pt.cells, Pt.slots] at X19 l19 y19 z19 st19 hQ19
      subst l19 y19 z19
      obtain ⟨rfl, N19q, eh19⟩ := hQ19
      have N19 := Fr.app N18 N19q
      refine Goes.st st19 ?_
      show Goes p e below s _ _ _ (T19.setTop (mkF m 117 #[.val (.long p0), .second, .val (.long p1), .second, .val (.int p2), .val (.int p3), .val (.int p4), .val (.long p1), .second, .val (.double (FP.i2d p2)), .second, .val (.double (FP.i2d p3)), .second, .val (.ref b3), .val (.ref b7), .val (.int (gtG p0 (FP.i2d p2) p1 (FP.i2d p3))), .val (.int (gtG p1 (FP.i2d p3) p0 (FP.i2d p2)))] [(.int (gtG p1 (FP.i2d p3) p0 (FP.i2d p2))), (.int (gtG p1 (FP.i2d p3) p0 (FP.i2d p2)))]))
      refine Goes.st (fun t k => XS.icmpNo X19.here hx rfl (hb hby at_117) rfl (teq (rfl : (gtG p1 (FP.i2d p3) p0 (FP.i2d p2)) = (gtG p1 (FP.i2d p3) p0 (FP.i2d p2)))).2 k) ?_
      show Goes p e below s _ _ _ (T19.setTop (mkF m 120 #[.val (.long p0), .second, .val (.long p1), .second, .val (.int p2), .val (.int p3), .val (.int p4), .val (.long p1), .second, .val (.double (FP.i2d p2)), .second, .val (.double (FP.i2d p3)), .second, .val (.ref b3), .val (.ref b7), .val (.int (gtG p0 (FP.i2d p2) p1 (FP.i2d p3))), .val (.int (gtG p1 (FP.i2d p3) p0 (FP.i2d p2)))] []))
      refine Goes.st (fun t k => XS.iconst X19.here hx rfl (hb hby at_120) k) ?_
      show Goes p e below s _ _ _ (T19.setTop (mkF m 121 #[.val (.long p0), .second, .val (.long p1), .second, .val (.int p2), .val (.int p3), .val (.int p4), .val (.long p1), .second, .val (.double (FP.i2d p2)), .second, .val (.double (FP.i2d p3)), .second, .val (.ref b3), .val (.ref b7), .val (.int (gtG p0 (FP.i2d p2) p1 (FP.i2d p3))), .val (.int (gtG p1 (FP.i2d p3) p0 (FP.i2d p2)))] [(.int (1 : Int32))]))
      refine Goes.st (fun t k => XS.goto X19.here hx rfl (pc0 := 121) (pc' := 125) rfl (hb hby at_121) (by decide) (by decide) k) ?_
      show Goes p e below s _ _ _ (T19.setTop (mkF m 125 #[.val (.long p0), .second, .val (.long p1), .second, .val (.int p2), .val (.int p3), .val (.int p4), .val (.long p1), .second, .val (.double (FP.i2d p2)), .second, .val (.double (FP.i2d p3)), .second, .val (.ref b3), .val (.ref b7), .val (.int (gtG p0 (FP.i2d p2) p1 (FP.i2d p3))), .val (.int (gtG p1 (FP.i2d p3) p0 (FP.i2d p2)))] [(.int (1 : Int32))]))
      refine Goes.retN X19 hx hlk hret (by simp) (hb hby at_125) (by decide) ?_ (by decide) (by decide)
      rw [eh19]
      exact ⟨rfl, N19⟩
    · refine Goes.st (fun t k => XS.ifNo X0.here hx rfl (hb hby at_23) rfl ((if0 _ _).trans (feq c2).1) k) ?_
      show Goes p e below s _ _ _ (s₁.setTop (mkF m 26 #[.val (.long p0), .second, .val (.long p1), .second, .val (.int p2), .val (.int p3), .val (.int p4), .val (.long p1), .second, .val (.double (FP.i2d p2)), .second, .unset, .unset, .unset, .unset, .unset, .unset] []))
      refine Goes.st (fun t k => XS.iload X0.here hx rfl (hb hby at_26) rfl k) ?_
      show Goes p e below s _ _ _ (s₁.setTop (mkF m 28 #[.val (.long p0), .second, .val (.long p1), .second, .val (.int p2), .val (.int p3), .val (.int p4), .val (.long p1), .second, .val (.double (FP.i2d p2)), .second, .unset, .unset, .unset, .unset, .unset, .unset] [(.int p2)]))
      refine Goes.st (fun t k => XS.i2dS X0.here hx rfl (hb hby at_28) rfl (v := (FP.i2d p2)) rfl k) ?_
      show Goes p e below s _ _ _ (s₁.setTop (mkF m 29 #[.val (.long p0), .second, .val (.long p1), .second, .val (.int p2), .val (.int p3), .val (.int p4), .val (.long p1), .second, .val (.double (FP.i2d p2)), .second, .unset, .unset, .unset, .unset, .unset, .unset] [(.double (FP.i2d p2))]))
      refine Goes.st (fun t k => XS.iload X0.here hx rfl (hb hby at_29) rfl k) ?_
      show Goes p e below s _ _ _ (s₁.setTop (mkF m 31 #[.val (.long p0), .second, .val (.long p1), .second, .val (.int p2), .val (.int p3), .val (.int p4), .val (.long p1), .second, .val (.double (FP.i2d p2)), .second, .unset, .unset, .unset, .unset, .unset, .unset] [(.int p4), (.double (FP.i2d p2))]))
      refine Goes.st (fun t k => XS.iconst X0.here hx rfl (hb hby at_31) k) ?_
      show Goes p e below s _ _ _ (s₁.setTop (mkF m 32 #[.val (.long p0), .second, .val (.long p1), .second, .val (.int p2), .val (.int p3), .val (.int p4), .val (.long p1), .second, .val (.double (FP.i2d p2)), .second, .unset, .unset, .unset, .unset, .unset, .unset] [(.int (2 : Int32)), (.int p4), (.double (FP.i2d p2))]))
      refine Goes.st (fun t k => XT.ishr X0.here hx rfl (hb hby at_32) rfl k) ?_
      show Goes p e below s _ _ _ (s₁.setTop (mkF m 33 #[.val (.long p0), .second, .val (.long p1), .second, .val (.int p2), .val (.int p3), .val (.int p4), .val (.long p1), .second, .val (.double (FP.i2d p2)), .second, .unset, .unset, .unset, .unset, .unset, .unset] [(.int (p4 >>> ((2 : Int32) &&& 31))), (.double (FP.i2d p2))]))
      refine Goes.st (fun t k => XS.iconst X0.here hx rfl (hb hby at_33) k) ?_
      show Goes p e below s _ _ _ (s₁.setTop (mkF m 34 #[.val (.long p0), .second, .val (.long p1), .second, .val (.int p2), .val (.int p3), .val (.int p4), .val (.long p1), .second, .val (.double (FP.i2d p2)), .second, .unset, .unset, .unset, .unset, .unset, .unset] [(.int (3 : Int32)), (.int (p4 >>> ((2 : Int32) &&& 31))), (.double (FP.i2d p2))]))
      refine Goes.st (fun t k => XS.iand X0.here hx rfl (hb hby at_34) rfl k) ?_
      show Goes p e below s _ _ _ (s₁.setTop (mkF m 35 #[.val (.long p0), .second, .val (.long p1), .second, .val (.int p2), .val (.int p3), .val (.int p4), .val (.long p1), .second, .val (.double (FP.i2d p2)), .second, .unset, .unset, .unset, .unset, .unset, .unset] [(.int ((p4 >>> ((2 : Int32) &&& 31)) &&& (3 : Int32))), (.double (FP.i2d p2))]))
      refine Goes.st (fun t k => XS.iconst X0.here hx rfl (hb hby at_35) k) ?_
      show Goes p e below s _ _ _ (s₁.setTop (mkF m 36 #[.val (.long p0), .second, .val (.long p1), .second, .val (.int p2), .val (.int p3), .val (.int p4), .val (.long p1), .second, .val (.double (FP.i2d p2)), .second, .unset, .unset, .unset, .unset, .unset, .unset] [(.int (1 : Int32)), (.int ((p4 >>> ((2 : Int32) &&& 31)) &&& (3 : Int32))), (.double (FP.i2d p2))]))
      refine Goes.st (fun t k => XS.isub X0.here hx rfl (hb hby at_36) rfl k) ?_
      show Goes p e below s _ _ _ (s₁.setTop (mkF m 37 #[.val (.long p0), .second, .val (.long p1), .second, .val (.int p2), .val (.int p3), .val (.int p4), .val (.long p1), .second, .val (.double (FP.i2d p2)), .second, .unset, .unset, .unset, .unset, .unset, .unset] [(.int (((p4 >>> ((2 : Int32) &&& 31)) &&& (3 : Int32)) - (1 : Int32))), (.double (FP.i2d p2))]))
      refine Goes.st (fun t k => XS.i2dS X0.here hx rfl (hb hby at_37) rfl (v := (FP.i2d (((p4 >>> ((2 : Int32) &&& 31)) &&& (3 : Int32)) - (1 : Int32)))) rfl k) ?_
      show Goes p e below s _ _ _ (s₁.setTop (mkF m 38 #[.val (.long p0), .second, .val (.long p1), .second, .val (.int p2), .val (.int p3), .val (.int p4), .val (.long p1), .second, .val (.double (FP.i2d p2)), .second, .unset, .unset, .unset, .unset, .unset, .unset] [(.double (FP.i2d (((p4 >>> ((2 : Int32) &&& 31)) &&& (3 : Int32)) - (1 : Int32)))), (.double (FP.i2d p2))]))
      refine Goes.st (fun t k => XS.daddS X0.here hx rfl (hb hby at_38) rfl (dadd_out (i2d_fin _).noNaN (i2d_fin _)) (v := (FP.dadd (FP.i2d p2) (FP.i2d (((p4 >>> ((2 : Int32) &&& 31)) &&& (3 : Int32)) - (1 : Int32))))) rfl k) ?_
      show Goes p e below s _ _ _ (s₁.setTop (mkF m 39 #[.val (.long p0), .second, .val (.long p1), .second, .val (.int p2), .val (.int p3), .val (.int p4), .val (.long p1), .second, .val (.double (FP.i2d p2)), .second, .unset, .unset, .unset, .unset, .unset, .unset] [(.double (FP.dadd (FP.i2d p2) (FP.i2d (((p4 >>> ((2 : Int32) &&& 31)) &&& (3 : Int32)) - (1 : Int32)))))]))
      refine Goes.st (fun t k => XS.goto X0.here hx rfl (pc0 := 39) (pc' := 45) rfl (hb hby at_39) (by decide) (by decide) k) ?_
      show Goes p e below s _ _ _ (s₁.setTop (mkF m 45 #[.val (.long p0), .second, .val (.long p1), .second, .val (.int p2), .val (.int p3), .val (.int p4), .val (.long p1), .second, .val (.double (FP.i2d p2)), .second, .unset, .unset, .unset, .unset, .unset, .unset] [(.double (FP.dadd (FP.i2d p2) (FP.i2d (((p4 >>> ((2 : Int32) &&& 31)) &&& (3 : Int32)) - (1 : Int32)))))]))
      refine Goes.st (fun t k => XS.dstore X0.here hx rfl (hb hby at_45) rfl (l' := #[.val (.long p0), .second, .val (.long p1), .second, .val (.int p2), .val (.int p3), .val (.int p4), .val (.long p1), .second, .val (.double (FP.i2d p2)), .second, .val (.double (FP.dadd (FP.i2d p2) (FP.i2d (((p4 >>> ((2 : Int32) &&& 31)) &&& (3 : Int32)) - (1 : Int32))))), .second, .unset, .unset, .unset, .unset]) rfl k) ?_
      show Goes p e below s _ _ _ (s₁.setTop (mkF m 47 #[.val (.long p0), .second, .val (.long p1), .second, .val (.int p2), .val (.int p3), .val (.int p4), .val (.long p1), .second, .val (.double (FP.i2d p2)), .second, .val (.double (FP.dadd (FP.i2d p2) (FP.i2d (((p4 >>> ((2 : Int32) &&& 31)) &&& (3 : Int32)) - (1 : Int32))))), .second, .unset, .unset, .unset, .unset] []))
      obtain ⟨T20, h20, X20, e20, E20, A20, D20, -, st20⟩ := newO X0 hx hZ hown (hw _ (List.mem_of_getElem? (i := 0) rfl)) (hw _ (List.mem_of_getElem? (i := 1) rfl)) (hw _ (List.mem_of_getElem? (i := 2) rfl)) e0 (g := (mkF m 47 #[.val (.long p0), .second, .val (.long p1), .second, .val (.int p2), .val (.int p3), .val (.int p4), .val (.long p1), .second, .val (.double (FP.i2d p2)), .second, .val (.double (FP.dadd (FP.i2d p2) (FP.i2d (((p4 >>> ((2 : Int32) &&& 31)) &&& (3 : Int32)) - (1 : Int32))))), .second, .unset, .unset, .unset, .unset] [])) rfl (hb hby at_47) (by decide) (by decide)
      obtain ⟨b20, g20⟩ : ∃ z, z = h0.size := ⟨_, rfl⟩
      rw [← g20] at A20 D20 st20
      have lo_b20 : n0 ≤ b20 := by have := Z0; omega
      refine Goes.st st20 ?_
      have Z20 : n0 ≤ h20.size := Nat.le_trans Z0 E20.1
      have F20_violations : Fld Z h20 b20 "com/example/parley/parley/LocalSearch$Gain" "violations" "J" (.long (0 : Int64)) := D20 (Or.inr (hw _ (List.mem_of_getElem? (i := 15) rfl))) (ty := .long) (by decide)
      have F20_total : Fld Z h20 b20 "com/example/parley/parley/LocalSearch$Gain" "total" "D" (.double (0 : UInt64)) := D20 (Or.inr (hw _ (List.mem_of_getElem? (i := 17) rfl))) (ty := .double) (by decide)
      show Goes p e below s _ _ _ (T20.setTop (mkF m 50 #[.val (.long p0), .second, .val (.long p1), .second, .val (.int p2), .val (.int p3), .val (.int p4), .val (.long p1), .second, .val (.double (FP.i2d p2)), .second, .val (.double (FP.dadd (FP.i2d p2) (FP.i2d (((p4 >>> ((2 : Int32) &&& 31)) &&& (3 : Int32)) - (1 : Int32))))), .second, .unset, .unset, .unset, .unset] [(.ref b20)]))
      refine Goes.st (fun t k => XS.dup X20.here hx rfl (hb hby at_50) rfl rfl k) ?_
      show Goes p e below s _ _ _ (T20.setTop (mkF m 51 #[.val (.long p0), .second, .val (.long p1), .second, .val (.int p2), .val (.int p3), .val (.int p4), .val (.long p1), .second, .val (.double (FP.i2d p2)), .second, .val (.double (FP.dadd (FP.i2d p2) (FP.i2d (((p4 >>> ((2 : Int32) &&& 31)) &&& (3 : Int32)) - (1 : Int32))))), .second, .unset, .unset, .unset, .unset] [(.ref b20), (.ref b20)]))
      refine Goes.st (fun t k => XT.lloadN X20.here hx rfl (hb hby at_51) rfl k) ?_
      show Goes p e below s _ _ _ (T20.setTop (mkF m 52 #[.val (.long p0), .second, .val (.long p1), .second, .val (.int p2), .val (.int p3), .val (.int p4), .val (.long p1), .second, .val (.double (FP.i2d p2)), .second, .val (.double (FP.dadd (FP.i2d p2) (FP.i2d (((p4 >>> ((2 : Int32) &&& 31)) &&& (3 : Int32)) - (1 : Int32))))), .second, .unset, .unset, .unset, .unset] [(.long p0), (.ref b20), (.ref b20)]))
      refine Goes.st (fun t k => XS.dload X20.here hx rfl (hb hby at_52) rfl k) ?_
      show Goes p e below s _ _ _ (T20.setTop (mkF m 54 #[.val (.long p0), .second, .val (.long p1), .second, .val (.int p2), .val (.int p3), .val (.int p4), .val (.long p1), .second, .val (.double (FP.i2d p2)), .second, .val (.double (FP.dadd (FP.i2d p2) (FP.i2d (((p4 >>> ((2 : Int32) &&& 31)) &&& (3 : Int32)) - (1 : Int32))))), .second, .unset, .unset, .unset, .unset] [(.double (FP.i2d p2)), (.long p0), (.ref b20), (.ref b20)]))
      obtain ⟨_, _, ⟨T22, L22, k22, n22⟩, -, X22, ⟨Lc22, hQ22, l22, y22, z22⟩, st22⟩ := X20.specialBack hx (y := (⟨"com/example/parley/parley/LocalSearch$Gain", "<init>", "(JD)V"⟩ : MethodName)) rfl hown (mvT hZ (hw _ (List.mem_of_getElem? (i := 3) rfl))) (mvT hZ (hw _ (List.mem_of_getElem? (i := 4) rfl))) (mvT hZ (hw _ (List.mem_of_getElem? (i := 5) rfl))) (by decide) (backOf (W := 1) (rmC l Z a0 hw [] b20 p0 (FP.i2d p2) (.long (0 : Int64)) (.double (0 : UInt64)) h20 n0 Z20 A20 lo_b20 F20_violations F20_total) hZ (hw _ (List.mem_of_getElem? (i := 5) rfl)) (hw _ (List.mem_of_getElem? (i := 2) rfl)) (by decide) (by decide)) (g := (mkF m 54 #[.val (.long p0), .second, .val (.long p1), .second, .val (.int p2), .val (.int p3), .val (.int p4), .val (.long p1), .second, .val (.double (FP.i2d p2)), .second, .val (.double (FP.dadd (FP.i2d p2) (FP.i2d (((p4 >>> ((2 : Int32) &&& 31)) &&& (3 : Int32)) - (1 : Int32))))), .second, .unset, .unset, .unset, .unset] [(.double (FP.i2d p2)), (.long p0), (.ref b20), (.ref b20)])) rfl (by rw [hml]; rfl) (Steps.refl _) (a := b20) (argsL := [(.long p0), (.double (FP.i2d p2))]) (rest := [(.ref b20)]) (lenOf pd__JD_V_b18 rfl) rfl (by show 2 * 0 + _ ≤ _; exact Nat.le_of_eq rfl) (hb hby at_54) (fun _ _ => ⟨rfl, e20, (by decide : 1 + 0 ≤ 16), (by decide : 2 + 0 ≤ 128)⟩)
      dsimp only [Pt.U, Pt.locs, Pt.cells, Pt.slots] at X22 l22 y22 z22 st22 hQ22
      subst l22 y22 z22
      obtain ⟨rfl, N22q, K22, R22_0, R22_1⟩ := hQ22
      have Z22 : n0 ≤ T22.heap.size := Nat.le_trans Z20 K22.1
      have N22 := Fr.app N0 N22q
      refine Goes.sts st22 ?_
      show Goes p e below s _ _ _ (T22.setTop (mkF m 57 #[.val (.long p0), .second, .val (.long p1), .second, .val (.int p2), .val (.int p3), .val (.int p4), .val (.long p1), .second, .val (.double (FP.i2d p2)), .second, .val (.double (FP.dadd (FP.i2d p2) (FP.i2d (((p4 >>> ((2 : Int32) &&& 31)) &&& (3 : Int32)) - (1 : Int32))))), .second, .unset, .unset, .unset, .unset] [(.ref b20)]))
      refine Goes.st (fun t k => XS.astore X22.here hx rfl (hb hby at_57) rfl rfl (l' := #[.val (.long p0), .second, .val (.long p1), .second, .val (.int p2), .val (.int p3), .val (.int p4), .val (.long p1), .second, .val (.double (FP.i2d p2)), .second, .val (.double (FP.dadd (FP.i2d p2) (FP.i2d (((p4 >>> ((2 : Int32) &&& 31)) &&& (3 : Int32)) - (1 : Int32))))), .second, .val (.ref b20), .unset, .unset, .unset]) rfl k) ?_
      show Goes p e below s _ _ _ (T22.setTop (mkF m 59 #[.val (.long p0), .second, .val (.long p1), .second, .val (.int p2), .val (.int p3), .val (.int p4), .val (.long p1), .second, .val (.double (FP.i2d p2)), .second, .val (.double (FP.dadd (FP.i2d p2) (FP.i2d (((p4 >>> ((2 : Int32) &&& 31)) &&& (3 : Int32)) - (1 : Int32))))), .second, .val (.ref b20), .unset, .unset, .unset] []))
      obtain ⟨T24, h24, X24, e24, E24, A24, D24, -, st24⟩ := newO X22 hx hZ hown (hw _ (List.mem_of_getElem? (i := 0) rfl)) (hw _ (List.mem_of_getElem? (i := 1) rfl)) (hw _ (List.mem_of_getElem? (i := 2) rfl)) rfl (g := (mkF m 59 #[.val (.long p0), .second, .val (.long p1), .second, .val (.int p2), .val (.int p3), .val (.int p4), .val (.long p1), .second, .val (.double (FP.i2d p2)), .second, .val (.double (FP.dadd (FP.i2d p2) (FP.i2d (((p4 >>> ((2 : Int32) &&& 31)) &&& (3 : Int32)) - (1 : Int32))))), .second, .val (.ref b20), .unset, .unset, .unset] [])) rfl (hb hby at_59) (by decide) (by decide)
      obtain ⟨b24, g24⟩ : ∃ z, z = T22.heap.size := ⟨_, rfl⟩
      rw [← g24] at A24 D24 st24
      have f25 := (A20.keep K22)
      have ne_b20_b24 : b20 ≠ b24 := Nat.ne_of_lt (Nat.lt_of_lt_of_le f25.lt (Nat.le_of_eq g24.symm))
      have lo_b24 : n0 ≤ b24 := by have := Z22; omega
      refine Goes.st st24 ?_
      have Z24 : n0 ≤ h24.size := Nat.le_trans Z22 E24.1
      have F24_violations : Fld Z h24 b24 "com/example/parley/parley/LocalSearch$Gain" "violations" "J" (.long (0 : Int64)) := D24 (Or.inr (hw _ (List.mem_of_getElem? (i := 15) rfl))) (ty := .long) (by decide)
      have F24_total : Fld Z h24 b24 "com/example/parley/parley/LocalSearch$Gain" "total" "D" (.double (0 : UInt64)) := D24 (Or.inr (hw _ (List.mem_of_getElem? (i := 17) rfl))) (ty := .double) (by decide)
      show Goes p e below s _ _ _ (T24.setTop (mkF m 62 #[.val (.long p0), .second, .val (.long p1), .second, .val (.int p2), .val (.int p3), .val (.int p4), .val (.long p1), .second, .val (.double (FP.i2d p2)), .second, .val (.double (FP.dadd (FP.i2d p2) (FP.i2d (((p4 >>> ((2 : Int32) &&& 31)) &&& (3 : Int32)) - (1 : Int32))))), .second, .val (.ref b20), .unset, .unset, .unset] [(.ref b24)]))
      refine Goes.st (fun t k => XS.dup X24.here hx rfl (hb hby at_62) rfl rfl k) ?_
      show Goes p e below s _ _ _ (T24.setTop (mkF m 63 #[.val (.long p0), .second, .val (.long p1), .second, .val (.int p2), .val (.int p3), .val (.int p4), .val (.long p1), .second, .val (.double (FP.i2d p2)), .second, .val (.double (FP.dadd (FP.i2d p2) (FP.i2d (((p4 >>> ((2 : Int32) &&& 31)) &&& (3 : Int32)) - (1 : Int32))))), .second, .val (.ref b20), .unset, .unset, .unset] [(.ref b24), (.ref b24)]))
      refine Goes.st (fun t k => XT.lload X24.here hx rfl (hb hby at_63) rfl k) ?_
      show Goes p e below s _ _ _ (T24.setTop (mkF m 65 #[.val (.long p0), .second, .val (.long p1), .second, .val (.int p2), .val (.int p3), .val (.int p4), .val (.long p1), .second, .val (.double (FP.i2d p2)), .second, .val (.double (FP.dadd (FP.i2d p2) (FP.i2d (((p4 >>> ((2 : Int32) &&& 31)) &&& (3 : Int32)) - (1 : Int32))))), .second, .val (.ref b20), .unset, .unset, .unset] [(.long p1), (.ref b24), (.ref b24)]))
      refine Goes.st (fun t k => XS.dload X24.here hx rfl (hb hby at_65) rfl k) ?_
      show Goes p e below s _ _ _ (T24.setTop (mkF m 67 #[.val (.long p0), .second, .val (.long p1), .second, .val (.int p2), .val (.int p3), .val (.int p4), .val (.long p1), .second, .val (.double (FP.i2d p2)), .second, .val (.double (FP.dadd (FP.i2d p2) (FP.i2d (((p4 >>> ((2 : Int32) &&& 31)) &&& (3 : Int32)) - (1 : Int32))))), .second, .val (.ref b20), .unset, .unset, .unset] [(.double (FP.dadd (FP.i2d p2) (FP.i2d (((p4 >>> ((2 : Int32) &&& 31)) &&& (3 : Int32)) - (1 : Int32))))), (.long p1), (.ref b24), (.ref b24)]))
      obtain ⟨_, _, ⟨T27, L27, k27, n27⟩, -, X27, ⟨Lc27, hQ27, l27, y27, z27⟩, st27⟩ := X24.specialBack hx (y := (⟨"com/example/parley/parley/LocalSearch$Gain", "<init>", "(JD)V"⟩ : MethodName)) rfl hown (mvT hZ (hw _ (List.mem_of_getElem? (i := 3) rfl))) (mvT hZ (hw _ (List.mem_of_getElem? (i := 4) rfl))) (mvT hZ (hw _ (List.mem_of_getElem? (i := 5) rfl))) (by decide) (backOf (W := 1) (rmC l Z a0 hw [] b24 p1 (FP.dadd (FP.i2d p2) (FP.i2d (((p4 >>> ((2 : Int32) &&& 31)) &&& (3 : Int32)) - (1 : Int32)))) (.long (0 : Int64)) (.double (0 : UInt64)) h24 n0 Z24 A24 lo_b24 F24_violations F24_total) hZ (hw _ (List.mem_of_getElem? (i := 5) rfl)) (hw _ (List.mem_of_getElem? (i := 2) rfl)) (by decide) (by decide)) (g := (mkF m 67 #[.val (.long p0), .second, .val (.long p1), .second, .val (.int p2), .val (.int p3), .val (.int p4), .val (.long p1), .second, .val (.double (FP.i2d p2)), .second, .val (.double (FP.dadd (FP.i2d p2) (FP.i2d (((p4 >>> ((2 : Int32) &&& 31)) &&& (3 : Int32)) - (1 : Int32))))), .second, .val (.ref b20), .unset, .unset, .unset] [(.double (FP.dadd (FP.i2d p2) (FP.i2d (((p4 >>> ((2 : Int32) &&& 31)) &&& (3 : Int32)) - (1 : Int32))))), (.long p1), (.ref b24), (.ref b24)])) rfl (by rw [hml]; rfl) (Steps.refl _) (a := b24) (argsL := [(.long p1), (.double (FP.dadd (FP.i2d p2) (FP.i2d (((p4 >>> ((2 : Int32) &&& 31)) &&& (3 : Int32)) - (1 : Int32)))))]) (rest := [(.ref b24)]) (lenOf pd__JD_V_b18 rfl) rfl (by show 2 * 0 + _ ≤ _; exact Nat.le_of_eq rfl) (hb hby at_67) (fun _ _ => ⟨rfl, e24, (by decide : 2 + 0 ≤ 16), (by decide : 4 + 0 ≤ 128)⟩)
      dsimp only [Pt.U, Pt.locs, Pt.cells, Pt.slots] at X27 l27 y27 z27 st27 hQ27
      subst l27 y27 z27
      obtain ⟨rfl, N27q, K27, R27_0, R27_1⟩ := hQ27
      have Z27 : n0 ≤ T27.heap.size := Nat.le_trans Z24 K27.1
      have N27 := Fr.app N22 N27q
      refine Goes.sts st27 ?_
      show Goes p e below s _ _ _ (T27.setTop (mkF m 70 #[.val (.long p0), .second, .val (.long p1), .second, .val (.int p2), .val (.int p3), .val (.int p4), .val (.long p1), .second, .val (.double (FP.i2d p2)), .second, .val (.double (FP.dadd (FP.i2d p2) (FP.i2d (((p4 >>> ((2 : Int32) &&& 31)) &&& (3 : Int32)) - (1 : Int32))))), .second, .val (.ref b20), .unset, .unset, .unset] [(.ref b24)]))
      refine Goes.st (fun t k => XS.astore X27.here hx rfl (hb hby at_70) rfl rfl (l' := #[.val (.long p0), .second, .val (.long p1), .second, .val (.int p2), .val (.int p3), .val (.int p4), .val (.long p1), .second, .val (.double (FP.i2d p2)), .second, .val (.double (FP.dadd (FP.i2d p2) (FP.i2d (((p4 >>> ((2 : Int32) &&& 31)) &&& (3 : Int32)) - (1 : Int32))))), .second, .val (.ref b20), .val (.ref b24), .unset, .unset]) rfl k) ?_
      show Goes p e below s _ _ _ (T27.setTop (mkF m 72 #[.val (.long p0), .second, .val (.long p1), .second, .val (.int p2), .val (.int p3), .val (.int p4), .val (.long p1), .second, .val (.double (FP.i2d p2)), .second, .val (.double (FP.dadd (FP.i2d p2) (FP.i2d (((p4 >>> ((2 : Int32) &&& 31)) &&& (3 : Int32)) - (1 : Int32))))), .second, .val (.ref b20), .val (.ref b24), .unset, .unset] []))
      refine Goes.st (fun t k => XS.aload X27.here hx rfl (hb hby at_72) rfl rfl k) ?_
      show Goes p e below s _ _ _ (T27.setTop (mkF m 74 #[.val (.long p0), .second, .val (.long p1), .second, .val (.int p2), .val (.int p3), .val (.int p4), .val (.long p1), .second, .val (.double (FP.i2d p2)), .second, .val (.double (FP.dadd (FP.i2d p2) (FP.i2d (((p4 >>> ((2 : Int32) &&& 31)) &&& (3 : Int32)) - (1 : Int32))))), .second, .val (.ref b20), .val (.ref b24), .unset, .unset] [(.ref b20)]))
      refine Goes.st (fun t k => XS.aload X27.here hx rfl (hb hby at_74) rfl rfl k) ?_
      show Goes p e below s _ _ _ (T27.setTop (mkF m 76 #[.val (.long p0), .second, .val (.long p1), .second, .val (.int p2), .val (.int p3), .val (.int p4), .val (.long p1), .second, .val (.double (FP.i2d p2)), .second, .val (.double (FP.dadd (FP.i2d p2) (FP.i2d (((p4 >>> ((2 : Int32) &&& 31)) &&& (3 : Int32)) - (1 : Int32))))), .second, .val (.ref b20), .val (.ref b24), .unset, .unset] [(.ref b24), (.ref b20)]))
      have f29 := ((R22_0.ext E24).keep K27 (ninS ne_b20_b24 nin0))
      have f30 := ((R22_1.ext E24).keep K27 (ninS ne_b20_b24 nin0))
      have f32 := ((f25.ext E24).keep K27)
      obtain ⟨cq31, kq31, qa31, qb31, qc31⟩ := isOf hZ rfl f32
      obtain ⟨_, _, ⟨T31, L31, k31, n31⟩, -, X31, ⟨Lc31, hQ31, l31, y31, z31⟩, st31⟩ := X27.virtualBack hx (y := (⟨"com/example/parley/parley/LocalSearch$Gain", "isLargerThan", "(Lcom/example/parley/parley/LocalSearch$Gain;)Z"⟩ : MethodName)) (z := (⟨"com/example/parley/parley/LocalSearch$Gain", "isLargerThan", "(Lcom/example/parley/parley/LocalSearch$Gain;)Z"⟩ : MethodName)) hown (mvT hZ (hw _ (List.mem_of_getElem? (i := 18) rfl))) (mvT hZ (hw _ (List.mem_of_getElem? (i := 19) rfl))) (notFace_of_selects (args := #[]) (mvT hZ (hw _ (List.mem_of_getElem? (i := 21) rfl)))) (mvT hZ (hw _ (List.mem_of_getElem? (i := 21) rfl))) (mvT hZ (hw _ (List.mem_of_getElem? (i := 20) rfl))) (by decide) (backOf (W := 0) (rmL l Z a0 hw [] b20 b24 p0 p1 (FP.i2d p2) (FP.dadd (FP.i2d p2) (FP.i2d (((p4 >>> ((2 : Int32) &&& 31)) &&& (3 : Int32)) - (1 : Int32)))) T27.heap n0 Z27 f29 f30 R27_0 R27_1) hZ (hw _ (List.mem_of_getElem? (i := 22) rfl)) (hw _ (List.mem_of_getElem? (i := 2) rfl)) (by decide) (by decide)) qa31 qc31 (g := (mkF m 76 #[.val (.long p0), .second, .val (.long p1), .second, .val (.int p2), .val (.int p3), .val (.int p4), .val (.long p1), .second, .val (.double (FP.i2d p2)), .second, .val (.double (FP.dadd (FP.i2d p2) (FP.i2d (((p4 >>> ((2 : Int32) &&& 31)) &&& (3 : Int32)) - (1 : Int32))))), .second, .val (.ref b20), .val (.ref b24), .unset, .unset] [(.ref b24), (.ref b20)])) rfl (by rw [hml]; rfl) (Steps.refl _) (argsL := [(.ref b24)]) (rest := []) (lenOf pd__Lcom_example_parley_parley_LocalSearch_Gain__Z_fa69 rfl) rfl (by show 2 * 0 + _ ≤ _; exact Nat.le_of_eq rfl) (hb hby at_76) (fun _ _ => ⟨rfl, rfl, (by decide : 2 + 0 ≤ 16), (by decide : 4 + 0 ≤ 128)⟩)
      dsimp only [Pt.U, Pt.locs, Pt.cells, Pt.slots] at X31 l31 y31 z31 st31 hQ31
      subst l31 y31 z31
      obtain ⟨rfl, N31q, eh31⟩ := hQ31
      have N31 := Fr.app N27 N31q
      refine Goes.sts st31 ?_
      show Goes p e below s _ _ _ (T31.setTop (mkF m 79 #[.val (.long p0), .second, .val (.long p1), .second, .val (.int p2), .val (.int p3), .val (.int p4), .val (.long p1), .second, .val (.double (FP.i2d p2)), .second, .val (.double (FP.dadd (FP.i2d p2) (FP.i2d (((p4 >>> ((2 : Int32) &&& 31)) &&& (3 : Int32)) - (1 : Int32))))), .second, .val (.ref b20), .val (.ref b24), .unset, .unset] [(.int (gtG p0 (FP.i2d p2) p1 (FP.dadd (FP.i2d p2) (FP.i2d (((p4 >>> ((2 : Int32) &&& 31)) &&& (3 : Int32)) - (1 : Int32))))))]))
      refine Goes.st (fun t k => XS.istore X31.here hx rfl (hb hby at_79) rfl (l' := #[.val (.long p0), .second, .val (.long p1), .second, .val (.int p2), .val (.int p3), .val (.int p4), .val (.long p1), .second, .val (.double (FP.i2d p2)), .second, .val (.double (FP.dadd (FP.i2d p2) (FP.i2d (((p4 >>> ((2 : Int32) &&& 31)) &&& (3 : Int32)) - (1 : Int32))))), .second, .val (.ref b20), .val (.ref b24), .val (.int (gtG p0 (FP.i2d p2) p1 (FP.dadd (FP.i2d p2) (FP.i2d (((p4 >>> ((2 : Int32) &&& 31)) &&& (3 : Int32)) - (1 : Int32)))))), .unset]) rfl k) ?_
      show Goes p e below s _ _ _ (T31.setTop (mkF m 81 #[.val (.long p0), .second, .val (.long p1), .second, .val (.int p2), .val (.int p3), .val (.int p4), .val (.long p1), .second, .val (.double (FP.i2d p2)), .second, .val (.double (FP.dadd (FP.i2d p2) (FP.i2d (((p4 >>> ((2 : Int32) &&& 31)) &&& (3 : Int32)) - (1 : Int32))))), .second, .val (.ref b20), .val (.ref b24), .val (.int (gtG p0 (FP.i2d p2) p1 (FP.dadd (FP.i2d p2) (FP.i2d (((p4 >>> ((2 : Int32) &&& 31)) &&& (3 : Int32)) - (1 : Int32)))))), .unset] []))
      refine Goes.st (fun t k => XS.aload X31.here hx rfl (hb hby at_81) rfl rfl k) ?_
      show Goes p e below s _ _ _ (T31.setTop (mkF m 83 #[.val (.long p0), .second, .val (.long p1), .second, .val (.int p2), .val (.int p3), .val (.int p4), .val (.long p1), .second, .val (.double (FP.i2d p2)), .second, .val (.double (FP.dadd (FP.i2d p2) (FP.i2d (((p4 >>> ((2 : Int32) &&& 31)) &&& (3 : Int32)) - (1 : Int32))))), .second, .val (.ref b20), .val (.ref b24), .val (.int (gtG p0 (FP.i2d p2) p1 (FP.dadd (FP.i2d p2) (FP.i2d (((p4 >>> ((2 : Int32) &&& 31)) &&& (3 : Int32)) - (1 : Int32)))))), .unset] [(.ref b24)]))
      refine Goes.st (fun t k => XS.aload X31.here hx rfl (hb hby at_83) rfl rfl k) ?_
      show Goes p e below s _ _ _ (T31.setTop (mkF m 85 #[.val (.long p0), .second, .val (.long p1), .second, .val (.int p2), .val (.int p3), .val (.int p4), .val (.long p1), .second, .val (.double (FP.i2d p2)), .second, .val (.double (FP.dadd (FP.i2d p2) (FP.i2d (((p4 >>> ((2 : Int32) &&& 31)) &&& (3 : Int32)) - (1 : Int32))))), .second, .val (.ref b20), .val (.ref b24), .val (.int (gtG p0 (FP.i2d p2) p1 (FP.dadd (FP.i2d p2) (FP.i2d (((p4 >>> ((2 : Int32) &&& 31)) &&& (3 : Int32)) - (1 : Int32)))))), .unset] [(.ref b20), (.ref b24)]))
      have f34 := (A24.keep K27)
      obtain ⟨cq33, kq33, qa33, qb33, qc33⟩ := isOf hZ eh31 f34
      obtain ⟨_, _, ⟨T33, L33, k33, n33⟩, -, X33, ⟨Lc33, hQ33, l33, y33, z33⟩, st33⟩ := X31.virtualBack hx (y := (⟨"com/example/parley/parley/LocalSearch$Gain", "isLargerThan", "(Lcom/example/parley/parley/LocalSearch$Gain;)Z"⟩ : MethodName)) (z := (⟨"com/example/parley/parley/LocalSearch$Gain", "isLargerThan", "(Lcom/example/parley/parley/LocalSearch$Gain;)Z"⟩ : MethodName)) hown (mvT hZ (hw _ (List.mem_of_getElem? (i := 18) rfl))) (mvT hZ (hw _ (List.mem_of_getElem? (i := 19) rfl))) (notFace_of_selects (args := #[]) (mvT hZ (hw _ (List.mem_of_getElem? (i := 21) rfl)))) (mvT hZ (hw _ (List.mem_of_getElem? (i := 21) rfl))) (mvT hZ (hw _ (List.mem_of_getElem? (i := 20) rfl))) (by decide) (backOf (W := 0) (rmL l Z a0 hw [] b24 b20 p1 p0 (FP.dadd (FP.i2d p2) (FP.i2d (((p4 >>> ((2 : Int32) &&& 31)) &&& (3 : Int32)) - (1 : Int32)))) (FP.i2d p2) T27.heap n0 Z27 R27_0 R27_1 f29 f30) hZ (hw _ (List.mem_of_getElem? (i := 22) rfl)) (hw _ (List.mem_of_getElem? (i := 2) rfl)) (by decide) (by decide)) qa33 qc33 (g := (mkF m 85 #[.val (.long p0), .second, .val (.long p1), .second, .val (.int p2), .val (.int p3), .val (.int p4), .val (.long p1), .second, .val (.double (FP.i2d p2)), .second, .val (.double (FP.dadd (FP.i2d p2) (FP.i2d (((p4 >>> ((2 : Int32) &&& 31)) &&& (3 : Int32)) - (1 : Int32))))), .second, .val (.ref b20), .val (.ref b24), .val (.int (gtG p0 (FP.i2d p2) p1 (FP.dadd (FP.i2d p2) (FP.i2d (((p4 >>> ((2 : Int32) &&& 31)) &&& (3 : Int32)) - (1 : Int32)))))), .unset] [(.ref b20), (.ref b24)])) rfl (by rw [hml]; rfl) (Steps.refl _) (argsL := [(.ref b20)]) (rest := []) (lenOf pd__Lcom_example_parley_parley_LocalSearch_Gain__Z_fa69 rfl) rfl (by show 2 * 0 + _ ≤ _; exact Nat.le_of_eq rfl) (hb hby at_85) (fun _ _ => ⟨rfl, eh31, (by decide : 2 + 0 ≤ 16), (by decide : 4 + 0 ≤ 128)⟩)
      dsimp only [Pt.U, Pt.locs, Pt.cells, Pt.slots] at X33 l33 y33 z33 st33 hQ33
      subst l33 y33 z33
      obtain ⟨rfl, N33q, eh33⟩ := hQ33
      have N33 := Fr.app N31 N33q
      refine Goes.sts st33 ?_
      show Goes p e below s _ _ _ (T33.setTop (mkF m 88 #[.val (.long p0), .second, .val (.long p1), .second, .val (.int p2), .val (.int p3), .val (.int p4), .val (.long p1), .second, .val (.double (FP.i2d p2)), .second, .val (.double (FP.dadd (FP.i2d p2) (FP.i2d (((p4 >>> ((2 : Int32) &&& 31)) &&& (3 : Int32)) - (1 : Int32))))), .second, .val (.ref b20), .val (.ref b24), .val (.int (gtG p0 (FP.i2d p2) p1 (FP.dadd (FP.i2d p2) (FP.i2d (((p4 >>> ((2 : Int32) &&& 31)) &&& (3 : Int32)) - (1 : Int32)))))), .unset] [(.int (gtG p1 (FP.dadd (FP.i2d p2) (FP.i2d (((p4 >>> ((2 : Int32) &&& 31)) &&& (3 : Int32)) - (1 : Int32)))) p0 (FP.i2d p2)))]))
      refine Goes.st (fun t k => XS.istore X33.here hx rfl (hb hby at_88) rfl (l' := #[.val (.long p0), .second, .val (.long p1), .second, .val (.int p2), .val (.int p3), .val (.int p4), .val (.long p1), .second, .val (.double (FP.i2d p2)), .second, .val (.double (FP.dadd (FP.i2d p2) (FP.i2d (((p4 >>> ((2 : Int32) &&& 31)) &&& (3 : Int32)) - (1 : Int32))))), .second, .val (.ref b20), .val (.ref b24), .val (.int (gtG p0 (FP.i2d p2) p1 (FP.dadd (FP.i2d p2) (FP.i2d (((p4 >>> ((2 : Int32) &&& 31)) &&& (3 : Int32)) - (1 : Int32)))))), .val (.int (gtG p1 (FP.dadd (FP.i2d p2) (FP.i2d (((p4 >>> ((2 : Int32) &&& 31)) &&& (3 : Int32)) - (1 : Int32)))) p0 (FP.i2d p2)))]) rfl k) ?_
      show Goes p e below s _ _ _ (T33.setTop (mkF m 90 #[.val (.long p0), .second, .val (.long p1), .second, .val (.int p2), .val (.int p3), .val (.int p4), .val (.long p1), .second, .val (.double (FP.i2d p2)), .second, .val (.double (FP.dadd (FP.i2d p2) (FP.i2d (((p4 >>> ((2 : Int32) &&& 31)) &&& (3 : Int32)) - (1 : Int32))))), .second, .val (.ref b20), .val (.ref b24), .val (.int (gtG p0 (FP.i2d p2) p1 (FP.dadd (FP.i2d p2) (FP.i2d (((p4 >>> ((2 : Int32) &&& 31)) &&& (3 : Int32)) - (1 : Int32)))))), .val (.int (gtG p1 (FP.dadd (FP.i2d p2) (FP.i2d (((p4 >>> ((2 : Int32) &&& 31)) &&& (3 : Int32)) - (1 : Int32)))) p0 (FP.i2d p2)))] []))
      refine Goes.st (fun t k => XS.iload X33.here hx rfl (hb hby at_90) rfl k) ?_
      show Goes p e below s _ _ _ (T33.setTop (mkF m 92 #[.val (.long p0), .second, .val (.long p1), .second, .val (.int p2), .val (.int p3), .val (.int p4), .val (.long p1), .second, .val (.double (FP.i2d p2)), .second, .val (.double (FP.dadd (FP.i2d p2) (FP.i2d (((p4 >>> ((2 : Int32) &&& 31)) &&& (3 : Int32)) - (1 : Int32))))), .second, .val (.ref b20), .val (.ref b24), .val (.int (gtG p0 (FP.i2d p2) p1 (FP.dadd (FP.i2d p2) (FP.i2d (((p4 >>> ((2 : Int32) &&& 31)) &&& (3 : Int32)) - (1 : Int32)))))), .val (.int (gtG p1 (FP.dadd (FP.i2d p2) (FP.i2d (((p4 >>> ((2 : Int32) &&& 31)) &&& (3 : Int32)) - (1 : Int32)))) p0 (FP.i2d p2)))] [(.int (gtG p0 (FP.i2d p2) p1 (FP.dadd (FP.i2d p2) (FP.i2d (((p4 >>> ((2 : Int32) &&& 31)) &&& (3 : Int32)) - (1 : Int32))))))]))
      refine Goes.st (fun t k => XT.lloadN X33.here hx rfl (hb hby at_92) rfl k) ?_
      show Goes p e below s _ _ _ (T33.setTop (mkF m 93 #[.val (.long p0), .second, .val (.long p1), .second, .val (.int p2), .val (.int p3), .val (.int p4), .val (.long p1), .second, .val (.double (FP.i2d p2)), .second, .val (.double (FP.dadd (FP.i2d p2) (FP.i2d (((p4 >>> ((2 : Int32) &&& 31)) &&& (3 : Int32)) - (1 : Int32))))), .second, .val (.ref b20), .val (.ref b24), .val (.int (gtG p0 (FP.i2d p2) p1 (FP.dadd (FP.i2d p2) (FP.i2d (((p4 >>> ((2 : Int32) &&& 31)) &&& (3 : Int32)) - (1 : Int32)))))), .val (.int (gtG p1 (FP.dadd (FP.i2d p2) (FP.i2d (((p4 >>> ((2 : Int32) &&& 31)) &&& (3 : Int32)) - (1 : Int32)))) p0 (FP.i2d p2)))] [(.long p0), (.int (gtG p0 (FP.i2d p2) p1 (FP.dadd (FP.i2d p2) (FP.i2d (((p4 >>> ((2 : Int32) &&& 31)) &&& (3 : Int32)) - (1 : Int32))))))]))
      refine Goes.st (fun t k => XS.dload X33.here hx rfl (hb hby at_93) rfl k) ?_
      show Goes p e below s _ _ _ (T33.setTop (mkF m 95 #[.val (.long p0), .second, .val (.long p1), .second, .val (.int p2), .val (.int p3), .val (.int p4), .val (.long p1), .second, .val (.double (FP.i2d p2)), .second, .val (.double (FP.dadd (FP.i2d p2) (FP.i2d (((p4 >>> ((2 : Int32) &&& 31)) &&& (3 : Int32)) - (1 : Int32))))), .second, .val (.ref b20), .val (.ref b24), .val (.int (gtG p0 (FP.i2d p2) p1 (FP.dadd (FP.i2d p2) (FP.i2d (((p4 >>> ((2 : Int32) &&& 31)) &&& (3 : Int32)) - (1 : Int32)))))), .val (.int (gtG p1 (FP.dadd (FP.i2d p2) (FP.i2d (((p4 >>> ((2 : Int32) &&& 31)) &&& (3 : Int32)) - (1 : Int32)))) p0 (FP.i2d p2)))] [(.double (FP.i2d p2)), (.long p0), (.int (gtG p0 (FP.i2d p2) p1 (FP.dadd (FP.i2d p2) (FP.i2d (((p4 >>> ((2 : Int32) &&& 31)) &&& (3 : Int32)) - (1 : Int32))))))]))
      refine Goes.st (fun t k => XT.lload X33.here hx rfl (hb hby at_95) rfl k) ?_
      show Goes p e below s _ _ _ (T33.setTop (mkF m 97 #[.val (.long p0), .second, .val (.long p1), .second, .val (.int p2), .val (.int p3), .val (.int p4), .val (.long p1), .second, .val (.double (FP.i2d p2)), .second, .val (.double (FP.dadd (FP.i2d p2) (FP.i2d (((p4 >>> ((2 : Int32) &&& 31)) &&& (3 : Int32)) - (1 : Int32))))), .second, .val (.ref b20), .val (.ref b24), .val (.int (gtG p0 (FP.i2d p2) p1 (FP.dadd (FP.i2d p2) (FP.i2d (((p4 >>> ((2 : Int32) &&& 31)) &&& (3 : Int32)) - (1 : Int32)))))), .val (.int (gtG p1 (FP.dadd (FP.i2d p2) (FP.i2d (((p4 >>> ((2 : Int32) &&& 31)) &&& (3 : Int32)) - (1 : Int32)))) p0 (FP.i2d p2)))] [(.long p1), (.double (FP.i2d p2)), (.long p0), (.int (gtG p0 (FP.i2d p2) p1 (FP.dadd (FP.i2d p2) (FP.i2d (((p4 >>> ((2 : Int32) &&& 31)) &&& (3 : Int32)) - (1 : Int32))))))]))
      refine Goes.st (fun t k => XS.dload X33.here hx rfl (hb hby at_97) rfl k) ?_
      show Goes p e below s _ _ _ (T33.setTop (mkF m 99 #[.val (.long p0), .second, .val (.long p1), .second, .val (.int p2), .val (.int p3), .val (.int p4), .val (.long p1), .second, .val (.double (FP.i2d p2)), .second, .val (.double (FP.dadd (FP.i2d p2) (FP.i2d (((p4 >>> ((2 : Int32) &&& 31)) &&& (3 : Int32)) - (1 : Int32))))), .second, .val (.ref b20), .val (.ref b24), .val (.int (gtG p0 (FP.i2d p2) p1 (FP.dadd (FP.i2d p2) (FP.i2d (((p4 >>> ((2 : Int32) &&& 31)) &&& (3 : Int32)) - (1 : Int32)))))), .val (.int (gtG p1 (FP.dadd (FP.i2d p2) (FP.i2d (((p4 >>> ((2 : Int32) &&& 31)) &&& (3 : Int32)) - (1 : Int32)))) p0 (FP.i2d p2)))] [(.double (FP.dadd (FP.i2d p2) (FP.i2d (((p4 >>> ((2 : Int32) &&& 31)) &&& (3 : Int32)) - (1 : Int32))))), (.long p1), (.double (FP.i2d p2)), (.long p0), (.int (gtG p0 (FP.i2d p2) p1 (FP.dadd (FP.i2d p2) (FP.i2d (((p4 >>> ((2 : Int32) &&& 31)) &&& (3 : Int32)) - (1 : Int32))))))]))
      obtain ⟨_, _, ⟨T35, L35, k35, n35⟩, -, X35, ⟨Lc35, hQ35, l35, y35, z35⟩, st35⟩ := Jvm.LawKit.callS X33 hx (y := (⟨"com/example/parley/parley/GainIsLargerThanPinLaw", "expected", "(JDJD)Z"⟩ : MethodName)) hown (mvT hZ (hw _ (List.mem_of_getElem? (i := 23) rfl))) (mvT hZ (hw _ (List.mem_of_getElem? (i := 24) rfl))) (mvT hZ (hw _ (List.mem_of_getElem? (i := 25) rfl))) (mvT hZ (hw _ (List.mem_of_getElem? (i := 26) rfl))) (by decide) (backOf (W := 1) (rmE l Z a0 hw [] p0 (FP.i2d p2) p1 (FP.dadd (FP.i2d p2) (FP.i2d (((p4 >>> ((2 : Int32) &&& 31)) &&& (3 : Int32)) - (1 : Int32)))) T27.heap n0 Z27 ) hZ (hw _ (List.mem_of_getElem? (i := 26) rfl)) (hw _ (List.mem_of_getElem? (i := 25) rfl)) (by decide) (by decide)) (g := (mkF m 99 #[.val (.long p0), .second, .val (.long p1), .second, .val (.int p2), .val (.int p3), .val (.int p4), .val (.long p1), .second, .val (.double (FP.i2d p2)), .second, .val (.double (FP.dadd (FP.i2d p2) (FP.i2d (((p4 >>> ((2 : Int32) &&& 31)) &&& (3 : Int32)) - (1 : Int32))))), .second, .val (.ref b20), .val (.ref b24), .val (.int (gtG p0 (FP.i2d p2) p1 (FP.dadd (FP.i2d p2) (FP.i2d (((p4 >>> ((2 : Int32) &&& 31)) &&& (3 : Int32)) - (1 : Int32)))))), .val (.int (gtG p1 (FP.dadd (FP.i2d p2) (FP.i2d (((p4 >>> ((2 : Int32) &&& 31)) &&& (3 : Int32)) - (1 : Int32)))) p0 (FP.i2d p2)))] [(.double (FP.dadd (FP.i2d p2) (FP.i2d (((p4 >>> ((2 : Int32) &&& 31)) &&& (3 : Int32)) - (1 : Int32))))), (.long p1), (.double (FP.i2d p2)), (.long p0), (.int (gtG p0 (FP.i2d p2) p1 (FP.dadd (FP.i2d p2) (FP.i2d (((p4 >>> ((2 : Int32) &&& 31)) &&& (3 : Int32)) - (1 : Int32))))))])) rfl (by rw [hml]; rfl) (argsL := [(.long p0), (.double (FP.i2d p2)), (.long p1), (.double (FP.dadd (FP.i2d p2) (FP.i2d (((p4 >>> ((2 : Int32) &&& 31)) &&& (3 : Int32)) - (1 : Int32)))))]) (rest := [(.int (gtG p0 (FP.i2d p2) p1 (FP.dadd (FP.i2d p2) (FP.i2d (((p4 >>> ((2 : Int32) &&& 31)) &&& (3 : Int32)) - (1 : Int32))))))]) (lenOf pd__JDJD_Z_121a rfl) rfl (by show 2 * 0 + _ ≤ _; exact Nat.le_of_eq rfl) (hb hby at_99) (fun _ _ => ⟨rfl, eh33, (by decide : 2 + 0 ≤ 16), (by decide : 4 + 0 ≤ 128)⟩)
      dsimp only [Pt.U, Pt.locs, Pt.cells, Pt.slots] at X35 l35 y35 z35 st35 hQ35
      subst l35 y35 z35
      obtain ⟨rfl, N35q, eh35⟩ := hQ35
      have N35 := Fr.app N33 N35q
      refine Goes.st st35 ?_
      show Goes p e below s _ _ _ (T35.setTop (mkF m 102 #[.val (.long p0), .second, .val (.long p1), .second, .val (.int p2), .val (.int p3), .val (.int p4), .val (.long p1), .second, .val (.double (FP.i2d p2)), .second, .val (.double (FP.dadd (FP.i2d p2) (FP.i2d (((p4 >>> ((2 : Int32) &&& 31)) &&& (3 : Int32)) - (1 : Int32))))), .second, .val (.ref b20), .val (.ref b24), .val (.int (gtG p0 (FP.i2d p2) p1 (FP.dadd (FP.i2d p2) (FP.i2d (((p4 >>> ((2 : Int32) &&& 31)) &&& (3 : Int32)) - (1 : Int32)))))), .val (.int (gtG p1 (FP.dadd (FP.i2d p2) (FP.i2d (((p4 >>> ((2 : Int32) &&& 31)) &&& (3 : Int32)) - (1 : Int32)))) p0 (FP.i2d p2)))] [(.int (gtG p0 (FP.i2d p2) p1 (FP.dadd (FP.i2d p2) (FP.i2d (((p4 >>> ((2 : Int32) &&& 31)) &&& (3 : Int32)) - (1 : Int32)))))), (.int (gtG p0 (FP.i2d p2) p1 (FP.dadd (FP.i2d p2) (FP.i2d (((p4 >>> ((2 : Int32) &&& 31)) &&& (3 : Int32)) - (1 : Int32))))))]))
      refine Goes.st (fun t k => XS.icmpNo X35.here hx rfl (hb hby at_102) rfl (teq (rfl : (gtG p0 (FP.i2d p2) p1 (FP.dadd (FP.i2d p2) (FP.i2d (((p4 >>> ((2 : Int32) &&& 31)) &&& (3 : Int32)) - (1 : Int32))))) = (gtG p0 (FP.i2d p2) p1 (FP.dadd (FP.i2d p2) (FP.i2d (((p4 >>> ((2 : Int32) &&& 31)) &&& (3 : Int32)) - (1 : Int32))))))).2 k) ?_
      show Goes p e below s _ _ _ (T35.setTop (mkF m 105 #[.val (.long p0), .second, .val (.long p1), .second, .val (.int p2), .val (.int p3), .val (.int p4), .val (.long p1), .second, .val (.double (FP.i2d p2)), .second, .val (.double (FP.dadd (FP.i2d p2) (FP.i2d (((p4 >>> ((2 : Int32) &&& 31)) &&& (3 : Int32)) - (1 : Int32))))), .second, .val (.ref b20), .val (.ref b24), .val (.int (gtG p0 (FP.i2d p2) p1 (FP.dadd (FP.i2d p2) (FP.i2d (((p4 >>> ((2 : Int32) &&& 31)) &&& (3 : Int32)) - (1 : Int32)))))), .val (.int (gtG p1 (FP.dadd (FP.i2d p2) (FP.i2d (((p4 >>> ((2 : Int32) &&& 31)) &&& (3 : Int32)) - (1 : Int32)))) p0 (FP.i2d p2)))] []))
      refine Goes.st (fun t k => XS.iload X35.here hx rfl (hb hby at_105) rfl k) ?_
      show Goes p e below s _ _ _ (T35.setTop (mkF m 107 #[.val (.long p0), .second, .val (.long p1), .second, .val (.int p2), .val (.int p3), .val (.int p4), .val (.long p1), .second, .val (.double (FP.i2d p2)), .second, .val (.double (FP.dadd (FP.i2d p2) (FP.i2d (((p4 >>> ((2 : Int32) &&& 31)) &&& (3 : Int32)) - (1 : Int32))))), .second, .val (.ref b20), .val (.ref b24), .val (.int (gtG p0 (FP.i2d p2) p1 (FP.dadd (FP.i2d p2) (FP.i2d (((p4 >>> ((2 : Int32) &&& 31)) &&& (3 : Int32)) - (1 : Int32)))))), .val (.int (gtG p1 (FP.dadd (FP.i2d p2) (FP.i2d (((p4 >>> ((2 : Int32) &&& 31)) &&& (3 : Int32)) - (1 : Int32)))) p0 (FP.i2d p2)))] [(.int (gtG p1 (FP.dadd (FP.i2d p2) (FP.i2d (((p4 >>> ((2 : Int32) &&& 31)) &&& (3 : Int32)) - (1 : Int32)))) p0 (FP.i2d p2)))]))
      refine Goes.st (fun t k => XT.lload X35.here hx rfl (hb hby at_107) rfl k) ?_
      show Goes p e below s _ _ _ (T35.setTop (mkF m 109 #[.val (.long p0), .second, .val (.long p1), .second, .val (.int p2), .val (.int p3), .val (.int p4), .val (.long p1), .second, .val (.double (FP.i2d p2)), .second, .val (.double (FP.dadd (FP.i2d p2) (FP.i2d (((p4 >>> ((2 : Int32) &&& 31)) &&& (3 : Int32)) - (1 : Int32))))), .second, .val (.ref b20), .val (.ref b24), .val (.int (gtG p0 (FP.i2d p2) p1 (FP.dadd (FP.i2d p2) (FP.i2d (((p4 >>> ((2 : Int32) &&& 31)) &&& (3 : Int32)) - (1 : Int32)))))), .val (.int (gtG p1 (FP.dadd (FP.i2d p2) (FP.i2d (((p4 >>> ((2 : Int32) &&& 31)) &&& (3 : Int32)) - (1 : Int32)))) p0 (FP.i2d p2)))] [(.long p1), (.int (gtG p1 (FP.dadd (FP.i2d p2) (FP.i2d (((p4 >>> ((2 : Int32) &&& 31)) &&& (3 : Int32)) - (1 : Int32)))) p0 (FP.i2d p2)))]))
      refine Goes.st (fun t k => XS.dload X35.here hx rfl (hb hby at_109) rfl k) ?_
      show Goes p e below s _ _ _ (T35.setTop (mkF m 111 #[.val (.long p0), .second, .val (.long p1), .second, .val (.int p2), .val (.int p3), .val (.int p4), .val (.long p1), .second, .val (.double (FP.i2d p2)), .second, .val (.double (FP.dadd (FP.i2d p2) (FP.i2d (((p4 >>> ((2 : Int32) &&& 31)) &&& (3 : Int32)) - (1 : Int32))))), .second, .val (.ref b20), .val (.ref b24), .val (.int (gtG p0 (FP.i2d p2) p1 (FP.dadd (FP.i2d p2) (FP.i2d (((p4 >>> ((2 : Int32) &&& 31)) &&& (3 : Int32)) - (1 : Int32)))))), .val (.int (gtG p1 (FP.dadd (FP.i2d p2) (FP.i2d (((p4 >>> ((2 : Int32) &&& 31)) &&& (3 : Int32)) - (1 : Int32)))) p0 (FP.i2d p2)))] [(.double (FP.dadd (FP.i2d p2) (FP.i2d (((p4 >>> ((2 : Int32) &&& 31)) &&& (3 : Int32)) - (1 : Int32))))), (.long p1), (.int (gtG p1 (FP.dadd (FP.i2d p2) (FP.i2d (((p4 >>> ((2 : Int32) &&& 31)) &&& (3 : Int32)) - (1 : Int32)))) p0 (FP.i2d p2)))]))
      refine Goes.st (fun t k => XT.lloadN X35.here hx rfl (hb hby at_111) rfl k) ?_
      show Goes p e below s _ _ _ (T35.setTop (mkF m 112 #[.val (.long p0), .second, .val (.long p1), .second, .val (.int p2), .val (.int p3), .val (.int p4), .val (.long p1), .second, .val (.double (FP.i2d p2)), .second, .val (.double (FP.dadd (FP.i2d p2) (FP.i2d (((p4 >>> ((2 : Int32) &&& 31)) &&& (3 : Int32)) - (1 : Int32))))), .second, .val (.ref b20), .val (.ref b24), .val (.int (gtG p0 (FP.i2d p2) p1 (FP.dadd (FP.i2d p2) (FP.i2d (((p4 >>> ((2 : Int32) &&& 31)) &&& (3 : Int32)) - (1 : Int32)))))), .val (.int (gtG p1 (FP.dadd (FP.i2d p2) (FP.i2d (((p4 >>> ((2 : Int32) &&& 31)) &&& (3 : Int32)) - (1 : Int32)))) p0 (FP.i2d p2)))] [(.long p0), (.double (FP.dadd (FP.i2d p2) (FP.i2d (((p4 >>> ((2 : Int32) &&& 31)) &&& (3 : Int32)) - (1 : Int32))))), (.long p1), (.int (gtG p1 (FP.dadd (FP.i2d p2) (FP.i2d (((p4 >>> ((2 : Int32) &&& 31)) &&& (3 : Int32)) - (1 : Int32)))) p0 (FP.i2d p2)))]))
      refine Goes.st (fun t k => XS.dload X35.here hx rfl (hb hby at_112) rfl k) ?_
      show Goes p e below s _ _ _ (T35.setTop (mkF m 114 #[.val (.long p0), .second, .val (.long p1), .second, .val (.int p2), .val (.int p3), .val (.int p4), .val (.long p1), .second, .val (.double (FP.i2d p2)), .second, .val (.double (FP.dadd (FP.i2d p2) (FP.i2d (((p4 >>> ((2 : Int32) &&& 31)) &&& (3 : Int32)) - (1 : Int32))))), .second, .val (.ref b20), .val (.ref b24), .val (.int (gtG p0 (FP.i2d p2) p1 (FP.dadd (FP.i2d p2) (FP.i2d (((p4 >>> ((2 : Int32) &&& 31)) &&& (3 : Int32)) - (1 : Int32)))))), .val (.int (gtG p1 (FP.dadd (FP.i2d p2) (FP.i2d (((p4 >>> ((2 : Int32) &&& 31)) &&& (3 : Int32)) - (1 : Int32)))) p0 (FP.i2d p2)))] [(.double (FP.i2d p2)), (.long p0), (.double (FP.dadd (FP.i2d p2) (FP.i2d (((p4 >>> ((2 : Int32) &&& 31)) &&& (3 : Int32)) - (1 : Int32))))), (.long p1), (.int (gtG p1 (FP.dadd (FP.i2d p2) (FP.i2d (((p4 >>> ((2 : Int32) &&& 31)) &&& (3 : Int32)) - (1 : Int32)))) p0 (FP.i2d p2)))]))
      obtain ⟨_, _, ⟨T36, L36, k36, n36⟩, -, X36, ⟨Lc36, hQ36, l36, y36, z36⟩, st36⟩ := Jvm.LawKit.callS X35 hx (y := (⟨"com/example/parley/parley/GainIsLargerThanPinLaw", "expected", "(JDJD)Z"⟩ : MethodName)) hown (mvT hZ (hw _ (List.mem_of_getElem? (i := 23) rfl))) (mvT hZ (hw _ (List.mem_of_getElem? (i := 24) rfl))) (mvT hZ (hw _ (List.mem_of_getElem? (i := 25) rfl))) (mvT hZ (hw _ (List.mem_of_getElem? (i := 26) rfl))) (by decide) (backOf (W := 1) (rmE l Z a0 hw [] p1 (FP.dadd (FP.i2d p2) (FP.i2d (((p4 >>> ((2 : Int32) &&& 31)) &&& (3 : Int32)) - (1 : Int32)))) p0 (FP.i2d p2) T27.heap n0 Z27 ) hZ (hw _ (List.mem_of_getElem? (i := 26) rfl)) (hw _ (List.mem_of_getElem? (i := 25) rfl)) (by decide) (by decide)) (g := (mkF m 114 #[.val (.long p0), .second, .val (.long p1), .second, .val (.int p2), .val (.int p3), .val (.int p4), .val (.long p1), .second, .val (.double (FP.i2d p2)), .second, .val (.double (FP.dadd (FP.i2d p2) (FP.i2d (((p4 >>> ((2 : Int32) &&& 31)) &&& (3 : Int32)) - (1 : Int32))))), .second, .val (.ref b20), .val (.ref b24), .val (.int (gtG p0 (FP.i2d p2) p1 (FP.dadd (FP.i2d p2) (FP.i2d (((p4 >>> ((2 : Int32) &&& 31)) &&& (3 : Int32)) - (1 : Int32)))))), .val (.int (gtG p1 (FP.dadd (FP.i2d p2) (FP.i2d (((p4 >>> ((2 : Int32) &&& 31)) &&& (3 : Int32)) - (1 : Int32)))) p0 (FP.i2d p2)))] [(.double (FP.i2d p2)), (.long p0), (.double (FP.dadd (FP.i2d p2) (FP.i2d (((p4 >>> ((2 : Int32) &&& 31)) &&& (3 : Int32)) - (1 : Int32))))), (.long p1), (.int (gtG p1 (FP.dadd (FP.i2d p2) (FP.i2d (((p4 >>> ((2 : Int32) &&& 31)) &&& (3 : Int32)) - (1 : Int32)))) p0 (FP.i2d p2)))])) rfl (by rw [hml]; rfl) (argsL := [(.long p1), (.double (FP.dadd (FP.i2d p2) (FP.i2d (((p4 >>> ((2 : Int32) &&& 31)) &&& (3 : Int32)) - (1 : Int32))))), (.long p0), (.double (FP.i2d p2))]) (rest := [(.int (gtG p1 (FP.dadd (FP.i2d p2) (FP.i2d (((p4 >>> ((2 : Int32) &&& 31)) &&& (3 : Int32)) - (1 : Int32)))) p0 (FP.i2d p2)))]) (lenOf pd__JDJD_Z_121a rfl) rfl (by show 2 * 0 + _ ≤ _; exact Nat.le_of_eq rfl) (hb hby at_114) (fun _ _ => ⟨rfl, eh35, (by decide : 2 + 0 ≤ 16), (by decide : 4 + 0 ≤ 128)⟩)
      dsimp only [Pt.U, Pt.locs, Pt.cells, Pt.slots] at X36 l36 y36 z36 st36 hQ36
      subst l36 y36 z36
      obtain ⟨rfl, N36q, eh36⟩ := hQ36
      have N36 := Fr.app N35 N36q
      refine Goes.st st36 ?_
      show Goes p e below s _ _ _ (T36.setTop (mkF m 117 #[.val (.long p0), .second, .val (.long p1), .second, .val (.int p2), .val (.int p3), .val (.int p4), .val (.long p1), .second, .val (.double (FP.i2d p2)), .second, .val (.double (FP.dadd (FP.i2d p2) (FP.i2d (((p4 >>> ((2 : Int32) &&& 31)) &&& (3 : Int32)) - (1 : Int32))))), .second, .val (.ref b20), .val (.ref b24), .val (.int (gtG p0 (FP.i2d p2) p1 (FP.dadd (FP.i2d p2) (FP.i2d (((p4 >>> ((2 : Int32) &&& 31)) &&& (3 : Int32)) - (1 : Int32)))))), .val (.int (gtG p1 (FP.dadd (FP.i2d p2) (FP.i2d (((p4 >>> ((2 : Int32) &&& 31)) &&& (3 : Int32)) - (1 : Int32)))) p0 (FP.i2d p2)))] [(.int (gtG p1 (FP.dadd (FP.i2d p2) (FP.i2d (((p4 >>> ((2 : Int32) &&& 31)) &&& (3 : Int32)) - (1 : Int32)))) p0 (FP.i2d p2))), (.int (gtG p1 (FP.dadd (FP.i2d p2) (FP.i2d (((p4 >>> ((2 : Int32) &&& 31)) &&& (3 : Int32)) - (1 : Int32)))) p0 (FP.i2d p2)))]))
      refine Goes.st (fun t k => XS.icmpNo X36.here hx rfl (hb hby at_117) rfl (teq (rfl : (gtG p1 (FP.dadd (FP.i2d p2) (FP.i2d (((p4 >>> ((2 : Int32) &&& 31)) &&& (3 : Int32)) - (1 : Int32)))) p0 (FP.i2d p2)) = (gtG p1 (FP.dadd (FP.i2d p2) (FP.i2d (((p4 >>> ((2 : Int32) &&& 31)) &&& (3 : Int32)) - (1 : Int32)))) p0 (FP.i2d p2)))).2 k) ?_
      show Goes p e below s _ _ _ (T36.setTop (mkF m 120 #[.val (.long p0), .second, .val (.long p1), .second, .val (.int p2), .val (.int p3), .val (.int p4), .val (.long p1), .second, .val (.double (FP.i2d p2)), .second, .val (.double (FP.dadd (FP.i2d p2) (FP.i2d (((p4 >>> ((2 : Int32) &&& 31)) &&& (3 : Int32)) - (1 : Int32))))), .second, .val (.ref b20), .val (.ref b24), .val (.int (gtG p0 (FP.i2d p2) p1 (FP.dadd (FP.i2d p2) (FP.i2d (((p4 >>> ((2 : Int32) &&& 31)) &&& (3 : Int32)) - (1 : Int32)))))), .val (.int (gtG p1 (FP.dadd (FP.i2d p2) (FP.i2d (((p4 >>> ((2 : Int32) &&& 31)) &&& (3 : Int32)) - (1 : Int32)))) p0 (FP.i2d p2)))] []))
      refine Goes.st (fun t k => XS.iconst X36.here hx rfl (hb hby at_120) k) ?_
      show Goes p e below s _ _ _ (T36.setTop (mkF m 121 #[.val (.long p0), .second, .val (.long p1), .second, .val (.int p2), .val (.int p3), .val (.int p4), .val (.long p1), .second, .val (.double (FP.i2d p2)), .second, .val (.double (FP.dadd (FP.i2d p2) (FP.i2d (((p4 >>> ((2 : Int32) &&& 31)) &&& (3 : Int32)) - (1 : Int32))))), .second, .val (.ref b20), .val (.ref b24), .val (.int (gtG p0 (FP.i2d p2) p1 (FP.dadd (FP.i2d p2) (FP.i2d (((p4 >>> ((2 : Int32) &&& 31)) &&& (3 : Int32)) - (1 : Int32)))))), .val (.int (gtG p1 (FP.dadd (FP.i2d p2) (FP.i2d (((p4 >>> ((2 : Int32) &&& 31)) &&& (3 : Int32)) - (1 : Int32)))) p0 (FP.i2d p2)))] [(.int (1 : Int32))]))
      refine Goes.st (fun t k => XS.goto X36.here hx rfl (pc0 := 121) (pc' := 125) rfl (hb hby at_121) (by decide) (by decide) k) ?_
      show Goes p e below s _ _ _ (T36.setTop (mkF m 125 #[.val (.long p0), .second, .val (.long p1), .second, .val (.int p2), .val (.int p3), .val (.int p4), .val (.long p1), .second, .val (.double (FP.i2d p2)), .second, .val (.double (FP.dadd (FP.i2d p2) (FP.i2d (((p4 >>> ((2 : Int32) &&& 31)) &&& (3 : Int32)) - (1 : Int32))))), .second, .val (.ref b20), .val (.ref b24), .val (.int (gtG p0 (FP.i2d p2) p1 (FP.dadd (FP.i2d p2) (FP.i2d (((p4 >>> ((2 : Int32) &&& 31)) &&& (3 : Int32)) - (1 : Int32)))))), .val (.int (gtG p1 (FP.dadd (FP.i2d p2) (FP.i2d (((p4 >>> ((2 : Int32) &&& 31)) &&& (3 : Int32)) - (1 : Int32)))) p0 (FP.i2d p2)))] [(.int (1 : Int32))]))
      refine Goes.retN X36 hx hlk hret (by simp) (hb hby at_125) (by decide) ?_ (by decide) (by decide)
      rw [eh36]
      exact ⟨rfl, N36⟩
  · refine Goes.st (fun t k => XS.ifNo X0.here hx rfl (hb hby at_4) rfl ((if0 _ _).trans (feq c1).1) k) ?_
    show Goes p e below s _ _ _ (s₁.setTop (mkF m 7 #[.val (.long p0), .second, .val (.long p1), .second, .val (.int p2), .val (.int p3), .val (.int p4), .unset, .unset, .unset, .unset, .unset, .unset, .unset, .unset, .unset, .unset] []))
    refine Goes.st (fun t k => XT.lloadN X0.here hx rfl (hb hby at_7) rfl k) ?_
    show Goes p e below s _ _ _ (s₁.setTop (mkF m 8 #[.val (.long p0), .second, .val (.long p1), .second, .val (.int p2), .val (.int p3), .val (.int p4), .unset, .unset, .unset, .unset, .unset, .unset, .unset, .unset, .unset, .unset] [(.long p0)]))
    refine Goes.st (fun t k => XS.goto X0.here hx rfl (pc0 := 8) (pc' := 12) rfl (hb hby at_8) (by decide) (by decide) k) ?_
    show Goes p e below s _ _ _ (s₁.setTop (mkF m 12 #[.val (.long p0), .second, .val (.long p1), .second, .val (.int p2), .val (.int p3), .val (.int p4), .unset, .unset, .unset, .unset, .unset, .unset, .unset, .unset, .unset, .unset] [(.long p0)]))
    refine Goes.st (fun t k => XT.lstore X0.here hx rfl (hb hby at_12) rfl (l' := #[.val (.long p0), .second, .val (.long p1), .second, .val (.int p2), .val (.int p3), .val (.int p4), .val (.long p0), .second, .unset, .unset, .unset, .unset, .unset, .unset, .unset, .unset]) rfl k) ?_
    show Goes p e below s _ _ _ (s₁.setTop (mkF m 14 #[.val (.long p0), .second, .val (.long p1), .second, .val (.int p2), .val (.int p3), .val (.int p4), .val (.long p0), .second, .unset, .unset, .unset, .unset, .unset, .unset, .unset, .unset] []))
    refine Goes.st (fun t k => XS.iload X0.here hx rfl (hb hby at_14) rfl k) ?_
    show Goes p e below s _ _ _ (s₁.setTop (mkF m 16 #[.val (.long p0), .second, .val (.long p1), .second, .val (.int p2), .val (.int p3), .val (.int p4), .val (.long p0), .second, .unset, .unset, .unset, .unset, .unset, .unset, .unset, .unset] [(.int p2)]))
    refine Goes.st (fun t k => XS.i2dS X0.here hx rfl (hb hby at_16) rfl (v := (FP.i2d p2)) rfl k) ?_
    show Goes p e below s _ _ _ (s₁.setTop (mkF m 17 #[.val (.long p0), .second, .val (.long p1), .second, .val (.int p2), .val (.int p3), .val (.int p4), .val (.long p0), .second, .unset, .unset, .unset, .unset, .unset, .unset, .unset, .unset] [(.double (FP.i2d p2))]))
    refine Goes.st (fun t k => XS.dstore X0.here hx rfl (hb hby at_17) rfl (l' := #[.val (.long p0), .second, .val (.long p1), .second, .val (.int p2), .val (.int p3), .val (.int p4), .val (.long p0), .second, .val (.double (FP.i2d p2)), .second, .unset, .unset, .unset, .unset, .unset, .unset]) rfl k) ?_
    show Goes p e below s _ _ _ (s₁.setTop (mkF m 19 #[.val (.long p0), .second, .val (.long p1), .second, .val (.int p2), .val (.int p3), .val (.int p4), .val (.long p0), .second, .val (.double (FP.i2d p2)), .second, .unset, .unset, .unset, .unset, .unset, .unset] []))
    refine Goes.st (fun t k => XS.iload X0.here hx rfl (hb hby at_19) rfl k) ?_
    show Goes p e below s _ _ _ (s₁.setTop (mkF m 21 #[.val (.long p0), .second, .val (.long p1), .second, .val (.int p2), .val (.int p3), .val (.int p4), .val (.long p0), .second, .val (.double (FP.i2d p2)), .second, .unset, .unset, .unset, .unset, .unset, .unset] [(.int p4)]))
    refine Goes.st (fun t k => XS.iconst X0.here hx rfl (hb hby at_21) k) ?_
    show Goes p e below s _ _ _ (s₁.setTop (mkF m 22 #[.val (.long p0), .second, .val (.long p1), .second, .val (.int p2), .val (.int p3), .val (.int p4), .val (.long p0), .second, .val (.double (FP.i2d p2)), .second, .unset, .unset, .unset, .unset, .unset, .unset] [(.int (2 : Int32)), (.int p4)]))
    refine Goes.st (fun t k => XS.iand X0.here hx rfl (hb hby at_22) rfl k) ?_
    show Goes p e below s _ _ _ (s₁.setTop (mkF m 23 #[.val (.long p0), .second, .val (.long p1), .second, .val (.int p2), .val (.int p3), .val (.int p4), .val (.long p0), .second, .val (.double (FP.i2d p2)), .second, .unset, .unset, .unset, .unset, .unset, .unset] [(.int (p4 &&& (2 : Int32)))]))
    by_cases c37 : (p4 &&& (2 : Int32)) = (0 : Int32)
    · refine Goes.st (fun t k => XS.ifYes X0.here hx rfl (pc0 := 23) (pc' := 42) rfl (hb hby at_23) rfl ((if0 _ _).trans (teq c37).1) (by decide) (by decide) k) ?_
      show Goes p e below s _ _ _ (s₁.setTop (mkF m 42 #[.val (.long p0), .second, .val (.long p1), .second, .val (.int p2), .val (.int p3), .val (.int p4), .val (.long p0), .second, .val (.double (FP.i2d p2)), .second, .unset, .unset, .unset, .unset, .unset, .unset] []))
      refine Goes.st (fun t k => XS.iload X0.here hx rfl (hb hby at_42) rfl k) ?_
      show Goes p e below s _ _ _ (s₁.setTop (mkF m 44 #[.val (.long p0), .second, .val (.long p1), .second, .val (.int p2), .val (.int p3), .val (.int p4), .val (.long p0), .second, .val (.double (FP.i2d p2)), .second, .unset, .unset, .unset, .unset, .unset, .unset] [(.int p3)]))
      refine Goes.st (fun t k => XS.i2dS X0.here hx rfl (hb hby at_44) rfl (v := (FP.i2d p3)) rfl k) ?_
      show Goes p e below s _ _ _ (s₁.setTop (mkF m 45 #[.val (.long p0), .second, .val (.long p1), .second, .val (.int p2), .val (.int p3), .val (.int p4), .val (.long p0), .second, .val (.double (FP.i2d p2)), .second, .unset, .unset, .unset, .unset, .unset, .unset] [(.double (FP.i2d p3))]))
      refine Goes.st (fun t k => XS.dstore X0.here hx rfl (hb hby at_45) rfl (l' := #[.val (.long p0), .second, .val (.long p1), .second, .val (.int p2), .val (.int p3), .val (.int p4), .val (.long p0), .second, .val (.double (FP.i2d p2)), .second, .val (.double (FP.i2d p3)), .second, .unset, .unset, .unset, .unset]) rfl k) ?_
      show Goes p e below s _ _ _ (s₁.setTop (mkF m 47 #[.val (.long p0), .second, .val (.long p1), .second, .val (.int p2), .val (.int p3), .val (.int p4), .val (.long p0), .second, .val (.double (FP.i2d p2)), .second, .val (.double (FP.i2d p3)), .second, .unset, .unset, .unset, .unset] []))
      obtain ⟨T38, h38, X38, e38, E38, A38, D38, -, st38⟩ := newO X0 hx hZ hown (hw _ (List.mem_of_getElem? (i := 0) rfl)) (hw _ (List.mem_of_getElem? (i := 1) rfl)) (hw _ (List.mem_of_getElem? (i := 2) rfl)) e0 (g := (mkF m 47 #[.val (.long p0), .second, .val (.long p1), .second, .val (.int p2), .val (.int p3), .val (.int p4), .val (.long p0), .second, .val (.double (FP.i2d p2)), .second, .val (.double (FP.i2d p3)), .second, .unset, .unset, .unset, .unset] [])) rfl (hb hby at_47) (by decide) (by decide)
      obtain ⟨b38, g38⟩ : ∃ z, z = h0.size := ⟨_, rfl⟩
      rw [← g38] at A38 D38 st38
      have lo_b38 : n0 ≤ b38 := by have := Z0; omega
      refine Goes.st st38 ?_
      have Z38 : n0 ≤ h38.size := Nat.le_trans Z0 E38.1
      have F38_violations : Fld Z h38 b38 "com/example/parley/parley/LocalSearch$Gain" "violations" "J" (.long (0 : Int64)) := D38 (Or.inr (hw _ (List.mem_of_getElem? (i := 15) rfl))) (ty := .long) (by decide)
      have F38_total : Fld Z h38 b38 "com/example/parley/parley/LocalSearch$Gain" "total" "D" (.double (0 : UInt64)) := D38 (Or.inr (hw _ (List.mem_of_getElem? (i := 17) rfl))) (ty := .double) (by decide)
      show Goes p e below s _ _ _ (T38.setTop (mkF m 50 #[.val (.long p0), .second, .val (.long p1), .second, .val (.int p2), .val (.int p3), .val (.int p4), .val (.long p0), .second, .val (.double (FP.i2d p2)), .second, .val (.double (FP.i2d p3)), .second, .unset, .unset, .unset, .unset] [(.ref b38)]))
      refine Goes.st (fun t k => XS.dup X38.here hx rfl (hb hby at_50) rfl rfl k) ?_
      show Goes p e below s _ _ _ (T38.setTop (mkF m 51 #[.val (.long p0), .second, .val (.long p1), .second, .val (.int p2), .val (.int p3), .val (.int p4), .val (.long p0), .second, .val (.double (FP.i2d p2)), .second, .val (.double (FP.i2d p3)), .second, .unset, .unset, .unset, .unset] [(.ref b38), (.ref b38)]))
      refine Goes.st (fun t k => XT.lloadN X38.here hx rfl (hb hby at_51) rfl k) ?_
      show Goes p e below s _ _ _ (T38.setTop (mkF m 52 #[.val (.long p0), .second, .val (.long p1), .second, .val (.int p2), .val (.int p3), .val (.int p4), .val (.long p0), .second, .val (.double (FP.i2d p2)), .second, .val (.double (FP.i2d p3)), .second, .unset, .unset, .unset, .unset] [(.long p0), (.ref b38), (.ref b38)]))
      refine Goes.st (fun t k => XS.dload X38.here hx rfl (hb hby at_52) rfl k) ?_
      show Goes p e below s _ _ _ (T38.setTop (mkF m 54 #[.val (.long p0), .second, .val (.long p1), .second, .val (.int p2), .val (.int p3), .val (.int p4), .val (.long p0), .second, .val (.double (FP.i2d p2)), .second, .val (.double (FP.i2d p3)), .second, .unset, .unset, .unset, .unset] [(.double (FP.i2d p2)), (.long p0), (.ref b38), (.ref b38)]))
      obtain ⟨_, _, ⟨T40, L40, k40, n40⟩, -, X40, ⟨Lc40, hQ40, l40, y40, z40⟩, st40⟩ := X38.specialBack hx (y := (⟨"com/example/parley/parley/LocalSearch$Gain", "<init>", "(JD)V"⟩ : MethodName)) rfl hown (mvT hZ (hw _ (List.mem_of_getElem? (i := 3) rfl))) (mvT hZ (hw _ (List.mem_of_getElem? (i := 4) rfl))) (mvT hZ (hw _ (List.mem_of_getElem? (i := 5) rfl))) (by decide) (backOf (W := 1) (rmC l Z a0 hw [] b38 p0 (FP.i2d p2) (.long (0 : Int64)) (.double (0 : UInt64)) h38 n0 Z38 A38 lo_b38 F38_violations F38_total) hZ (hw _ (List.mem_of_getElem? (i := 5) rfl)) (hw _ (List.mem_of_getElem? (i := 2) rfl)) (by decide) (by decide)) (g := (mkF m 54 #[.val (.long p0), .second, .val (.long p1), .second, .val (.int p2), .val (.int p3), .val (.int p4), .val (.long p0), .second, .val (.double (FP.i2d p2)), .second, .val (.double (FP.i2d p3)), .second, .unset, .unset, .unset, .unset] [(.double (FP.i2d p2)), (.long p0), (.ref b38), (.ref b38)])) rfl (by rw [hml]; rfl) (Steps.refl _) (a := b38) (argsL := [(.long p0), (.double (FP.i2d p2))]) (rest := [(.ref b38)]) (lenOf pd__JD_V_b18 rfl) rfl (by show 2 * 0 + _ ≤ _; exact Nat.le_of_eq rfl) (hb hby at_54) (fun _ _ => ⟨rfl, e38, (by decide : 1 + 0 ≤ 16), (by decide : 2 + 0 ≤ 128)⟩)
      dsimp only [Pt.U, Pt.locs, Pt.cells, Pt.slots] at X40 l40 y40 z40 st40 hQ40
      subst l40 y40 z40
      obtain ⟨rfl, N40q, K40, R40_0, R40_1⟩ := hQ40
      have Z40 : n0 ≤ T40.heap.size := Nat.le_trans Z38 K40.1
      have N40 := Fr.app N0 N40q
      refine Goes.sts st40 ?_
      show Goes p e below s _ _ _ (T40.setTop (mkF m 57 #[.val (.long p0), .second, .val (.long p1), .second, .val (.int p2), .val (.int p3), .val (.int p4), .val (.long p0), .second, .val (.double (FP.i2d p2)), .second, .val (.double (FP.i2d p3)), .second, .unset, .unset, .unset, .unset] [(.ref b38)]))
      refine Goes.st (fun t k => XS.astore X40.here hx rfl (hb hby at_57) rfl rfl (l' := #[.val (.long p0), .second, .val (.long p1), .second, .val (.int p2), .val (.int p3), .val (.int p4), .val (.long p0), .second, .val (.double (FP.i2d p2)), .second, .val (.double (FP.i2d p3)), .second, .val (.ref b38), .unset, .unset, .unset]) rfl k) ?_
      show Goes p e below s _ _ _ (T40.setTop (mkF m 59 #[.val (.long p0), .second, .val (.long p1), .second, .val (.int p2), .val (.int p3), .val (.int p4), .val (.long p0), .second, .val (.double (FP.i2d p2)), .second, .val (.double (FP.i2d p3)), .second, .val (.ref b38), .unset, .unset, .unset] []))
      obtain ⟨T42, h42, X42, e42, E42, A42, D42, -, st42⟩ := newO X40 hx hZ hown (hw _ (List.mem_of_getElem? (i := 0) rfl)) (hw _ (List.mem_of_getElem? (i := 1) rfl)) (hw _ (List.mem_of_getElem? (i := 2) rfl)) rfl (g := (mkF m 59 #[.val (.long p0), .second, .val (.long p1), .second, .val (.int p2), .val (.int p3), .val (.int p4), .val (.long p0), .second, .val (.double (FP.i2d p2)), .second, .val (.double (FP.i2d p3)), .second, .val (.ref b38), .unset, .unset, .unset] [])) rfl (hb hby at_59) (by decide) (by decide)
      obtain ⟨b42, g42⟩ : ∃ z, z = T40.heap.size := ⟨_, rfl⟩
      rw [← g42] at A42 D42 st42
      have f43 := (A38.keep K40)
      have ne_b38_b42 : b38 ≠ b42 := Nat.ne_of_lt (Nat.lt_of_lt_of_le f43.lt (Nat.le_of_eq g42.symm))
      have lo_b42 : n0 ≤ b42 := by have := Z40; omega
      refine Goes.st st42 ?_
      have Z42 : n0 ≤ h42.size := Nat.le_trans Z40 E42.1
      have F42_violations : Fld Z h42 b42 "com/example/parley/parley/LocalSearch$Gain" "violations" "J" (.long (0 : Int64)) := D42 (Or.inr (hw _ (List.mem_of_getElem? (i := 15) rfl))) (ty := .long) (by decide)
      have F42_total : Fld Z h42 b42 "com/example/parley/parley/LocalSearch$Gain" "total" "D" (.double (0 : UInt64)) := D42 (Or.inr (hw _ (List.mem_of_getElem? (i := 17) rfl))) (ty := .double) (by decide)
      show Goes p e below s _ _ _ (T42.setTop (mkF m 62 #[.val (.long p0), .second, .val (.long p1), .second, .val (.int p2), .val (.int p3), .val (.int p4), .val (.long p0), .second, .val (.double (FP.i2d p2)), .second, .val (.double (FP.i2d p3)), .second, .val (.ref b38), .unset, .unset, .unset] [(.ref b42)]))
      refine Goes.st (fun t k => XS.dup X42.here hx rfl (hb hby at_62) rfl rfl k) ?_
      show Goes p e below s _ _ _ (T42.setTop (mkF m 63 #[.val (.long p0), .second, .val (.long p1), .second, .val (.int p2), .val (.int p3), .val (.int p4), .val (.long p0), .second, .val (.double (FP.i2d p2)), .second, .val (.double (FP.i2d p3)), .second, .val (.ref b38), .unset, .unset, .unset] [(.ref b42), (.ref b42)]))
      refine Goes.st (fun t k => XT.lload X42.here hx rfl (hb hby at_63) rfl k) ?_
      show Goes p e below s _ _ _ (T42.setTop (mkF m 65 #[.val (.long p0), .second, .val (.long p1), .second, .val (.int p2), .val (.int p3), .val (.int p4), .val (.long p0), .second, .val (.double (FP.i2d p2)), .second, .val (.double (FP.i2d p3)), .second, .val (.ref b38), .unset, .unset, .unset] [(.long p0), (.ref b42), (.ref b42)]))
      refine Goes.st (fun t k => XS.dload X42.here hx rfl (hb hby at_65) rfl k) ?_
      show Goes p e below s _ _ _ (T42.setTop (mkF m 67 #[.val (.long p0), .second, .val (.long p1), .second, .val (.int p2), .val (.int p3), .val (.int p4), .val (.long p0), .second, .val (.double (FP.i2d p2)), .second, .val (.double (FP.i2d p3)), .second, .val (.ref b38), .unset, .unset, .unset] [(.double (FP.i2d p3)), (.long p0), (.ref b42), (.ref b42)]))
      obtain ⟨_, _, ⟨T45, L45, k45, n45⟩, -, X45, ⟨Lc45, hQ45, l45, y45, z45⟩, st45⟩ := X42.specialBack hx (y := (⟨"com/example/parley/parley/LocalSearch$Gain", "<init>", "(JD)V"⟩ : MethodName)) rfl hown (mvT hZ (hw _ (List.mem_of_getElem? (i := 3) rfl))) (mvT hZ (hw _ (List.mem_of_getElem? (i := 4) rfl))) (mvT hZ (hw _ (List.mem_of_getElem? (i := 5) rfl))) (by decide) (backOf (W := 1) (rmC l Z a0 hw [] b42 p0 (FP.i2d p3) (.long (0 : Int64)) (.double (0 : UInt64)) h42 n0 Z42 A42 lo_b42 F42_violations F42_total) hZ (hw _ (List.mem_of_getElem? (i := 5) rfl)) (hw _ (List.mem_of_getElem? (i := 2) rfl)) (by decide) (by decide)) (g := (mkF m 67 #[.val (.long p0), .second, .val (.long p1), .second, .val (.int p2), .val (.int p3), .val (.int p4), .val (.long p0), .second, .val (.double (FP.i2d p2)), .second, .val (.double (FP.i2d p3)), .second, .val (.ref b38), .unset, .unset, .unset] [(.double (FP.i2d p3)), (.long p0), (.ref b42), (.ref b42)])) rfl (by rw [hml]; rfl) (Steps.refl _) (a := b42) (argsL := [(.long p0), (.double (FP.i2d p3))]) (rest := [(.ref b42)]) (lenOf pd__JD_V_b18 rfl) rfl (by show 2 * 0 + _ ≤ _; exact Nat.le_of_eq rfl) (hb hby at_67) (fun _ _ => ⟨rfl, e42, (by decide : 2 + 0 ≤ 16), (by decide : 4 + 0 ≤ 128)⟩)
      dsimp only [Pt.U, Pt.locs, Pt.cells, Pt.slots] at X45 l45 y45 z45 st45 hQ45
      subst l45 y45 z45
      obtain ⟨rfl, N45q, K45, R45_0, R45_1⟩ := hQ45
      have Z45 : n0 ≤ T45.heap.size := Nat.le_trans Z42 K45.1
      have N45 := Fr.app N40 N45q
      refine Goes.sts st45 ?_
      show Goes p e below s _ _ _ (T45.setTop (mkF m 70 #[.val (.long p0), .second, .val (.long p1), .second, .val (.int p2), .val (.int p3), .val (.int p4), .val (.long p0), .second, .val (.double (FP.i2d p2)), .second, .val (.double (FP.i2d p3)), .second, .val (.ref b38), .unset, .unset, .unset] [(.ref b42)]))
      refine Goes.st (fun t k => XS.astore X45.here hx rfl (hb hby at_70) rfl rfl (l' := #[.val (.long p0), .second, .val (.long p1), .second, .val (.int p2), .val (.int p3), .val (.int p4), .val (.long p0), .second, .val (.double (FP.i2d p2)), .second, .val (.double (FP.i2d p3)), .second, .val (.ref b38), .val (.ref b42), .unset, .unset]) rfl k) ?_
      show Goes p e below s _ _ _ (T45.setTop (mkF m 72 #[.val (.long p0), .second, .val (.long p1), .second, .val (.int p2), .val (.int p3), .val (.int p4), .val (.long p0), .second, .val (.double (FP.i2d p2)), .second, .val (.double (FP.i2d p3)), .second, .val (.ref b38), .val (.ref b42), .unset, .unset] []))
      refine Goes.st (fun t k => XS.aload X45.here hx rfl (hb hby at_72) rfl rfl k) ?_
      show Goes p e below s _ _ _ (T45.setTop (mkF m 74 #[.val (.long p0), .second, .val (.long p1), .second, .val (.int p2), .val (.int p3), .val (.int p4), .val (.long p0), .second, .val (.double (FP.i2d p2)), .second, .val (.double (FP.i2d p3)), .second, .val (.ref b38), .val (.ref b42), .unset, .unset] [(.ref b38)]))
      refine Goes.st (fun t k => XS.aload X45.here hx rfl (hb hby at_74) rfl rfl k) ?_
      show Goes p e below s _ _ _ (T45.setTop (mkF m 76 #[.val (.long p0), .second, .val (.long p1), .second, .val (.int p2), .val (.int p3), .val (.int p4), .val (.long p0), .second, .val (.double (FP.i2d p2)), .second, .val (.double (FP.i2d p3)), .second, .val (.ref b38), .val (.ref b42), .unset, .unset] [(.ref b42), (.ref b38)]))
      have f47 := ((R40_0.ext E42).keep K45 (ninS ne_b38_b42 nin0))
      have f48 := ((R40_1.ext E42).keep K45 (ninS ne_b38_b42 nin0))
      have f50 := ((f43.ext E42).keep K45)
      obtain ⟨cq49, kq49, qa49, qb49, qc49⟩ := isOf hZ rfl f50
      obtain ⟨_, _, ⟨T49, L49, k49, n49⟩, -, X49, ⟨Lc49, hQ49, l49, y49, z49⟩, st49⟩ := X45.virtualBack hx (y := (⟨"com/example/parley/parley/LocalSearch$Gain", "isLargerThan", "(Lcom/example/parley/parley/LocalSearch$Gain;)Z"⟩ : MethodName)) (z := (⟨"com/example/parley/parley/LocalSearch$Gain", "isLargerThan", "(Lcom/example/parley/parley/LocalSearch$Gain;)Z"⟩ : MethodName)) hown (mvT hZ (hw _ (List.mem_of_getElem? (i := 18) rfl))) (mvT hZ (hw _ (List.mem_of_getElem? (i := 19) rfl))) (notFace_of_selects (args := #[]) (mvT hZ (hw _ (List.mem_of_getElem? (i := 21) rfl)))) (mvT hZ (hw _ (List.mem_of_getElem? (i := 21) rfl))) (mvT hZ (hw _ (List.mem_of_getElem? (i := 20) rfl))) (by decide) (backOf (W := 0) (rmL l Z a0 hw [] b38 b42 p0 p0 (FP.i2d p2) (FP.i2d p3) T45.heap n0 Z45 f47 f48 R45_0 R45_1) hZ (hw _ (List.mem_of_getElem? (i := 22) rfl)) (hw _ (List.mem_of_getElem? (i := 2) rfl)) (by decide) (by decide)) qa49 qc49 (g := (mkF m 76 #[.val (.long p0), .second, .val (.long p1), .second, .val (.int p2), .val (.int p3), .val (.int p4), .val (.long p0), .second, .val (.double (FP.i2d p2)), .second, .val (.double (FP.i2d p3)), .second, .val (.ref b38), .val (.ref b42), .unset, .unset] [(.ref b42), (.ref b38)])) rfl (by rw [hml]; rfl) (Steps.refl _) (argsL := [(.ref b42)]) (rest := []) (lenOf pd__Lcom_example_parley_parley_LocalSearch_Gain__Z_fa69 rfl) rfl (by show 2 * 0 + _ ≤ _; exact Nat.le_of_eq rfl) (hb hby at_76) (fun _ _ => ⟨rfl, rfl, (by decide : 2 + 0 ≤ 16), (by decide : 4 + 0 ≤ 128)⟩)
      dsimp only [Pt.U, Pt.locs, Pt.cells, Pt.slots] at X49 l49 y49 z49 st49 hQ49
      subst l49 y49 z49
      obtain ⟨rfl, N49q, eh49⟩ := hQ49
      have N49 := Fr.app N45 N49q
      refine Goes.sts st49 ?_
      show Goes p e below s _ _ _ (T49.setTop (mkF m 79 #[.val (.long p0), .second, .val (.long p1), .second, .val (.int p2), .val (.int p3), .val (.int p4), .val (.long p0), .second, .val (.double (FP.i2d p2)), .second, .val (.double (FP.i2d p3)), .second, .val (.ref b38), .val (.ref b42), .unset, .unset] [(.int (gtG p0 (FP.i2d p2) p0 (FP.i2d p3)))]))
      refine Goes.st (fun t k => XS.istore X49.here hx rfl (hb hby at_79) rfl (l' := #[.val (.long p0), .second, .val (.long p1), .second, .val (.int p2), .val (.int p3), .val (.int p4), .val (.long p0), .second, .val (.double (FP.i2d p2)), .second, .val (.double (FP.i2d p3)), .second, .val (.ref b38), .val (.ref b42), .val (.int (gtG p0 (FP.i2d p2) p0 (FP.i2d p3))), .unset]) rfl k) ?_
      show Goes p e below s _ _ _ (T49.setTop (mkF m 81 #[.val (.long p0), .second, .val (.long p1), .second, .val (.int p2), .val (.int p3), .val (.int p4), .val (.long p0), .second, .val (.double (FP.i2d p2)), .second, .val (.double (FP.i2d p3)), .second, .val (.ref b38), .val (.ref b42), .val (.int (gtG p0 (FP.i2d p2) p0 (FP.i2d p3))), .unset] []))
      refine Goes.st (fun t k => XS.aload X49.here hx rfl (hb hby at_81) rfl rfl k) ?_
      show Goes p e below s _ _ _ (T49.setTop (mkF m 83 #[.val (.long p0), .second, .val (.long p1), .second, .val (.int p2), .val (.int p3), .val (.int p4), .val (.long p0), .second, .val (.double (FP.i2d p2)), .second, .val (.double (FP.i2d p3)), .second, .val (.ref b38), .val (.ref b42), .val (.int (gtG p0 (FP.i2d p2) p0 (FP.i2d p3))), .unset] [(.ref b42)]))
      refine Goes.st (fun t k => XS.aload X49.here hx rfl (hb hby at_83) rfl rfl k) ?_
      show Goes p e below s _ _ _ (T49.setTop (mkF m 85 #[.val (.long p0), .second, .val (.long p1), .second, .val (.int p2), .val (.int p3), .val (.int p4), .val (.long p0), .second, .val (.double (FP.i2d p2)), .second, .val (.double (FP.i2d p3)), .second, .val (.ref b38), .val (.ref b42), .val (.int (gtG p0 (FP.i2d p2) p0 (FP.i2d p3))), .unset] [(.ref b38), (.ref b42)]))
      have f52 := (A42.keep K45)
      obtain ⟨cq51, kq51, qa51, qb51, qc51⟩ := isOf hZ eh49 f52
      obtain ⟨_, _, ⟨T51, L51, k51, n51⟩, -, X51, ⟨Lc51, hQ51, l51, y51, z51⟩, st51⟩ := X49.virtualBack hx (y := (⟨"com/example/parley/parley/LocalSearch$Gain", "isLargerThan", "(Lcom/example/parley/parley/LocalSearch$Gain;)Z"⟩ : MethodName)) (z := (⟨"com/example/parley/parley/LocalSearch$Gain", "isLargerThan", "(Lcom/example/parley/parley/LocalSearch$Gain;)Z"⟩ : MethodName)) hown (mvT hZ (hw _ (List.mem_of_getElem? (i := 18) rfl))) (mvT hZ (hw _ (List.mem_of_getElem? (i := 19) rfl))) (notFace_of_selects (args := #[]) (mvT hZ (hw _ (List.mem_of_getElem? (i := 21) rfl)))) (mvT hZ (hw _ (List.mem_of_getElem? (i := 21) rfl))) (mvT hZ (hw _ (List.mem_of_getElem? (i := 20) rfl))) (by decide) (backOf (W := 0) (rmL l Z a0 hw [] b42 b38 p0 p0 (FP.i2d p3) (FP.i2d p2) T45.heap n0 Z45 R45_0 R45_1 f47 f48) hZ (hw _ (List.mem_of_getElem? (i := 22) rfl)) (hw _ (List.mem_of_getElem? (i := 2) rfl)) (by decide) (by decide)) qa51 qc51 (g := (mkF m 85 #[.val (.long p0), .second, .val (.long p1), .second, .val (.int p2), .val (.int p3), .val (.int p4), .val (.long p0), .second, .val (.double (FP.i2d p2)), .second, .val (.double (FP.i2d p3)), .second, .val (.ref b38), .val (.ref b42), .val (.int (gtG p0 (FP.i2d p2) p0 (FP.i2d p3))), .unset] [(.ref b38), (.ref b42)])) rfl (by rw [hml]; rfl) (Steps.refl _) (argsL := [(.ref b38)]) (rest := []) (lenOf pd__Lcom_example_parley_parley_LocalSearch_Gain__Z_fa69 rfl) rfl (by show 2 * 0 + _ ≤ _; exact Nat.le_of_eq rfl) (hb hby at_85) (fun _ _ => ⟨rfl, eh49, (by decide : 2 + 0 ≤ 16), (by decide : 4 + 0 ≤ 128)⟩)
      dsimp only [Pt.U, Pt.locs, Pt.cells, Pt.slots] at X51 l51 y51 z51 st51 hQ51
      subst l51 y51 z51
      obtain ⟨rfl, N51q, eh51⟩ := hQ51
      have N51 := Fr.app N49 N51q
      refine Goes.sts st51 ?_
      show Goes p e below s _ _ _ (T51.setTop (mkF m 88 #[.val (.long p0), .second, .val (.long p1), .second, .val (.int p2), .val (.int p3), .val (.int p4), .val (.long p0), .second, .val (.double (FP.i2d p2)), .second, .val (.double (FP.i2d p3)), .second, .val (.ref b38), .val (.ref b42), .val (.int (gtG p0 (FP.i2d p2) p0 (FP.i2d p3))), .unset] [(.int (gtG p0 (FP.i2d p3) p0 (FP.i2d p2)))]))
      refine Goes.st (fun t k => XS.istore X51.here hx rfl (hb hby at_88) rfl (l' := #[.val (.long p0), .second, .val (.long p1), .second, .val (.int p2), .val (.int p3), .val (.int p4), .val (.long p0), .second, .val (.double (FP.i2d p2)), .second, .val (.double (FP.i2d p3)), .second, .val (.ref b38), .val (.ref b42), .val (.int (gtG p0 (FP.i2d p2) p0 (FP.i2d p3))), .val (.int (gtG p0 (FP.i2d p3) p0 (FP.i2d p2)))]) rfl k) ?_
      show Goes p e below s _ _ _ (T51.setTop (mkF m 90 #[.val (.long p0), .second, .val (.long p1), .second, .val (.int p2), .val (.int p3), .val (.int p4), .val (.long p0), .second, .val (.double (FP.i2d p2)), .second, .val (.double (FP.i2d p3)), .second, .val (.ref b38), .val (.ref b42), .val (.int (gtG p0 (FP.i2d p2) p0 (FP.i2d p3))), .val (.int (gtG p0 (FP.i2d p3) p0 (FP.i2d p2)))] []))
      refine Goes.st (fun t k => XS.iload X51.here hx rfl (hb hby at_90) rfl k) ?_
      show Goes p e below s _ _ _ (T51.setTop (mkF m 92 #[.val (.long p0), .second, .val (.long p1), .second, .val (.int p2), .val (.int p3), .val (.int p4), .val (.long p0), .second, .val (.double (FP.i2d p2)), .second, .val (.double (FP.i2d p3)), .second, .val (.ref b38), .val (.ref b42), .val (.int (gtG p0 (FP.i2d p2) p0 (FP.i2d p3))), .val (.int (gtG p0 (FP.i2d p3) p0 (FP.i2d p2)))] [(.int (gtG p0 (FP.i2d p2) p0 (FP.i2d p3)))]))
      refine Goes.st (fun t k => XT.lloadN X51.here hx rfl (hb hby at_92) rfl k) ?_
      show Goes p e below s _ _ _ (T51.setTop (mkF m 93 #[.val (.long p0), .second, .val (.long p1), .second, .val (.int p2), .val (.int p3), .val (.int p4), .val (.long p0), .second, .val (.double (FP.i2d p2)), .second, .val (.double (FP.i2d p3)), .second, .val (.ref b38), .val (.ref b42), .val (.int (gtG p0 (FP.i2d p2) p0 (FP.i2d p3))), .val (.int (gtG p0 (FP.i2d p3) p0 (FP.i2d p2)))] [(.long p0), (.int (gtG p0 (FP.i2d p2) p0 (FP.i2d p3)))]))
      refine Goes.st (fun t k => XS.dload X51.here hx rfl (hb hby at_93) rfl k) ?_
      show Goes p e below s _ _ _ (T51.setTop (mkF m 95 #[.val (.long p0), .second, .val (.long p1), .second, .val (.int p2), .val (.int p3), .val (.int p4), .val (.long p0), .second, .val (.double (FP.i2d p2)), .second, .val (.double (FP.i2d p3)), .second, .val (.ref b38), .val (.ref b42), .val (.int (gtG p0 (FP.i2d p2) p0 (FP.i2d p3))), .val (.int (gtG p0 (FP.i2d p3) p0 (FP.i2d p2)))] [(.double (FP.i2d p2)), (.long p0), (.int (gtG p0 (FP.i2d p2) p0 (FP.i2d p3)))]))
      refine Goes.st (fun t k => XT.lload X51.here hx rfl (hb hby at_95) rfl k) ?_
      show Goes p e below s _ _ _ (T51.setTop (mkF m 97 #[.val (.long p0), .second, .val (.long p1), .second, .val (.int p2), .val (.int p3), .val (.int p4), .val (.long p0), .second, .val (.double (FP.i2d p2)), .second, .val (.double (FP.i2d p3)), .second, .val (.ref b38), .val (.ref b42), .val (.int (gtG p0 (FP.i2d p2) p0 (FP.i2d p3))), .val (.int (gtG p0 (FP.i2d p3) p0 (FP.i2d p2)))] [(.long p0), (.double (FP.i2d p2)), (.long p0), (.int (gtG p0 (FP.i2d p2) p0 (FP.i2d p3)))]))
      refine Goes.st (fun t k => XS.dload X51.here hx rfl (hb hby at_97) rfl k) ?_
      show Goes p e below s _ _ _ (T51.setTop (mkF m 99 #[.val (.long p0), .second, .val (.long p1), .second, .val (.int p2), .val (.int p3), .val (.int p4), .val (.long p0), .second, .val (.double (FP.i2d p2)), .second, .val (.double (FP.i2d p3)), .second, .val (.ref b38), .val (.ref b42), .val (.int (gtG p0 (FP.i2d p2) p0 (FP.i2d p3))), .val (.int (gtG p0 (FP.i2d p3) p0 (FP.i2d p2)))] [(.double (FP.i2d p3)), (.long p0), (.double (FP.i2d p2)), (.long p0), (.int (gtG p0 (FP.i2d p2) p0 (FP.i2d p3)))]))
      obtain ⟨_, _, ⟨T53, L53, k53, n53⟩, -, X53, ⟨Lc53, hQ53, l53, y53, z53⟩, st53⟩ := Jvm.LawKit.callS X51 hx (y := (⟨"com/example/parley/parley/GainIsLargerThanPinLaw", "expected", "(JDJD)Z"⟩ : MethodName)) hown (mvT hZ (hw _ (List.mem_of_getElem? (i := 23) rfl))) (mvT hZ (hw _ (List.mem_of_getElem? (i := 24) rfl))) (mvT hZ (hw _ (List.mem_of_getElem? (i := 25) rfl))) (mvT hZ (hw _ (List.mem_of_getElem? (i := 26) rfl))) (by decide) (backOf (W := 1) (rmE l Z a0 hw [] p0 (FP.i2d p2) p0 (FP.i2d p3) T45.heap n0 Z45 ) hZ (hw _ (List.mem_of_getElem? (i := 26) rfl)) (hw _ (List.mem_of_getElem? (i := 25) rfl)) (by decide) (by decide)) (g := (mkF m 99 #[.val (.long p0), .second, .val (.long p1), .second, .val (.int p2), .val (.int p3), .val (.int p4), .val (.long p0), .second, .val (.double (FP.i2d p2)), .second, .val (.double (FP.i2d p3)), .second, .val (.ref b38), .val (.ref b42), .val (.int (gtG p0 (FP.i2d p2) p0 (FP.i2d p3))), .val (.int (gtG p0 (FP.i2d p3) p0 (FP.i2d p2)))] [(.double (FP.i2d p3)), (.long p0), (.double (FP.i2d p2)), (.long p0), (.int (gtG p0 (FP.i2d p2) p0 (FP.i2d p3)))])) rfl (by rw [hml]; rfl) (argsL := [(.long p0), (.double (FP.i2d p2)), (.long p0), (.double (FP.i2d p3))]) (rest := [(.int (gtG p0 (FP.i2d p2) p0 (FP.i2d p3)))]) (lenOf pd__JDJD_Z_121a rfl) rfl (by show 2 * 0 + _ ≤ _; exact Nat.le_of_eq rfl) (hb hby at_99) (fun _ _ => ⟨rfl, eh51, (by decide : 2 + 0 ≤ 16), (by decide : 4 + 0 ≤ 128)⟩)
      dsimp only [Pt.U, Pt.locs, Pt.cells, Pt.slots] at X53 l53 y53 z53 st53 hQ53
      subst l53 y53 z53
      obtain ⟨rfl, N53q, eh53⟩ := hQ53
      have N53 := Fr.app N51 N53q
      refine Goes.st st53 ?_
      show Goes p e below s _ _ _ (T53.setTop (mkF m 102 #[.val (.long p0), .second, .val (.long p1), .second, .val (.int p2), .val (.int p3), .val (.int p4), .val (.long p0), .second, .val (.double (FP.i2d p2)), .second, .val (.double (FP.i2d p3)), .second, .val (.ref b38), .val (.ref b42), .val (.int (gtG p0 (FP.i2d p2) p0 (FP.i2d p3))), .val (.int (gtG p0 (FP.i2d p3) p0 (FP.i2d p2)))] [(.int (gtG p0 (FP.i2d p2) p0 (FP.i2d p3))), (.int (gtG p0 (FP.i2d p2) p0 (FP.i2d p3)))]))
      refine Goes.st (fun t k => XS.icmpNo X53.here hx rfl (hb hby at_102) rfl (teq (rfl : (gtG p0 (FP.i2d p2) p0 (FP.i2d p3)) = (gtG p0 (FP.i2d p2) p0 (FP.i2d p3)))).2 k) ?_
      show Goes p e below s _ _ _ (T53.setTop (mkF m 105 #[.val (.long p0), .second, .val (.long p1), .second, .val (.int p2), .val (.int p3), .val (.int p4), .val (.long p0), .second, .val (.double (FP.i2d p2)), .second, .val (.double (FP.i2d p3)), .second, .val (.ref b38), .val (.ref b42), .val (.int (gtG p0 (FP.i2d p2) p0 (FP.i2d p3))), .val (.int (gtG p0 (FP.i2d p3) p0 (FP.i2d p2)))] []))
      refine Goes.st (fun t k => XS.iload X53.here hx rfl (hb hby at_105) rfl k) ?_
      show Goes p e below s _ _ _ (T53.setTop (mkF m 107 #[.val (.long p0), .second, .val (.long p1), .second, .val (.int p2), .val (.int p3), .val (.int p4), .val (.long p0), .second, .val (.double (FP.i2d p2)), .second, .val (.double (FP.i2d p3)), .second, .val (.ref b38), .val (.ref b42), .val (.int (gtG p0 (FP.i2d p2) p0 (FP.i2d p3))), .val (.int (gtG p0 (FP.i2d p3) p0 (FP.i2d p2)))] [(.int (gtG p0 (FP.i2d p3) p0 (FP.i2d p2)))]))
      refine Goes.st (fun t k => XT.lload X53.here hx rfl (hb hby at_107) rfl k) ?_
      show Goes p e below s _ _ _ (T53.setTop (mkF m 109 #[.val (.long p0), .second, .val (.long p1), .second, .val (.int p2), .val (.int p3), .val (.int p4), .val (.long p0), .second, .val (.double (FP.i2d p2)), .second, .val (.double (FP.i2d p3)), .second, .val (.ref b38), .val (.ref b42), .val (.int (gtG p0 (FP.i2d p2) p0 (FP.i2d p3))), .val (.int (gtG p0 (FP.i2d p3) p0 (FP.i2d p2)))] [(.long p0), (.int (gtG p0 (FP.i2d p3) p0 (FP.i2d p2)))]))
      refine Goes.st (fun t k => XS.dload X53.here hx rfl (hb hby at_109) rfl k) ?_
      show Goes p e below s _ _ _ (T53.setTop (mkF m 111 #[.val (.long p0), .second, .val (.long p1), .second, .val (.int p2), .val (.int p3), .val (.int p4), .val (.long p0), .second, .val (.double (FP.i2d p2)), .second, .val (.double (FP.i2d p3)), .second, .val (.ref b38), .val (.ref b42), .val (.int (gtG p0 (FP.i2d p2) p0 (FP.i2d p3))), .val (.int (gtG p0 (FP.i2d p3) p0 (FP.i2d p2)))] [(.double (FP.i2d p3)), (.long p0), (.int (gtG p0 (FP.i2d p3) p0 (FP.i2d p2)))]))
      refine Goes.st (fun t k => XT.lloadN X53.here hx rfl (hb hby at_111) rfl k) ?_
      show Goes p e below s _ _ _ (T53.setTop (mkF m 112 #[.val (.long p0), .second, .val (.long p1), .second, .val (.int p2), .val (.int p3), .val (.int p4), .val (.long p0), .second, .val (.double (FP.i2d p2)), .second, .val (.double (FP.i2d p3)), .second, .val (.ref b38), .val (.ref b42), .val (.int (gtG p0 (FP.i2d p2) p0 (FP.i2d p3))), .val (.int (gtG p0 (FP.i2d p3) p0 (FP.i2d p2)))] [(.long p0), (.double (FP.i2d p3)), (.long p0), (.int (gtG p0 (FP.i2d p3) p0 (FP.i2d p2)))]))
      refine Goes.st (fun t k => XS.dload X53.here hx rfl (hb hby at_112) rfl k) ?_
      show Goes p e below s _ _ _ (T53.setTop (mkF m 114 #[.val (.long p0), .second, .val (.long p1), .second, .val (.int p2), .val (.int p3), .val (.int p4), .val (.long p0), .second, .val (.double (FP.i2d p2)), .second, .val (.double (FP.i2d p3)), .second, .val (.ref b38), .val (.ref b42), .val (.int (gtG p0 (FP.i2d p2) p0 (FP.i2d p3))), .val (.int (gtG p0 (FP.i2d p3) p0 (FP.i2d p2)))] [(.double (FP.i2d p2)), (.long p0), (.double (FP.i2d p3)), (.long p0), (.int (gtG p0 (FP.i2d p3) p0 (FP.i2d p2)))]))
      obtain ⟨_, _, ⟨T54, L54, k54, n54⟩, -, X54, ⟨Lc54, hQ54, l54, y54, z54⟩, st54⟩ := Jvm.LawKit.callS X53 hx (y := (⟨"com/example/parley/parley/GainIsLargerThanPinLaw", "expected", "(JDJD)Z"⟩ : MethodName)) hown (mvT hZ (hw _ (List.mem_of_getElem? (i := 23) rfl))) (mvT hZ (hw _ (List.mem_of_getElem? (i := 24) rfl))) (mvT hZ (hw _ (List.mem_of_getElem? (i := 25) rfl))) (mvT hZ (hw _ (List.mem_of_getElem? (i := 26) rfl))) (by decide) (backOf (W := 1) (rmE l Z a0 hw [] p0 (FP.i2d p3) p0 (FP.i2d p2) T45.heap n0 Z45 ) hZ (hw _ (List.mem_of_getElem? (i := 26) rfl)) (hw _ (List.mem_of_getElem? (i := 25) rfl)) (by decide) (by decide)) (g := (mkF m 114 #[.val (.long p0), .second, .val (.long p1), .second, .val (.int p2), .val (.int p3), .val (.int p4), .val (.long p0), .second, .val (.double (FP.i2d p2)), .second, .val (.double (FP.i2d p3)), .second, .val (.ref b38), .val (.ref b42), .val (.int (gtG p0 (FP.i2d p2) p0 (FP.i2d p3))), .val (.int (gtG p0 (FP.i2d p3) p0 (FP.i2d p2)))] [(.double (FP.i2d p2)), (.long p0), (.double (FP.i2d p3)), (.long p0), (.int (gtG p0 (FP.i2d p3) p0 (FP.i2d p2)))])) rfl (by rw [hml]; rfl) (argsL := [(.long p0), (.double (FP.i2d p3)), (.long p0), (.double (FP.i2d p2))]) (rest := [(.int (gtG p0 (FP.i2d p3) p0 (FP.i2d p2)))]) (lenOf pd__JDJD_Z_121a rfl) rfl (by show 2 * 0 + _ ≤ _; exact Nat.le_of_eq rfl) (hb hby at_114) (fun _ _ => ⟨rfl, eh53, (by decide : 2 + 0 ≤ 16), (by decide : 4 + 0 ≤ 128)⟩)
      dsimp only [Pt.U, Pt.locs, Pt.cells, Pt.slots] at X54 l54 y54 z54 st54 hQ54
      subst l54 y54 z54
      obtain ⟨rfl, N54q, eh54⟩ := hQ54
      have N54 := Fr.app N53 N54q
      refine Goes.st st54 ?_
      show Goes p e below s _ _ _ (T54.setTop (mkF m 117 #[.val (.long p0), .second, .val (.long p1), .second, .val (.int p2), .val (.int p3), .val (.int p4), .val (.long p0), .second, .val (.double (FP.i2d p2)), .second, .val (.double (FP.i2d p3)), .second, .val (.ref b38), .val (.ref b42), .val (.int (gtG p0 (FP.i2d p2) p0 (FP.i2d p3))), .val (.int (gtG p0 (FP.i2d p3) p0 (FP.i2d p2)))] [(.int (gtG p0 (FP.i2d p3) p0 (FP.i2d p2))), (.int (gtG p0 (FP.i2d p3) p0 (FP.i2d p2)))]))
      refine Goes.st (fun t k => XS.icmpNo X54.here hx rfl (hb hby at_117) rfl (teq (rfl : (gtG p0 (FP.i2d p3) p0 (FP.i2d p2)) = (gtG p0 (FP.i2d p3) p0 (FP.i2d p2)))).2 k) ?_
      show Goes p e below s _ _ _ (T54.setTop (mkF m 120 #[.val (.long p0), .second, .val (.long p1), .second, .val (.int p2), .val (.int p3), .val (.int p4), .val (.long p0), .second, .val (.double (FP.i2d p2)), .second, .val (.double (FP.i2d p3)), .second, .val (.ref b38), .val (.ref b42), .val (.int (gtG p0 (FP.i2d p2) p0 (FP.i2d p3))), .val (.int (gtG p0 (FP.i2d p3) p0 (FP.i2d p2)))] []))
      refine Goes.st (fun t k => XS.iconst X54.here hx rfl (hb hby at_120) k) ?_
      show Goes p e below s _ _ _ (T54.setTop (mkF m 121 #[.val (.long p0), .second, .val (.long p1), .second, .val (.int p2), .val (.int p3), .val (.int p4), .val (.long p0), .second, .val (.double (FP.i2d p2)), .second, .val (.double (FP.i2d p3)), .second, .val (.ref b38), .val (.ref b42), .val (.int (gtG p0 (FP.i2d p2) p0 (FP.i2d p3))), .val (.int (gtG p0 (FP.i2d p3) p0 (FP.i2d p2)))] [(.int (1 : Int32))]))
      refine Goes.st (fun t k => XS.goto X54.here hx rfl (pc0 := 121) (pc' := 125) rfl (hb hby at_121) (by decide) (by decide) k) ?_
      show Goes p e below s _ _ _ (T54.setTop (mkF m 125 #[.val (.long p0), .second, .val (.long p1), .second, .val (.int p2), .val (.int p3), .val (.int p4), .val (.long p0), .second, .val (.double (FP.i2d p2)), .second, .val (.double (FP.i2d p3)), .second, .val (.ref b38), .val (.ref b42), .val (.int (gtG p0 (FP.i2d p2) p0 (FP.i2d p3))), .val (.int (gtG p0 (FP.i2d p3) p0 (FP.i2d p2)))] [(.int (1 : Int32))]))
      refine Goes.retN X54 hx hlk hret (by simp) (hb hby at_125) (by decide) ?_ (by decide) (by decide)
      rw [eh54]
      exact ⟨rfl, N54⟩
    · refine Goes.st (fun t k => XS.ifNo X0.here hx rfl (hb hby at_23) rfl ((if0 _ _).trans (feq c37).1) k) ?_
      show Goes p e below s _ _ _ (s₁.setTop (mkF m 26 #[.val (.long p0), .second, .val (.long p1), .second, .val (.int p2), .val (.int p3), .val (.int p4), .val (.long p0), .second, .val (.double (FP.i2d p2)), .second, .unset, .unset, .unset, .unset, .unset, .unset] []))
      refine Goes.st (fun t k => XS.iload X0.here hx rfl (hb hby at_26) rfl k) ?_
      show Goes p e below s _ _ _ (s₁.setTop (mkF m 28 #[.val (.long p0), .second, .val (.long p1), .second, .val (.int p2), .val (.int p3), .val (.int p4), .val (.long p0), .second, .val (.double (FP.i2d p2)), .second, .unset, .unset, .unset, .unset, .unset, .unset] [(.int p2)]))
      refine Goes.st (fun t k => XS.i2dS X0.here hx rfl (hb hby at_28) rfl (v := (FP.i2d p2)) rfl k) ?_
      show Goes p e below s _ _ _ (s₁.setTop (mkF m 29 #[.val (.long p0), .second, .val (.long p1), .second, .val (.int p2), .val (.int p3), .val (.int p4), .val (.long p0), .second, .val (.double (FP.i2d p2)), .second, .unset, .unset, .unset, .unset, .unset, .unset] [(.double (FP.i2d p2))]))
      refine Goes.st (fun t k => XS.iload X0.here hx rfl (hb hby at_29) rfl k) ?_
      show Goes p e below s _ _ _ (s₁.setTop (mkF m 31 #[.val (.long p0), .second, .val (.long p1), .second, .val (.int p2), .val (.int p3), .val (.int p4), .val (.long p0), .second, .val (.double (FP.i2d p2)), .second, .unset, .unset, .unset, .unset, .unset, .unset] [(.int p4), (.double (FP.i2d p2))]))
      refine Goes.st (fun t k => XS.iconst X0.here hx rfl (hb hby at_31) k) ?_
      show Goes p e below s _ _ _ (s₁.setTop (mkF m 32 #[.val (.long p0), .second, .val (.long p1), .second, .val (.int p2), .val (.int p3), .val (.int p4), .val (.long p0), .second, .val (.double (FP.i2d p2)), .second, .unset, .unset, .unset, .unset, .unset, .unset] [(.int (2 : Int32)), (.int p4), (.double (FP.i2d p2))]))
      refine Goes.st (fun t k => XT.ishr X0.here hx rfl (hb hby at_32) rfl k) ?_
      show Goes p e below s _ _ _ (s₁.setTop (mkF m 33 #[.val (.long p0), .second, .val (.long p1), .second, .val (.int p2), .val (.int p3), .val (.int p4), .val (.long p0), .second, .val (.double (FP.i2d p2)), .second, .unset, .unset, .unset, .unset, .unset, .unset] [(.int (p4 >>> ((2 : Int32) &&& 31))), (.double (FP.i2d p2))]))
      refine Goes.st (fun t k => XS.iconst X0.here hx rfl (hb hby at_33) k) ?_
      show Goes p e below s _ _ _ (s₁.setTop (mkF m 34 #[.val (.long p0), .second, .val (.long p1), .second, .val (.int p2), .val (.int p3), .val (.int p4), .val (.long p0), .second, .val (.double (FP.i2d p2)), .second, .unset, .unset, .unset, .unset, .unset, .unset] [(.int (3 : Int32)), (.int (p4 >>> ((2 : Int32) &&& 31))), (.double (FP.i2d p2))]))
      refine Goes.st (fun t k => XS.iand X0.here hx rfl (hb hby at_34) rfl k) ?_
      show Goes p e below s _ _ _ (s₁.setTop (mkF m 35 #[.val (.long p0), .second, .val (.long p1), .second, .val (.int p2), .val (.int p3), .val (.int p4), .val (.long p0), .second, .val (.double (FP.i2d p2)), .second, .unset, .unset, .unset, .unset, .unset, .unset] [(.int ((p4 >>> ((2 : Int32) &&& 31)) &&& (3 : Int32))), (.double (FP.i2d p2))]))
      refine Goes.st (fun t k => XS.iconst X0.here hx rfl (hb hby at_35) k) ?_
      show Goes p e below s _ _ _ (s₁.setTop (mkF m 36 #[.val (.long p0), .second, .val (.long p1), .second, .val (.int p2), .val (.int p3), .val (.int p4), .val (.long p0), .second, .val (.double (FP.i2d p2)), .second, .unset, .unset, .unset, .unset, .unset, .unset] [(.int (1 : Int32)), (.int ((p4 >>> ((2 : Int32) &&& 31)) &&& (3 : Int32))), (.double (FP.i2d p2))]))
      refine Goes.st (fun t k => XS.isub X0.here hx rfl (hb hby at_36) rfl k) ?_
      show Goes p e below s _ _ _ (s₁.setTop (mkF m 37 #[.val (.long p0), .second, .val (.long p1), .second, .val (.int p2), .val (.int p3), .val (.int p4), .val (.long p0), .second, .val (.double (FP.i2d p2)), .second, .unset, .unset, .unset, .unset, .unset, .unset] [(.int (((p4 >>> ((2 : Int32) &&& 31)) &&& (3 : Int32)) - (1 : Int32))), (.double (FP.i2d p2))]))
      refine Goes.st (fun t k => XS.i2dS X0.here hx rfl (hb hby at_37) rfl (v := (FP.i2d (((p4 >>> ((2 : Int32) &&& 31)) &&& (3 : Int32)) - (1 : Int32)))) rfl k) ?_
      show Goes p e below s _ _ _ (s₁.setTop (mkF m 38 #[.val (.long p0), .second, .val (.long p1), .second, .val (.int p2), .val (.int p3), .val (.int p4), .val (.long p0), .second, .val (.double (FP.i2d p2)), .second, .unset, .unset, .unset, .unset, .unset, .unset] [(.double (FP.i2d (((p4 >>> ((2 : Int32) &&& 31)) &&& (3 : Int32)) - (1 : Int32)))), (.double (FP.i2d p2))]))
      refine Goes.st (fun t k => XS.daddS X0.here hx rfl (hb hby at_38) rfl (dadd_out (i2d_fin _).noNaN (i2d_fin _)) (v := (FP.dadd (FP.i2d p2) (FP.i2d (((p4 >>> ((2 : Int32) &&& 31)) &&& (3 : Int32)) - (1 : Int32))))) rfl k) ?_
      show Goes p e below s _ _ _ (s₁.setTop (mkF m 39 #[.val (.long p0), .second, .val (.long p1), .second, .val (.int p2), .val (.int p3), .val (.int p4), .val (.long p0), .second, .val (.double (FP.i2d p2)), .second, .unset, .unset, .unset, .unset, .unset, .unset] [(.double (FP.dadd (FP.i2d p2) (FP.i2d (((p4 >>> ((2 : Int32) &&& 31)) &&& (3 : Int32)) - (1 : Int32)))))]))
      refine Goes.st (fun t k => XS.goto X0.here hx rfl (pc0 := 39) (pc' := 45) rfl (hb hby at_39) (by decide) (by decide) k) ?_
      show Goes p e below s _ _ _ (s₁.setTop (mkF m 45 #[.val (.long p0), .second, .val (.long p1), .second, .val (.int p2), .val (.int p3), .val (.int p4), .val (.long p0), .second, .val (.double (FP.i2d p2)), .second, .unset, .unset, .unset, .unset, .unset, .unset] [(.double (FP.dadd (FP.i2d p2) (FP.i2d (((p4 >>> ((2 : Int32) &&& 31)) &&& (3 : Int32)) - (1 : Int32)))))]))
      refine Goes.st (fun t k => XS.dstore X0.here hx rfl (hb hby at_45) rfl (l' := #[.val (.long p0), .second, .val (.long p1), .second, .val (.int p2), .val (.int p3), .val (.int p4), .val (.long p0), .second, .val (.double (FP.i2d p2)), .second, .val (.double (FP.dadd (FP.i2d p2) (FP.i2d (((p4 >>> ((2 : Int32) &&& 31)) &&& (3 : Int32)) - (1 : Int32))))), .second, .unset, .unset, .unset, .unset]) rfl k) ?_
      show Goes p e below s _ _ _ (s₁.setTop (mkF m 47 #[.val (.long p0), .second, .val (.long p1), .second, .val (.int p2), .val (.int p3), .val (.int p4), .val (.long p0), .second, .val (.double (FP.i2d p2)), .second, .val (.double (FP.dadd (FP.i2d p2) (FP.i2d (((p4 >>> ((2 : Int32) &&& 31)) &&& (3 : Int32)) - (1 : Int32))))), .second, .unset, .unset, .unset, .unset] []))
      obtain ⟨T55, h55, X55, e55, E55, A55, D55, -, st55⟩ := newO X0 hx hZ hown (hw _ (List.mem_of_getElem? (i := 0) rfl)) (hw _ (List.mem_of_getElem? (i := 1) rfl)) (hw _ (List.mem_of_getElem? (i := 2) rfl)) e0 (g := (mkF m 47 #[.val (.long p0), .second, .val (.long p1), .second, .val (.int p2), .val (.int p3), .val (.int p4), .val (.long p0), .second, .val (.double (FP.i2d p2)), .second, .val (.double (FP.dadd (FP.i2d p2) (FP.i2d (((p4 >>> ((2 : Int32) &&& 31)) &&& (3 : Int32)) - (1 : Int32))))), .second, .unset, .unset, .unset, .unset] [])) rfl (hb hby at_47) (by decide) (by decide)
      obtain ⟨b55, g55⟩ : ∃ z, z = h0.size := ⟨_, rfl⟩
      rw [← g55] at A55 D55 st55
      have lo_b55 : n0 ≤ b55 := by have := Z0; omega
      refine Goes.st st55 ?_
      have Z55 : n0 ≤ h55.size := Nat.le_trans Z0 E55.1
      have F55_violations : Fld Z h55 b55 "com/example/parley/parley/LocalSearch$Gain" "violations" "J" (.long (0 : Int64)) := D55 (Or.inr (hw _ (List.mem_of_getElem? (i := 15) rfl))) (ty := .long) (by decide)
      have F55_total : Fld Z h55 b55 "com/example/parley/parley/LocalSearch$Gain" "total" "D" (.double (0 : UInt64)) := D55 (Or.inr (hw _ (List.mem_of_getElem? (i := 17) rfl))) (ty := .double) (by decide)
      show Goes p e below s _ _ _ (T55.setTop (mkF m 50 #[.val (.long p0), .second, .val (.long p1), .second, .val (.int p2), .val (.int p3), .val (.int p4), .val (.long p0), .second, .val (.double (FP.i2d p2)), .second, .val (.double (FP.dadd (FP.i2d p2) (FP.i2d (((p4 >>> ((2 : Int32) &&& 31)) &&& (3 : Int32)) - (1 : Int32))))), .second, .unset, .unset, .unset, .unset] [(.ref b55)]))
      refine Goes.st (fun t k => XS.dup X55.here hx rfl (hb hby at_50) rfl rfl k) ?_
      show Goes p e below s _ _ _ (T55.setTop (mkF m 51 #[.val (.long p0), .second, .val (.long p1), .second, .val (.int p2), .val (.int p3), .val (.int p4), .val (.long p0), .second, .val (.double (FP.i2d p2)), .second, .val (.double (FP.dadd (FP.i2d p2) (FP.i2d (((p4 >>> ((2 : Int32) &&& 31)) &&& (3 : Int32)) - (1 : Int32))))), .second, .unset, .unset, .unset, .unset] [(.ref b55), (.ref b55)]))
      refine Goes.st (fun t k => XT.lloadN X55.here hx rfl (hb hby at_51) rfl k) ?_
      show Goes p e below s _ _ _ (T55.setTop (mkF m 52 #[.val (.long p0), .second, .val (.long p1), .second, .val (.int p2), .val (.int p3), .val (.int p4), .val (.long p0), .second, .val (.double (FP.i2d p2)), .second, .val (.double (FP.dadd (FP.i2d p2) (FP.i2d (((p4 >>> ((2 : Int32) &&& 31)) &&& (3 : Int32)) - (1 : Int32))))), .second, .unset, .unset, .unset, .unset] [(.long p0), (.ref b55), (.ref b55)]))
      refine Goes.st (fun t k => XS.dload X55.here hx rfl (hb hby at_52) rfl k) ?_
      show Goes p e below s _ _ _ (T55.setTop (mkF m 54 #[.val (.long p0), .second, .val (.long p1), .second, .val (.int p2), .val (.int p3), .val (.int p4), .val (.long p0), .second, .val (.double (FP.i2d p2)), .second, .val (.double (FP.dadd (FP.i2d p2) (FP.i2d (((p4 >>> ((2 : Int32) &&& 31)) &&& (3 : Int32)) - (1 : Int32))))), .second, .unset, .unset, .unset, .unset] [(.double (FP.i2d p2)), (.long p0), (.ref b55), (.ref b55)]))
      obtain ⟨_, _, ⟨T57, L57, k57, n57⟩, -, X57, ⟨Lc57, hQ57, l57, y57, z57⟩, st57⟩ := X55.specialBack hx (y := (⟨"com/example/parley/parley/LocalSearch$Gain", "<init>", "(JD)V"⟩ : MethodName)) rfl hown (mvT hZ (hw _ (List.mem_of_getElem? (i := 3) rfl))) (mvT hZ (hw _ (List.mem_of_getElem? (i := 4) rfl))) (mvT hZ (hw _ (List.mem_of_getElem? (i := 5) rfl))) (by decide) (backOf (W := 1) (rmC l Z a0 hw [] b55 p0 (FP.i2d p2) (.long (0 : Int64)) (.double (0 : UInt64)) h55 n0 Z55 A55 lo_b55 F55_violations F55_total) hZ (hw _ (List.mem_of_getElem? (i := 5) rfl)) (hw _ (List.mem_of_getElem? (i := 2) rfl)) (by decide) (by decide)) (g := (mkF m 54 #[.val (.long p0), .second, .val (.long p1), .second, .val (.int p2), .val (.int p3), .val (.int p4), .val (.long p0), .second, .val (.double (FP.i2d p2)), .second, .val (.double (FP.dadd (FP.i2d p2) (FP.i2d (((p4 >>> ((2 : Int32) &&& 31)) &&& (3 : Int32)) - (1 : Int32))))), .second, .unset, .unset, .unset, .unset] [(.double (FP.i2d p2)), (.long p0), (.ref b55), (.ref b55)])) rfl (by rw [hml]; rfl) (Steps.refl _) (a := b55) (argsL := [(.long p0), (.double (FP.i2d p2))]) (rest := [(.ref b55)]) (lenOf pd__JD_V_b18 rfl) rfl (by show 2 * 0 + _ ≤ _; exact Nat.le_of_eq rfl) (hb hby at_54) (fun _ _ => ⟨rfl, e55, (by decide : 1 + 0 ≤ 16), (by decide : 2 + 0 ≤ 128)⟩)
      dsimp only [Pt.U, Pt.locs, Pt.cells, Pt.slots] at X57 l57 y57 z57 st57 hQ57
      subst l57 y57 z57
      obtain ⟨rfl, N57q, K57, R57_0, R57_1⟩ := hQ57
      have Z57 : n0 ≤ T57.heap.size := Nat.le_trans Z55 K57.1
      have N57 := Fr.app N0 N57q
      refine Goes.sts st57 ?_
      show Goes p e below s _ _ _ (T57.setTop (mkF m 57 #[.val (.long p0), .second, .val (.long p1), .second, .val (.int p2), .val (.int p3), .val (.int p4), .val (.long p0), .second, .val (.double (FP.i2d p2)), .second, .val (.double (FP.dadd (FP.i2d p2) (FP.i2d (((p4 >>> ((2 : Int32) &&& 31)) &&& (3 : Int32)) - (1 : Int32))))), .second, .unset, .unset, .unset, .unset] [(.ref b55)]))
      refine Goes.st (fun t k => XS.astore X57.here hx rfl (hb hby at_57) rfl rfl (l' := #[.val (.long p0), .second, .val (.long p1), .second, .val (.int p2), .val (.int p3), .val (.int p4), .val (.long p0), .second, .val (.double (FP.i2d p2)), .second, .val (.double (FP.dadd (FP.i2d p2) (FP.i2d (((p4 >>> ((2 : Int32) &&& 31)) &&& (3 : Int32)) - (1 : Int32))))), .second, .val (.ref b55), .unset, .unset, .unset]) rfl k) ?_
      show Goes p e below s _ _ _ (T57.setTop (mkF m 59 #[.val (.long p0), .second, .val (.long p1), .second, .val (.int p2), .val (.int p3), .val (.int p4), .val (.long p0), .second, .val (.double (FP.i2d p2)), .second, .val (.double (FP.dadd (FP.i2d p2) (FP.i2d (((p4 >>> ((2 : Int32) &&& 31)) &&& (3 : Int32)) - (1 : Int32))))), .second, .val (.ref b55), .unset, .unset, .unset] []))
      obtain ⟨T59, h59, X59, e59, E59, A59, D59, -, st59⟩ := newO X57 hx hZ hown (hw _ (List.mem_of_getElem? (i := 0) rfl)) (hw _ (List.mem_of_getElem? (i := 1) rfl)) (hw _ (List.mem_of_getElem? (i := 2) rfl)) rfl (g := (mkF m 59 #[.val (.long p0), .second, .val (.long p1), .second, .val (.int p2), .val (.int p3), .val (.int p4), .val (.long p0), .second, .val (.double (FP.i2d p2)), .second, .val (.double (FP.dadd (FP.i2d p2) (FP.i2d (((p4 >>> ((2 : Int32) &&& 31)) &&& (3 : Int32)) - (1 : Int32))))), .second, .val (.ref b55), .unset, .unset, .unset] [])) rfl (hb hby at_59) (by decide) (by decide)
      obtain ⟨b59, g59⟩ : ∃ z, z = T57.heap.size := ⟨_, rfl⟩
      rw [← g59] at A59 D59 st59
      have f60 := (A55.keep K57)
      have ne_b55_b59 : b55 ≠ b59 := Nat.ne_of_lt (Nat.lt_of_lt_of_le f60.lt (Nat.le_of_eq g59.symm))
      have lo_b59 : n0 ≤ b59 := by have := Z57; omega
      refine Goes.st st59 ?_
      have Z59 : n0 ≤ h59.size := Nat.le_trans Z57 E59.1
      have F59_violations : Fld Z h59 b59 "com/example/parley/parley/LocalSearch$Gain" "violations" "J" (.long (0 : Int64)) := D59 (Or.inr (hw _ (List.mem_of_getElem? (i := 15) rfl))) (ty := .long) (by decide)
      have F59_total : Fld Z h59 b59 "com/example/parley/parley/LocalSearch$Gain" "total" "D" (.double (0 : UInt64)) := D59 (Or.inr (hw _ (List.mem_of_getElem? (i := 17) rfl))) (ty := .double) (by decide)
      show Goes p e below s _ _ _ (T59.setTop (mkF m 62 #[.val (.long p0), .second, .val (.long p1), .second, .val (.int p2), .val (.int p3), .val (.int p4), .val (.long p0), .second, .val (.double (FP.i2d p2)), .second, .val (.double (FP.dadd (FP.i2d p2) (FP.i2d (((p4 >>> ((2 : Int32) &&& 31)) &&& (3 : Int32)) - (1 : Int32))))), .second, .val (.ref b55), .unset, .unset, .unset] [(.ref b59)]))
      refine Goes.st (fun t k => XS.dup X59.here hx rfl (hb hby at_62) rfl rfl k) ?_
      show Goes p e below s _ _ _ (T59.setTop (mkF m 63 #[.val (.long p0), .second, .val (.long p1), .second, .val (.int p2), .val (.int p3), .val (.int p4), .val (.long p0), .second, .val (.double (FP.i2d p2)), .second, .val (.double (FP.dadd (FP.i2d p2) (FP.i2d (((p4 >>> ((2 : Int32) &&& 31)) &&& (3 : Int32)) - (1 : Int32))))), .second, .val (.ref b55), .unset, .unset, .unset] [(.ref b59), (.ref b59)]))
      refine Goes.st (fun t k => XT.lload X59.here hx rfl (hb hby at_63) rfl k) ?_
      show Goes p e below s _ _ _ (T59.setTop (mkF m 65 #[.val (.long p0), .second, .val (.long p1), .second, .val (.int p2), .val (.int p3), .val (.int p4), .val (.long p0), .second, .val (.double (FP.i2d p2)), .second, .val (.double (FP.dadd (FP.i2d p2) (FP.i2d (((p4 >>> ((2 : Int32) &&& 31)) &&& (3 : Int32)) - (1 : Int32))))), .second, .val (.ref b55), .unset, .unset, .unset] [(.long p0), (.ref b59), (.ref b59)]))
      refine Goes.st (fun t k => XS.dload X59.here hx rfl (hb hby at_65) rfl k) ?_
      show Goes p e below s _ _ _ (T59.setTop (mkF m 67 #[.val (.long p0), .second, .val (.long p1), .second, .val (.int p2), .val (.int p3), .val (.int p4), .val (.long p0), .second, .val (.double (FP.i2d p2)), .second, .val (.double (FP.dadd (FP.i2d p2) (FP.i2d (((p4 >>> ((2 : Int32) &&& 31)) &&& (3 : Int32)) - (1 : Int32))))), .second, .val (.ref b55), .unset, .unset, .unset] [(.double (FP.dadd (FP.i2d p2) (FP.i2d (((p4 >>> ((2 : Int32) &&& 31)) &&& (3 : Int32)) - (1 : Int32))))), (.long p0), (.ref b59), (.ref b59)]))
      obtain ⟨_, _, ⟨T62, L62, k62, n62⟩, -, X62, ⟨Lc62, hQ62, l62, y62, z62⟩, st62⟩ := X59.specialBack hx (y := (⟨"com/example/parley/parley/LocalSearch$Gain", "<init>", "(JD)V"⟩ : MethodName)) rfl hown (mvT hZ (hw _ (List.mem_of_getElem? (i := 3) rfl))) (mvT hZ (hw _ (List.mem_of_getElem? (i := 4) rfl))) (mvT hZ (hw _ (List.mem_of_getElem? (i := 5) rfl))) (by decide) (backOf (W := 1) (rmC l Z a0 hw [] b59 p0 (FP.dadd (FP.i2d p2) (FP.i2d (((p4 >>> ((2 : Int32) &&& 31)) &&& (3 : Int32)) - (1 : Int32)))) (.long (0 : Int64)) (.double (0 : UInt64)) h59 n0 Z59 A59 lo_b59 F59_violations F59_total) hZ (hw _ (List.mem_of_getElem? (i := 5) rfl)) (hw _ (List.mem_of_getElem? (i := 2) rfl)) (by decide) (by decide)) (g := (mkF m 67 #[.val (.long p0), .second, .val (.long p1), .second, .val (.int p2), .val (.int p3), .val (.int p4), .val (.long p0), .second, .val (.double (FP.i2d p2)), .second, .val (.double (FP.dadd (FP.i2d p2) (FP.i2d (((p4 >>> ((2 : Int32) &&& 31)) &&& (3 : Int32)) - (1 : Int32))))), .second, .val (.ref b55), .unset, .unset, .unset] [(.double (FP.dadd (FP.i2d p2) (FP.i2d (((p4 >>> ((2 : Int32) &&& 31)) &&& (3 : Int32)) - (1 : Int32))))), (.long p0), (.ref b59), (.ref b59)])) rfl (by rw [hml]; rfl) (Steps.refl _) (a := b59) (argsL := [(.long p0), (.double (FP.dadd (FP.i2d p2) (FP.i2d (((p4 >>> ((2 : Int32) &&& 31)) &&& (3 : Int32)) - (1 : Int32)))))]) (rest := [(.ref b59)]) (lenOf pd__JD_V_b18 rfl) rfl (by show 2 * 0 + _ ≤ _; exact Nat.le_of_eq rfl) (hb hby at_67) (fun _ _ => ⟨rfl, e59, (by decide : 2 + 0 ≤ 16), (by decide : 4 + 0 ≤ 128)⟩)
      dsimp only [Pt.U, Pt.locs, Pt.cells, Pt.slots] at X62 l62 y62 z62 st62 hQ62
      subst l62 y62 z62
      obtain ⟨rfl, N62q, K62, R62_0, R62_1⟩ := hQ62
      have Z62 : n0 ≤ T62.heap.size := Nat.le_trans Z59 K62.1
      have N62 := Fr.app N57 N62q
      refine Goes.sts st62 ?_
      show Goes p e below s _ _ _ (T62.setTop (mkF m 70 #[.val (.long p0), .second, .val (.long p1), .second, .val (.int p2), .val (.int p3), .val (.int p4), .val (.long p0), .second, .val (.double (FP.i2d p2)), .second, .val (.double (FP.dadd (FP.i2d p2) (FP.i2d (((p4 >>> ((2 : Int32) &&& 31)) &&& (3 : Int32)) - (1 : Int32))))), .second, .val (.ref b55), .unset, .unset, .unset] [(.ref b59)]))
      refine Goes.st (fun t k => XS.astore X62.here hx rfl (hb hby at_70) rfl rfl (l' := #[.val (.long p0), .second, .val (.long p1), .second, .val (.int p2), .val (.int p3), .val (.int p4), .val (.long p0), .second, .val (.double (FP.i2d p2)), .second, .val (.double (FP.dadd (FP.i2d p2) (FP.i2d (((p4 >>> ((2 : Int32) &&& 31)) &&& (3 : Int32)) - (1 : Int32))))), .second, .val (.ref b55), .val (.ref b59), .unset, .unset]) rfl k) ?_
      show Goes p e below s _ _ _ (T62.setTop (mkF m 72 #[.val (.long p0), .second, .val (.long p1), .second, .val (.int p2), .val (.int p3), .val (.int p4), .val (.long p0), .second, .val (.double (FP.i2d p2)), .second, .val (.double (FP.dadd (FP.i2d p2) (FP.i2d (((p4 >>> ((2 : Int32) &&& 31)) &&& (3 : Int32)) - (1 : Int32))))), .second, .val (.ref b55), .val (.ref b59), .unset, .unset] []))
      refine Goes.st (fun t k => XS.aload X62.here hx rfl (hb hby at_72) rfl rfl k) ?_
      show Goes p e below s _ _ _ (T62.setTop (mkF m 74 #[.val (.long p0), .second, .val (.long p1), .second, .val (.int p2), .val (.int p3), .val (.int p4), .val (.long p0), .second, .val (.double (FP.i2d p2)), .second, .val (.double (FP.dadd (FP.i2d p2) (FP.i2d (((p4 >>> ((2 : Int32) &&& 31)) &&& (3 : Int32)) - (1 : Int32))))), .second, .val (.ref b55), .val (.ref b59), .unset, .unset] [(.ref b55)]))
      refine Goes.st (fun t k => XS.aload X62.here hx rfl (hb hby at_74) rfl rfl k) ?_
      show Goes p e below s _ _ _ (T62.setTop (mkF m 76 #[.val (.long p0), .second, .val (.long p1), .second, .val (.int p2), .val (.int p3), .val (.int p4), .val (.long p0), .second, .val (.double (FP.i2d p2)), .second, .val (.double (FP.dadd (FP.i2d p2) (FP.i2d (((p4 >>> ((2 : Int32) &&& 31)) &&& (3 : Int32)) - (1 : Int32))))), .second, .val (.ref b55), .val (.ref b59), .unset, .unset] [(.ref b59), (.ref b55)]))
      have f64 := ((R57_0.ext E59).keep K62 (ninS ne_b55_b59 nin0))
      have f65 := ((R57_1.ext E59).keep K62 (ninS ne_b55_b59 nin0))
      have f67 := ((f60.ext E59).keep K62)
      obtain ⟨cq66, kq66, qa66, qb66, qc66⟩ := isOf hZ rfl f67
      obtain ⟨_, _, ⟨T66, L66, k66, n66⟩, -, X66, ⟨Lc66, hQ66, l66, y66, z66⟩, st66⟩ := X62.virtualBack hx (y := (⟨"com/example/parley/parley/LocalSearch$Gain", "isLargerThan", "(Lcom/example/parley/parley/LocalSearch$Gain;)Z"⟩ : MethodName)) (z := (⟨"com/example/parley/parley/LocalSearch$Gain", "isLargerThan", "(Lcom/example/parley/parley/LocalSearch$Gain;)Z"⟩ : MethodName)) hown (mvT hZ (hw _ (List.mem_of_getElem? (i := 18) rfl))) (mvT hZ (hw _ (List.mem_of_getElem? (i := 19) rfl))) (notFace_of_selects (args := #[]) (mvT hZ (hw _ (List.mem_of_getElem? (i := 21) rfl)))) (mvT hZ (hw _ (List.mem_of_getElem? (i := 21) rfl))) (mvT hZ (hw _ (List.mem_of_getElem? (i := 20) rfl))) (by decide) (backOf (W := 0) (rmL l Z a0 hw [] b55 b59 p0 p0 (FP.i2d p2) (FP.dadd (FP.i2d p2) (FP.i2d (((p4 >>> ((2 : Int32) &&& 31)) &&& (3 : Int32)) - (1 : Int32)))) T62.heap n0 Z62 f64 f65 R62_0 R62_1) hZ (hw _ (List.mem_of_getElem? (i := 22) rfl)) (hw _ (List.mem_of_getElem? (i := 2) rfl)) (by decide) (by decide)) qa66 qc66 (g := (mkF m 76 #[.val (.long p0), .second, .val (.long p1), .second, .val (.int p2), .val (.int p3), .val (.int p4), .val (.long p0), .second, .val (.double (FP.i2d p2)), .second, .val (.double (FP.dadd (FP.i2d p2) (FP.i2d (((p4 >>> ((2 : Int32) &&& 31)) &&& (3 : Int32)) - (1 : Int32))))), .second, .val (.ref b55), .val (.ref b59), .unset, .unset] [(.ref b59), (.ref b55)])) rfl (by rw [hml]; rfl) (Steps.refl _) (argsL := [(.ref b59)]) (rest := []) (lenOf pd__Lcom_example_parley_parley_LocalSearch_Gain__Z_fa69 rfl) rfl (by show 2 * 0 + _ ≤ _; exact Nat.le_of_eq rfl) (hb hby at_76) (fun _ _ => ⟨rfl, rfl, (by decide : 2 + 0 ≤ 16), (by decide : 4 + 0 ≤ 128)⟩)
      dsimp only [Pt.U, Pt.locs, Pt.cells, Pt.slots] at X66 l66 y66 z66 st66 hQ66
      subst l66 y66 z66
      obtain ⟨rfl, N66q, eh66⟩ := hQ66
      have N66 := Fr.app N62 N66q
      refine Goes.sts st66 ?_
      show Goes p e below s _ _ _ (T66.setTop (mkF m 79 #[.val (.long p0), .second, .val (.long p1), .second, .val (.int p2), .val (.int p3), .val (.int p4), .val (.long p0), .second, .val (.double (FP.i2d p2)), .second, .val (.double (FP.dadd (FP.i2d p2) (FP.i2d (((p4 >>> ((2 : Int32) &&& 31)) &&& (3 : Int32)) - (1 : Int32))))), .second, .val (.ref b55), .val (.ref b59), .unset, .unset] [(.int (gtG p0 (FP.i2d p2) p0 (FP.dadd (FP.i2d p2) (FP.i2d (((p4 >>> ((2 : Int32) &&& 31)) &&& (3 : Int32)) - (1 : Int32))))))]))
      refine Goes.st (fun t k => XS.istore X66.here hx rfl (hb hby at_79) rfl (l' := #[.val (.long p0), .second, .val (.long p1), .second, .val (.int p2), .val (.int p3), .val (.int p4), .val (.long p0), .second, .val (.double (FP.i2d p2)), .second, .val (.double (FP.dadd (FP.i2d p2) (FP.i2d (((p4 >>> ((2 : Int32) &&& 31)) &&& (3 : Int32)) - (1 : Int32))))), .second, .val (.ref b55), .val (.ref b59), .val (.int (gtG p0 (FP.i2d p2) p0 (FP.dadd (FP.i2d p2) (FP.i2d (((p4 >>> ((2 : Int32) &&& 31)) &&& (3 : Int32)) - (1 : Int32)))))), .unset]) rfl k) ?_
      show Goes p e below s _ _ _ (T66.setTop (mkF m 81 #[.val (.long p0), .second, .val (.long p1), .second, .val (.int p2), .val (.int p3), .val (.int p4), .val (.long p0), .second, .val (.double (FP.i2d p2)), .second, .val (.double (FP.dadd (FP.i2d p2) (FP.i2d (((p4 >>> ((2 : Int32) &&& 31)) &&& (3 : Int32)) - (1 : Int32))))), .second, .val (.ref b55), .val (.ref b59), .val (.int (gtG p0 (FP.i2d p2) p0 (FP.dadd (FP.i2d p2) (FP.i2d (((p4 >>> ((2 : Int32) &&& 31)) &&& (3 : Int32)) - (1 : Int32)))))), .unset] []))
      refine Goes.st (fun t k => XS.aload X66.here hx rfl (hb hby at_81) rfl rfl k) ?_
      show Goes p e below s _ _ _ (T66.setTop (mkF m 83 #[.val (.long p0), .second, .val (.long p1), .second, .val (.int p2), .val (.int p3), .val (.int p4), .val (.long p0), .second, .val (.double (FP.i2d p2)), .second, .val (.double (FP.dadd (FP.i2d p2) (FP.i2d (((p4 >>> ((2 : Int32) &&& 31)) &&& (3 : Int32)) - (1 : Int32))))), .second, .val (.ref b55), .val (.ref b59), .val (.int (gtG p0 (FP.i2d p2) p0 (FP.dadd (FP.i2d p2) (FP.i2d (((p4 >>> ((2 : Int32) &&& 31)) &&& (3 : Int32)) - (1 : Int32)))))), .unset] [(.ref b59)]))
      refine Goes.st (fun t k => XS.aload X66.here hx rfl (hb hby at_83) rfl rfl k) ?_
      show Goes p e below s _ _ _ (T66.setTop (mkF m 85 #[.val (.long p0), .second, .val (.long p1), .second, .val (.int p2), .val (.int p3), .val (.int p4), .val (.long p0), .second, .val (.double (FP.i2d p2)), .second, .val (.double (FP.dadd (FP.i2d p2) (FP.i2d (((p4 >>> ((2 : Int32) &&& 31)) &&& (3 : Int32)) - (1 : Int32))))), .second, .val (.ref b55), .val (.ref b59), .val (.int (gtG p0 (FP.i2d p2) p0 (FP.dadd (FP.i2d p2) (FP.i2d (((p4 >>> ((2 : Int32) &&& 31)) &&& (3 : Int32)) - (1 : Int32)))))), .unset] [(.ref b55), (.ref b59)]))
      have f69 := (A59.keep K62)
      obtain ⟨cq68, kq68, qa68, qb68, qc68⟩ := isOf hZ eh66 f69
      obtain ⟨_, _, ⟨T68, L68, k68, n68⟩, -, X68, ⟨Lc68, hQ68, l68, y68, z68⟩, st68⟩ := X66.virtualBack hx (y := (⟨"com/example/parley/parley/LocalSearch$Gain", "isLargerThan", "(Lcom/example/parley/parley/LocalSearch$Gain;)Z"⟩ : MethodName)) (z := (⟨"com/example/parley/parley/LocalSearch$Gain", "isLargerThan", "(Lcom/example/parley/parley/LocalSearch$Gain;)Z"⟩ : MethodName)) hown (mvT hZ (hw _ (List.mem_of_getElem? (i := 18) rfl))) (mvT hZ (hw _ (List.mem_of_getElem? (i := 19) rfl))) (notFace_of_selects (args := #[]) (mvT hZ (hw _ (List.mem_of_getElem? (i := 21) rfl)))) (mvT hZ (hw _ (List.mem_of_getElem? (i := 21) rfl))) (mvT hZ (hw _ (List.mem_of_getElem? (i := 20) rfl))) (by decide) (backOf (W := 0) (rmL l Z a0 hw [] b59 b55 p0 p0 (FP.dadd (FP.i2d p2) (FP.i2d (((p4 >>> ((2 : Int32) &&& 31)) &&& (3 : Int32)) - (1 : Int32)))) (FP.i2d p2) T62.heap n0 Z62 R62_0 R62_1 f64 f65) hZ (hw _ (List.mem_of_getElem? (i := 22) rfl)) (hw _ (List.mem_of_getElem? (i := 2) rfl)) (by decide) (by decide)) qa68 qc68 (g := (mkF m 85 #[.val (.long p0), .second, .val (.long p1), .second, .val (.int p2), .val (.int p3), .val (.int p4), .val (.long p0), .second, .val (.double (FP.i2d p2)), .second, .val (.double (FP.dadd (FP.i2d p2) (FP.i2d (((p4 >>> ((2 : Int32) &&& 31)) &&& (3 : Int32)) - (1 : Int32))))), .second, .val (.ref b55), .val (.ref b59), .val (.int (gtG p0 (FP.i2d p2) p0 (FP.dadd (FP.i2d p2) (FP.i2d (((p4 >>> ((2 : Int32) &&& 31)) &&& (3 : Int32)) - (1 : Int32)))))), .unset] [(.ref b55), (.ref b59)])) rfl (by rw [hml]; rfl) (Steps.refl _) (argsL := [(.ref b55)]) (rest := []) (lenOf pd__Lcom_example_parley_parley_LocalSearch_Gain__Z_fa69 rfl) rfl (by show 2 * 0 + _ ≤ _; exact Nat.le_of_eq rfl) (hb hby at_85) (fun _ _ => ⟨rfl, eh66, (by decide : 2 + 0 ≤ 16), (by decide : 4 + 0 ≤ 128)⟩)
      dsimp only [Pt.U, Pt.locs, Pt.cells, Pt.slots] at X68 l68 y68 z68 st68 hQ68
      subst l68 y68 z68
      obtain ⟨rfl, N68q, eh68⟩ := hQ68
      have N68 := Fr.app N66 N68q
      refine Goes.sts st68 ?_
      show Goes p e below s _ _ _ (T68.setTop (mkF m 88 #[.val (.long p0), .second, .val (.long p1), .second, .val (.int p2), .val (.int p3), .val (.int p4), .val (.long p0), .second, .val (.double (FP.i2d p2)), .second, .val (.double (FP.dadd (FP.i2d p2) (FP.i2d (((p4 >>> ((2 : Int32) &&& 31)) &&& (3 : Int32)) - (1 : Int32))))), .second, .val (.ref b55), .val (.ref b59), .val (.int (gtG p0 (FP.i2d p2) p0 (FP.dadd (FP.i2d p2) (FP.i2d (((p4 >>> ((2 : Int32) &&& 31)) &&& (3 : Int32)) - (1 : Int32)))))), .unset] [(.int (gtG p0 (FP.dadd (FP.i2d p2) (FP.i2d (((p4 >>> ((2 : Int32) &&& 31)) &&& (3 : Int32)) - (1 : Int32)))) p0 (FP.i2d p2)))]))
      refine Goes.st (fun t k => XS.istore X68.here hx rfl (hb hby at_88) rfl (l' := #[.val (.long p0), .second, .val (.long p1), .second, .val (.int p2), .val (.int p3), .val (.int p4), .val (.long p0), .second, .val (.double (FP.i2d p2)), .second, .val (.double (FP.dadd (FP.i2d p2) (FP.i2d (((p4 >>> ((2 : Int32) &&& 31)) &&& (3 : Int32)) - (1 : Int32))))), .second, .val (.ref b55), .val (.ref b59), .val (.int (gtG p0 (FP.i2d p2) p0 (FP.dadd (FP.i2d p2) (FP.i2d (((p4 >>> ((2 : Int32) &&& 31)) &&& (3 : Int32)) - (1 : Int32)))))), .val (.int (gtG p0 (FP.dadd (FP.i2d p2) (FP.i2d (((p4 >>> ((2 : Int32) &&& 31)) &&& (3 : Int32)) - (1 : Int32)))) p0 (FP.i2d p2)))]) rfl k) ?_
      show Goes p e below s _ _ _ (T68.setTop (mkF m 90 #[.val (.long p0), .second, .val (.long p1), .second, .val (.int p2), .val (.int p3), .val (.int p4), .val (.long p0), .second, .val (.double (FP.i2d p2)), .second, .val (.double (FP.dadd (FP.i2d p2) (FP.i2d (((p4 >>> ((2 : Int32) &&& 31)) &&& (3 : Int32)) - (1 : Int32))))), .second, .val (.ref b55), .val (.ref b59), .val (.int (gtG p0 (FP.i2d p2) p0 (FP.dadd (FP.i2d p2) (FP.i2d (((p4 >>> ((2 : Int32) &&& 31)) &&& (3 : Int32)) - (1 : Int32)))))), .val (.int (gtG p0 (FP.dadd (FP.i2d p2) (FP.i2d (((p4 >>> ((2 : Int32) &&& 31)) &&& (3 : Int32)) - (1 : Int32)))) p0 (FP.i2d p2)))] []))
      refine Goes.st (fun t k => XS.iload X68.here hx rfl (hb hby at_90) rfl k) ?_
      show Goes p e below s _ _ _ (T68.setTop (mkF m 92 #[.val (.long p0), .second, .val (.long p1), .second, .val (.int p2), .val (.int p3), .val (.int p4), .val (.long p0), .second, .val (.double (FP.i2d p2)), .second, .val (.double (FP.dadd (FP.i2d p2) (FP.i2d (((p4 >>> ((2 : Int32) &&& 31)) &&& (3 : Int32)) - (1 : Int32))))), .second, .val (.ref b55), .val (.ref b59), .val (.int (gtG p0 (FP.i2d p2) p0 (FP.dadd (FP.i2d p2) (FP.i2d (((p4 >>> ((2 : Int32) &&& 31)) &&& (3 : Int32)) - (1 : Int32)))))), .val (.int (gtG p0 (FP.dadd (FP.i2d p2) (FP.i2d (((p4 >>> ((2 : Int32) &&& 31)) &&& (3 : Int32)) - (1 : Int32)))) p0 (FP.i2d p2)))] [(.int (gtG p0 (FP.i2d p2) p0 (FP.dadd (FP.i2d p2) (FP.i2d (((p4 >>> ((2 : Int32) &&& 31)) &&& (3 : Int32)) - (1 : Int32))))))]))
      refine Goes.st (fun t k => XT.lloadN X68.here hx rfl (hb hby at_92) rfl k) ?_
      show Goes p e below s _ _ _ (T68.setTop (mkF m 93 #[.val (.long p0), .second, .val (.long p1), .second, .val (.int p2), .val (.int p3), .val (.int p4), .val (.long p0), .second, .val (.double (FP.i2d p2)), .second, .val (.double (FP.dadd (FP.i2d p2) (FP.i2d (((p4 >>> ((2 : Int32) &&& 31)) &&& (3 : Int32)) - (1 : Int32))))), .second, .val (.ref b55), .val (.ref b59), .val (.int (gtG p0 (FP.i2d p2) p0 (FP.dadd (FP.i2d p2) (FP.i2d (((p4 >>> ((2 : Int32) &&& 31)) &&& (3 : Int32)) - (1 : Int32)))))), .val (.int (gtG p0 (FP.dadd (FP.i2d p2) (FP.i2d (((p4 >>> ((2 : Int32) &&& 31)) &&& (3 : Int32)) - (1 : Int32)))) p0 (FP.i2d p2)))] [(.long p0), (.int (gtG p0 (FP.i2d p2) p0 (FP.dadd (FP.i2d p2) (FP.i2d (((p4 >>> ((2 : Int32) &&& 31)) &&& (3 : Int32)) - (1 : Int32))))))]))
      refine Goes.st (fun t k => XS.dload X68.here hx rfl (hb hby at_93) rfl k) ?_
      show Goes p e below s _ _ _ (T68.setTop (mkF m 95 #[.val (.long p0), .second, .val (.long p1), .second, .val (.int p2), .val (.int p3), .val (.int p4), .val (.long p0), .second, .val (.double (FP.i2d p2)), .second, .val (.double (FP.dadd (FP.i2d p2) (FP.i2d (((p4 >>> ((2 : Int32) &&& 31)) &&& (3 : Int32)) - (1 : Int32))))), .second, .val (.ref b55), .val (.ref b59), .val (.int (gtG p0 (FP.i2d p2) p0 (FP.dadd (FP.i2d p2) (FP.i2d (((p4 >>> ((2 : Int32) &&& 31)) &&& (3 : Int32)) - (1 : Int32)))))), .val (.int (gtG p0 (FP.dadd (FP.i2d p2) (FP.i2d (((p4 >>> ((2 : Int32) &&& 31)) &&& (3 : Int32)) - (1 : Int32)))) p0 (FP.i2d p2)))] [(.double (FP.i2d p2)), (.long p0), (.int (gtG p0 (FP.i2d p2) p0 (FP.dadd (FP.i2d p2) (FP.i2d (((p4 >>> ((2 : Int32) &&& 31)) &&& (3 : Int32)) - (1 : Int32))))))]))
      refine Goes.st (fun t k => XT.lload X68.here hx rfl (hb hby at_95) rfl k) ?_
      show Goes p e below s _ _ _ (T68.setTop (mkF m 97 #[.val (.long p0), .second, .val (.long p1), .second, .val (.int p2), .val (.int p3), .val (.int p4), .val (.long p0), .second, .val (.double (FP.i2d p2)), .second, .val (.double (FP.dadd (FP.i2d p2) (FP.i2d (((p4 >>> ((2 : Int32) &&& 31)) &&& (3 : Int32)) - (1 : Int32))))), .second, .val (.ref b55), .val (.ref b59), .val (.int (gtG p0 (FP.i2d p2) p0 (FP.dadd (FP.i2d p2) (FP.i2d (((p4 >>> ((2 : Int32) &&& 31)) &&& (3 : Int32)) - (1 : Int32)))))), .val (.int (gtG p0 (FP.dadd (FP.i2d p2) (FP.i2d (((p4 >>> ((2 : Int32) &&& 31)) &&& (3 : Int32)) - (1 : Int32)))) p0 (FP.i2d p2)))] [(.long p0), (.double (FP.i2d p2)), (.long p0), (.int (gtG p0 (FP.i2d p2) p0 (FP.dadd (FP.i2d p2) (FP.i2d (((p4 >>> ((2 : Int32) &&& 31)) &&& (3 : Int32)) - (1 : Int32))))))]))
      refine Goes.st (fun t k => XS.dload X68.here hx rfl (hb hby at_97) rfl k) ?_
      show Goes p e below s _ _ _ (T68.setTop (mkF m 99 #[.val (.long p0), .second, .val (.long p1), .second, .val (.int p2), .val (.int p3), .val (.int p4), .val (.long p0), .second, .val (.double (FP.i2d p2)), .second, .val (.double (FP.dadd (FP.i2d p2) (FP.i2d (((p4 >>> ((2 : Int32) &&& 31)) &&& (3 : Int32)) - (1 : Int32))))), .second, .val (.ref b55), .val (.ref b59), .val (.int (gtG p0 (FP.i2d p2) p0 (FP.dadd (FP.i2d p2) (FP.i2d (((p4 >>> ((2 : Int32) &&& 31)) &&& (3 : Int32)) - (1 : Int32)))))), .val (.int (gtG p0 (FP.dadd (FP.i2d p2) (FP.i2d (((p4 >>> ((2 : Int32) &&& 31)) &&& (3 : Int32)) - (1 : Int32)))) p0 (FP.i2d p2)))] [(.double (FP.dadd (FP.i2d p2) (FP.i2d (((p4 >>> ((2 : Int32) &&& 31)) &&& (3 : Int32)) - (1 : Int32))))), (.long p0), (.double (FP.i2d p2)), (.long p0), (.int (gtG p0 (FP.i2d p2) p0 (FP.dadd (FP.i2d p2) (FP.i2d (((p4 >>> ((2 : Int32) &&& 31)) &&& (3 : Int32)) - (1 : Int32))))))]))
      obtain ⟨_, _, ⟨T70, L70, k70, n70⟩, -, X70, ⟨Lc70, hQ70, l70, y70, z70⟩, st70⟩ := Jvm.LawKit.callS X68 hx (y := (⟨"com/example/parley/parley/GainIsLargerThanPinLaw", "expected", "(JDJD)Z"⟩ : MethodName)) hown (mvT hZ (hw _ (List.mem_of_getElem? (i := 23) rfl))) (mvT hZ (hw _ (List.mem_of_getElem? (i := 24) rfl))) (mvT hZ (hw _ (List.mem_of_getElem? (i := 25) rfl))) (mvT hZ (hw _ (List.mem_of_getElem? (i := 26) rfl))) (by decide) (backOf (W := 1) (rmE l Z a0 hw [] p0 (FP.i2d p2) p0 (FP.dadd (FP.i2d p2) (FP.i2d (((p4 >>> ((2 : Int32) &&& 31)) &&& (3 : Int32)) - (1 : Int32)))) T62.heap n0 Z62 ) hZ (hw _ (List.mem_of_getElem? (i := 26) rfl)) (hw _ (List.mem_of_getElem? (i := 25) rfl)) (by decide) (by decide)) (g := (mkF m 99 #[.val (.long p0), .second, .val (.long p1), .second, .val (.int p2), .val (.int p3), .val (.int p4), .val (.long p0), .second, .val (.double (FP.i2d p2)), .second, .val (.double (FP.dadd (FP.i2d p2) (FP.i2d (((p4 >>> ((2 : Int32) &&& 31)) &&& (3 : Int32)) - (1 : Int32))))), .second, .val (.ref b55), .val (.ref b59), .val (.int (gtG p0 (FP.i2d p2) p0 (FP.dadd (FP.i2d p2) (FP.i2d (((p4 >>> ((2 : Int32) &&& 31)) &&& (3 : Int32)) - (1 : Int32)))))), .val (.int (gtG p0 (FP.dadd (FP.i2d p2) (FP.i2d (((p4 >>> ((2 : Int32) &&& 31)) &&& (3 : Int32)) - (1 : Int32)))) p0 (FP.i2d p2)))] [(.double (FP.dadd (FP.i2d p2) (FP.i2d (((p4 >>> ((2 : Int32) &&& 31)) &&& (3 : Int32)) - (1 : Int32))))), (.long p0), (.double (FP.i2d p2)), (.long p0), (.int (gtG p0 (FP.i2d p2) p0 (FP.dadd (FP.i2d p2) (FP.i2d (((p4 >>> ((2 : Int32) &&& 31)) &&& (3 : Int32)) - (1 : Int32))))))])) rfl (by rw [hml]; rfl) (argsL := [(.long p0), (.double (FP.i2d p2)), (.long p0), (.double (FP.dadd (FP.i2d p2) (FP.i2d (((p4 >>> ((2 : Int32) &&& 31)) &&& (3 : Int32)) - (1 : Int32)))))]) (rest := [(.int (gtG p0 (FP.i2d p2) p0 (FP.dadd (FP.i2d p2) (FP.i2d (((p4 >>> ((2 : Int32) &&& 31)) &&& (3 : Int32)) - (1 : Int32))))))]) (lenOf pd__JDJD_Z_121a rfl) rfl (by show 2 * 0 + _ ≤ _; exact Nat.le_of_eq rfl) (hb hby at_99) (fun _ _ => ⟨rfl, eh68, (by decide : 2 + 0 ≤ 16), (by decide : 4 + 0 ≤ 128)⟩)
      dsimp only [Pt.U, Pt.locs, Pt.cells, Pt.slots] at X70 l70 y70 z70 st70 hQ70
      subst l70 y70 z70
      obtain ⟨rfl, N70q, eh70⟩ := hQ70
      have N70 := Fr.app N68 N70q
      refine Goes.st st70 ?_
      show Goes p e below s _ _ _ (T70.setTop (mkF m 102 #[.val (.long p0), .second, .val (.long p1), .second, .val (.int p2), .val (.int p3), .val (.int p4), .val (.long p0), .second, .val (.double (FP.i2d p2)), .second, .val (.double (FP.dadd (FP.i2d p2) (FP.i2d (((p4 >>> ((2 : Int32) &&& 31)) &&& (3 : Int32)) - (1 : Int32))))), .second, .val (.ref b55), .val (.ref b59), .val (.int (gtG p0 (FP.i2d p2) p0 (FP.dadd (FP.i2d p2) (FP.i2d (((p4 >>> ((2 : Int32) &&& 31)) &&& (3 : Int32)) - (1 : Int32)))))), .val (.int (gtG p0 (FP.dadd (FP.i2d p2) (FP.i2d (((p4 >>> ((2 : Int32) &&& 31)) &&& (3 : Int32)) - (1 : Int32)))) p0 (FP.i2d p2)))] [(.int (gtG p0 (FP.i2d p2) p0 (FP.dadd (FP.i2d p2) (FP.i2d (((p4 >>> ((2 : Int32) &&& 31)) &&& (3 : Int32)) - (1 : Int32)))))), (.int (gtG p0 (FP.i2d p2) p0 (FP.dadd (FP.i2d p2) (FP.i2d (((p4 >>> ((2 : Int32) &&& 31)) &&& (3 : Int32)) - (1 : Int32))))))]))
      refine Goes.st (fun t k => XS.icmpNo X70.here hx rfl (hb hby at_102) rfl (teq (rfl : (gtG p0 (FP.i2d p2) p0 (FP.dadd (FP.i2d p2) (FP.i2d (((p4 >>> ((2 : Int32) &&& 31)) &&& (3 : Int32)) - (1 : Int32))))) = (gtG p0 (FP.i2d p2) p0 (FP.dadd (FP.i2d p2) (FP.i2d (((p4 >>> ((2 : Int32) &&& 31)) &&& (3 : Int32)) - (1 : Int32))))))).2 k) ?_
      show Goes p e below s _ _ _ (T70.setTop (mkF m 105 #[.val (.long p0), .second, .val (.long p1), .second, .val (.int p2), .val (.int p3), .val (.int p4), .val (.long p0), .second, .val (.double (FP.i2d p2)), .second, .val (.double (FP.dadd (FP.i2d p2) (FP.i2d (((p4 >>> ((2 : Int32) &&& 31)) &&& (3 : Int32)) - (1 : Int32))))), .second, .val (.ref b55), .val (.ref b59), .val (.int (gtG p0 (FP.i2d p2) p0 (FP.dadd (FP.i2d p2) (FP.i2d (((p4 >>> ((2 : Int32) &&& 31)) &&& (3 : Int32)) - (1 : Int32)))))), .val (.int (gtG p0 (FP.dadd (FP.i2d p2) (FP.i2d (((p4 >>> ((2 : Int32) &&& 31)) &&& (3 : Int32)) - (1 : Int32)))) p0 (FP.i2d p2)))] []))
      refine Goes.st (fun t k => XS.iload X70.here hx rfl (hb hby at_105) rfl k) ?_
      show Goes p e below s _ _ _ (T70.setTop (mkF m 107 #[.val (.long p0), .second, .val (.long p1), .second, .val (.int p2), .val (.int p3), .val (.int p4), .val (.long p0), .second, .val (.double (FP.i2d p2)), .second, .val (.double (FP.dadd (FP.i2d p2) (FP.i2d (((p4 >>> ((2 : Int32) &&& 31)) &&& (3 : Int32)) - (1 : Int32))))), .second, .val (.ref b55), .val (.ref b59), .val (.int (gtG p0 (FP.i2d p2) p0 (FP.dadd (FP.i2d p2) (FP.i2d (((p4 >>> ((2 : Int32) &&& 31)) &&& (3 : Int32)) - (1 : Int32)))))), .val (.int (gtG p0 (FP.dadd (FP.i2d p2) (FP.i2d (((p4 >>> ((2 : Int32) &&& 31)) &&& (3 : Int32)) - (1 : Int32)))) p0 (FP.i2d p2)))] [(.int (gtG p0 (FP.dadd (FP.i2d p2) (FP.i2d (((p4 >>> ((2 : Int32) &&& 31)) &&& (3 : Int32)) - (1 : Int32)))) p0 (FP.i2d p2)))]))
      refine Goes.st (fun t k => XT.lload X70.here hx rfl (hb hby at_107) rfl k) ?_
      show Goes p e below s _ _ _ (T70.setTop (mkF m 109 #[.val (.long p0), .second, .val (.long p1), .second, .val (.int p2), .val (.int p3), .val (.int p4), .val (.long p0), .second, .val (.double (FP.i2d p2)), .second, .val (.double (FP.dadd (FP.i2d p2) (FP.i2d (((p4 >>> ((2 : Int32) &&& 31)) &&& (3 : Int32)) - (1 : Int32))))), .second, .val (.ref b55), .val (.ref b59), .val (.int (gtG p0 (FP.i2d p2) p0 (FP.dadd (FP.i2d p2) (FP.i2d (((p4 >>> ((2 : Int32) &&& 31)) &&& (3 : Int32)) - (1 : Int32)))))), .val (.int (gtG p0 (FP.dadd (FP.i2d p2) (FP.i2d (((p4 >>> ((2 : Int32) &&& 31)) &&& (3 : Int32)) - (1 : Int32)))) p0 (FP.i2d p2)))] [(.long p0), (.int (gtG p0 (FP.dadd (FP.i2d p2) (FP.i2d (((p4 >>> ((2 : Int32) &&& 31)) &&& (3 : Int32)) - (1 : Int32)))) p0 (FP.i2d p2)))]))
      refine Goes.st (fun t k => XS.dload X70.here hx rfl (hb hby at_109) rfl k) ?_
      show Goes p e below s _ _ _ (T70.setTop (mkF m 111 #[.val (.long p0), .second, .val (.long p1), .second, .val (.int p2), .val (.int p3), .val (.int p4), .val (.long p0), .second, .val (.double (FP.i2d p2)), .second, .val (.double (FP.dadd (FP.i2d p2) (FP.i2d (((p4 >>> ((2 : Int32) &&& 31)) &&& (3 : Int32)) - (1 : Int32))))), .second, .val (.ref b55), .val (.ref b59), .val (.int (gtG p0 (FP.i2d p2) p0 (FP.dadd (FP.i2d p2) (FP.i2d (((p4 >>> ((2 : Int32) &&& 31)) &&& (3 : Int32)) - (1 : Int32)))))), .val (.int (gtG p0 (FP.dadd (FP.i2d p2) (FP.i2d (((p4 >>> ((2 : Int32) &&& 31)) &&& (3 : Int32)) - (1 : Int32)))) p0 (FP.i2d p2)))] [(.double (FP.dadd (FP.i2d p2) (FP.i2d (((p4 >>> ((2 : Int32) &&& 31)) &&& (3 : Int32)) - (1 : Int32))))), (.long p0), (.int (gtG p0 (FP.dadd (FP.i2d p2) (FP.i2d (((p4 >>> ((2 : Int32) &&& 31)) &&& (3 : Int32)) - (1 : Int32)))) p0 (FP.i2d p2)))]))
      refine Goes.st (fun t k => XT.lloadN X70.here hx rfl (hb hby at_111) rfl k) ?_
      show Goes p e below s _ _ _ (T70.setTop (mkF m 112 #[.val (.long p0), .second, .val (.long p1), .second, .val (.int p2), .val (.int p3), .val (.int p4), .val (.long p0), .second, .val (.double (FP.i2d p2)), .second, .val (.double (FP.dadd (FP.i2d p2) (FP.i2d (((p4 >>> ((2 : Int32) &&& 31)) &&& (3 : Int32)) - (1 : Int32))))), .second, .val (.ref b55), .val (.ref b59), .val (.int (gtG p0 (FP.i2d p2) p0 (FP.dadd (FP.i2d p2) (FP.i2d (((p4 >>> ((2 : Int32) &&& 31)) &&& (3 : Int32)) - (1 : Int32)))))), .val (.int (gtG p0 (FP.dadd (FP.i2d p2) (FP.i2d (((p4 >>> ((2 : Int32) &&& 31)) &&& (3 : Int32)) - (1 : Int32)))) p0 (FP.i2d p2)))] [(.long p0), (.double (FP.dadd (FP.i2d p2) (FP.i2d (((p4 >>> ((2 : Int32) &&& 31)) &&& (3 : Int32)) - (1 : Int32))))), (.long p0), (.int (gtG p0 (FP.dadd (FP.i2d p2) (FP.i2d (((p4 >>> ((2 : Int32) &&& 31)) &&& (3 : Int32)) - (1 : Int32)))) p0 (FP.i2d p2)))]))
      refine Goes.st (fun t k => XS.dload X70.here hx rfl (hb hby at_112) rfl k) ?_
      show Goes p e below s _ _ _ (T70.setTop (mkF m 114 #[.val (.long p0), .second, .val (.long p1), .second, .val (.int p2), .val (.int p3), .val (.int p4), .val (.long p0), .second, .val (.double (FP.i2d p2)), .second, .val (.double (FP.dadd (FP.i2d p2) (FP.i2d (((p4 >>> ((2 : Int32) &&& 31)) &&& (3 : Int32)) - (1 : Int32))))), .second, .val (.ref b55), .val (.ref b59), .val (.int (gtG p0 (FP.i2d p2) p0 (FP.dadd (FP.i2d p2) (FP.i2d (((p4 >>> ((2 : Int32) &&& 31)) &&& (3 : Int32)) - (1 : Int32)))))), .val (.int (gtG p0 (FP.dadd (FP.i2d p2) (FP.i2d (((p4 >>> ((2 : Int32) &&& 31)) &&& (3 : Int32)) - (1 : Int32)))) p0 (FP.i2d p2)))] [(.double (FP.i2d p2)), (.long p0), (.double (FP.dadd (FP.i2d p2) (FP.i2d (((p4 >>> ((2 : Int32) &&& 31)) &&& (3 : Int32)) - (1 : Int32))))), (.long p0), (.int (gtG p0 (FP.dadd (FP.i2d p2) (FP.i2d (((p4 >>> ((2 : Int32) &&& 31)) &&& (3 : Int32)) - (1 : Int32)))) p0 (FP.i2d p2)))]))
      obtain ⟨_, _, ⟨T71, L71, k71, n71⟩, -, X71, ⟨Lc71, hQ71, l71, y71, z71⟩, st71⟩ := Jvm.LawKit.callS X70 hx (y := (⟨"com/example/parley/parley/GainIsLargerThanPinLaw", "expected", "(JDJD)Z"⟩ : MethodName)) hown (mvT hZ (hw _ (List.mem_of_getElem? (i := 23) rfl))) (mvT hZ (hw _ (List.mem_of_getElem? (i := 24) rfl))) (mvT hZ (hw _ (List.mem_of_getElem? (i := 25) rfl))) (mvT hZ (hw _ (List.mem_of_getElem? (i := 26) rfl))) (by decide) (backOf (W := 1) (rmE l Z a0 hw [] p0 (FP.dadd (FP.i2d p2) (FP.i2d (((p4 >>> ((2 : Int32) &&& 31)) &&& (3 : Int32)) - (1 : Int32)))) p0 (FP.i2d p2) T62.heap n0 Z62 ) hZ (hw _ (List.mem_of_getElem? (i := 26) rfl)) (hw _ (List.mem_of_getElem? (i := 25) rfl)) (by decide) (by decide)) (g := (mkF m 114 #[.val (.long p0), .second, .val (.long p1), .second, .val (.int p2), .val (.int p3), .val (.int p4), .val (.long p0), .second, .val (.double (FP.i2d p2)), .second, .val (.double (FP.dadd (FP.i2d p2) (FP.i2d (((p4 >>> ((2 : Int32) &&& 31)) &&& (3 : Int32)) - (1 : Int32))))), .second, .val (.ref b55), .val (.ref b59), .val (.int (gtG p0 (FP.i2d p2) p0 (FP.dadd (FP.i2d p2) (FP.i2d (((p4 >>> ((2 : Int32) &&& 31)) &&& (3 : Int32)) - (1 : Int32)))))), .val (.int (gtG p0 (FP.dadd (FP.i2d p2) (FP.i2d (((p4 >>> ((2 : Int32) &&& 31)) &&& (3 : Int32)) - (1 : Int32)))) p0 (FP.i2d p2)))] [(.double (FP.i2d p2)), (.long p0), (.double (FP.dadd (FP.i2d p2) (FP.i2d (((p4 >>> ((2 : Int32) &&& 31)) &&& (3 : Int32)) - (1 : Int32))))), (.long p0), (.int (gtG p0 (FP.dadd (FP.i2d p2) (FP.i2d (((p4 >>> ((2 : Int32) &&& 31)) &&& (3 : Int32)) - (1 : Int32)))) p0 (FP.i2d p2)))])) rfl (by rw [hml]; rfl) (argsL := [(.long p0), (.double (FP.dadd (FP.i2d p2) (FP.i2d (((p4 >>> ((2 : Int32) &&& 31)) &&& (3 : Int32)) - (1 : Int32))))), (.long p0), (.double (FP.i2d p2))]) (rest := [(.int (gtG p0 (FP.dadd (FP.i2d p2) (FP.i2d (((p4 >>> ((2 : Int32) &&& 31)) &&& (3 : Int32)) - (1 : Int32)))) p0 (FP.i2d p2)))]) (lenOf pd__JDJD_Z_121a rfl) rfl (by show 2 * 0 + _ ≤ _; exact Nat.le_of_eq rfl) (hb hby at_114) (fun _ _ => ⟨rfl, eh70, (by decide : 2 + 0 ≤ 16), (by decide : 4 + 0 ≤ 128)⟩)
      dsimp only [Pt.U, Pt.locs, Pt.cells, Pt.slots] at X71 l71 y71 z71 st71 hQ71
      subst l71 y71 z71
      obtain ⟨rfl, N71q, eh71⟩ := hQ71
      have N71 := Fr.app N70 N71q
      refine Goes.st st71 ?_
      show Goes p e below s _ _ _ (T71.setTop (mkF m 117 #[.val (.long p0), .second, .val (.long p1), .second, .val (.int p2), .val (.int p3), .val (.int p4), .val (.long p0), .second, .val (.double (FP.i2d p2)), .second, .val (.double (FP.dadd (FP.i2d p2) (FP.i2d (((p4 >>> ((2 : Int32) &&& 31)) &&& (3 : Int32)) - (1 : Int32))))), .second, .val (.ref b55), .val (.ref b59), .val (.int (gtG p0 (FP.i2d p2) p0 (FP.dadd (FP.i2d p2) (FP.i2d (((p4 >>> ((2 : Int32) &&& 31)) &&& (3 : Int32)) - (1 : Int32)))))), .val (.int (gtG p0 (FP.dadd (FP.i2d p2) (FP.i2d (((p4 >>> ((2 : Int32) &&& 31)) &&& (3 : Int32)) - (1 : Int32)))) p0 (FP.i2d p2)))] [(.int (gtG p0 (FP.dadd (FP.i2d p2) (FP.i2d (((p4 >>> ((2 : Int32) &&& 31)) &&& (3 : Int32)) - (1 : Int32)))) p0 (FP.i2d p2))), (.int (gtG p0 (FP.dadd (FP.i2d p2) (FP.i2d (((p4 >>> ((2 : Int32) &&& 31)) &&& (3 : Int32)) - (1 : Int32)))) p0 (FP.i2d p2)))]))
      refine Goes.st (fun t k => XS.icmpNo X71.here hx rfl (hb hby at_117) rfl (teq (rfl : (gtG p0 (FP.dadd (FP.i2d p2) (FP.i2d (((p4 >>> ((2 : Int32) &&& 31)) &&& (3 : Int32)) - (1 : Int32)))) p0 (FP.i2d p2)) = (gtG p0 (FP.dadd (FP.i2d p2) (FP.i2d (((p4 >>> ((2 : Int32) &&& 31)) &&& (3 : Int32)) - (1 : Int32)))) p0 (FP.i2d p2)))).2 k) ?_
      show Goes p e below s _ _ _ (T71.setTop (mkF m 120 #[.val (.long p0), .second, .val (.long p1), .second, .val (.int p2), .val (.int p3), .val (.int p4), .val (.long p0), .second, .val (.double (FP.i2d p2)), .second, .val (.double (FP.dadd (FP.i2d p2) (FP.i2d (((p4 >>> ((2 : Int32) &&& 31)) &&& (3 : Int32)) - (1 : Int32))))), .second, .val (.ref b55), .val (.ref b59), .val (.int (gtG p0 (FP.i2d p2) p0 (FP.dadd (FP.i2d p2) (FP.i2d (((p4 >>> ((2 : Int32) &&& 31)) &&& (3 : Int32)) - (1 : Int32)))))), .val (.int (gtG p0 (FP.dadd (FP.i2d p2) (FP.i2d (((p4 >>> ((2 : Int32) &&& 31)) &&& (3 : Int32)) - (1 : Int32)))) p0 (FP.i2d p2)))] []))
      refine Goes.st (fun t k => XS.iconst X71.here hx rfl (hb hby at_120) k) ?_
      show Goes p e below s _ _ _ (T71.setTop (mkF m 121 #[.val (.long p0), .second, .val (.long p1), .second, .val (.int p2), .val (.int p3), .val (.int p4), .val (.long p0), .second, .val (.double (FP.i2d p2)), .second, .val (.double (FP.dadd (FP.i2d p2) (FP.i2d (((p4 >>> ((2 : Int32) &&& 31)) &&& (3 : Int32)) - (1 : Int32))))), .second, .val (.ref b55), .val (.ref b59), .val (.int (gtG p0 (FP.i2d p2) p0 (FP.dadd (FP.i2d p2) (FP.i2d (((p4 >>> ((2 : Int32) &&& 31)) &&& (3 : Int32)) - (1 : Int32)))))), .val (.int (gtG p0 (FP.dadd (FP.i2d p2) (FP.i2d (((p4 >>> ((2 : Int32) &&& 31)) &&& (3 : Int32)) - (1 : Int32)))) p0 (FP.i2d p2)))] [(.int (1 : Int32))]))
      refine Goes.st (fun t k => XS.goto X71.here hx rfl (pc0 := 121) (pc' := 125) rfl (hb hby at_121) (by decide) (by decide) k) ?_
      show Goes p e below s _ _ _ (T71.setTop (mkF m 125 #[.val (.long p0), .second, .val (.long p1), .second, .val (.int p2), .val (.int p3), .val (.int p4), .val (.long p0), .second, .val (.double (FP.i2d p2)), .second, .val (.double (FP.dadd (FP.i2d p2) (FP.i2d (((p4 >>> ((2 : Int32) &&& 31)) &&& (3 : Int32)) - (1 : Int32))))), .second, .val (.ref b55), .val (.ref b59), .val (.int (gtG p0 (FP.i2d p2) p0 (FP.dadd (FP.i2d p2) (FP.i2d (((p4 >>> ((2 : Int32) &&& 31)) &&& (3 : Int32)) - (1 : Int32)))))), .val (.int (gtG p0 (FP.dadd (FP.i2d p2) (FP.i2d (((p4 >>> ((2 : Int32) &&& 31)) &&& (3 : Int32)) - (1 : Int32)))) p0 (FP.i2d p2)))] [(.int (1 : Int32))]))
      refine Goes.retN X71 hx hlk hret (by simp) (hb hby at_125) (by decide) ?_ (by decide) (by decide)
      rw [eh71]
      exact ⟨rfl, N71⟩
set_option maxRecDepth 65536 in
set_option maxHeartbeats 40000000 in
theorem comes_1 {Post : Tables → Env → Array Value → State → Outcome → State → Prop} (hpost : ∀ tb e args s v u, (limb_1_1.after args s (.returned v) u = true ∧ limb_1_2.after args s (.returned v) u = true ∧ True) → FrameEnd s (.returned v) u (Jvm.fieldLocs frame_1_writes args s ++ Jvm.arrayLocs frame_1_arrays args s ++ Jvm.staticLocs frame_1_statics s) 16 128 → Post tb e args s (.returned v) u) :
    ArmFor flags0 classFile x code maxLocals ret World_1 tables_1 room_1 Calls_1 rest_1 Pre_1 Post := by
  intro l hfl _ _ p e ha hc hk s m args below hf hA hF happ hP
  obtain ⟨hcalls, hrest, hpre⟩ := hP
  obtain ⟨-, -, -, hnamed, -, -, -, hat⟩ := (Spec.applies_iff hf).mp happ
  obtain ⟨hg, hn⟩ := and_e (Cond.before_iff.mp (show (Jvm.Cond.and given_1 narrow_1).before args s = true from hpre))
  obtain ⟨hcnt, hg⟩ := and_e hg
  obtain ⟨ga0, hg⟩ := and_e hg
  obtain ⟨ga1, hg⟩ := and_e hg
  obtain ⟨ga2, hg⟩ := and_e hg
  obtain ⟨ga3, hg⟩ := and_e hg
  have ga4 := hg
  obtain ⟨w0, w1, w2, w3, w4, rfl⟩ : ∃ w0 w1 w2 w3 w4 : Value, args = #[w0, w1, w2, w3, w4] := by
    have hs : args.size = 5 := by simpa [Cond.value, given_1] using hcnt
    obtain ⟨L⟩ := args
    match L, hs with
    | [w0, w1, w2, w3, w4], _ => exact ⟨w0, w1, w2, w3, w4, rfl⟩
  have hw := fun d (hd : d ∈ tables_1) => atoms_spec (ws := Jvm.Cond.code x code maxLocals ret :: tables_1) hat d (List.mem_cons_of_mem _ hd)
  have hfit : Fit s := fun {y c} hc i hi => by
    obtain ⟨ha, rfl⟩ := Array.getElem?_eq_some_iff.mp hc
    have q := List.all_eq_true.mp ((Array.all_eq_true_iff_forall_mem.mp hF) _ (Array.getElem_mem ha)) i (List.mem_range.mpr hi)
    simpa [Array.getElem?_eq_getElem hi] using q
  obtain ⟨i0, q0⟩ := isL_v ga0
  obtain rfl : w0 = (.long i0) := Option.some.inj q0
  obtain ⟨i1, q1⟩ := isL_v ga1
  obtain rfl : w1 = (.long i1) := Option.some.inj q1
  obtain ⟨i2, q2⟩ := is_v ga2
  obtain rfl : w2 = (.int i2) := Option.some.inj q2
  obtain ⟨i3, q3⟩ := is_v ga3
  obtain rfl : w3 = (.int i3) := Option.some.inj q3
  obtain ⟨i4, q4⟩ := is_v ga4
  obtain rfl : w4 = (.int i4) := Option.some.inj q4
  obtain ⟨n, o, h1, h2, h3, _, L, rfl, ⟨rfl, N⟩, hq⟩ := rm0 l s _ hw tables_1 i0 i1 i2 i3 i4  s.heap s.heap.size (Nat.le_refl _)  p e ha hc hk s m _ below hf ((Spec.applies_iff_loose hf).mp happ).1 ⟨rfl, State.Warmed39.refl s, rfl⟩ trivial
  refine ⟨n, _, h1, h2, h3, hpost _ _ _ _ _ _ ⟨Cond.after_iff.mpr rfl, Cond.after_iff.mpr (eq_i res_at (Term.int_eval (1)) rfl), trivial⟩ ⟨hq.1, hq.2.1, (hq.2.2.sift fun y hy => Or.inr (N y hy)).mono (by decide) (by decide)⟩⟩
theorem main_1_1 : Claimed_1_1 := comes_1 fun _ _ _ _ _ _ h hF => ⟨h.1, hF⟩
theorem main_1_2 : Claimed_1_2 := comes_1 fun _ _ _ _ _ _ h hF => ⟨h.2.1, hF⟩
end Jvm.Pilot.@@N@@
namespace Jvm.Pilot.@@N@@
open Jvm Jvm.ClassFile Sem Op Lib Jvm.Free Jvm.Stand Jvm.Pilot.@@N@@.Jvm.D
/-! MADE BY PROGRAM (witnessworld.py) out of the Statement's table words and the real class files: 11 classes; the members and pool entries that the words name. The judged class is class 1, her method 2. -/
namespace start1
open Jvm.ClassFile
def u (s : String) : CpInfo := .utf8 (stringToUtf16 s)
/-- a pool by its gaps: so many unusable entries, then the entry; so many at the end -/
def gap : Nat → List CpInfo → List CpInfo
  | 0, r => r
  | n + 1, r => .unusable :: gap n r
def poolList (es : List (Nat × CpInfo)) (last : Nat) : List CpInfo := es.foldr (fun e r => gap e.1 (e.2 :: r)) (gap last [])
def pool (es : List (Nat × CpInfo)) (last : Nat) : Array CpInfo := ⟨poolList es last⟩
def fileOf (pool : Array CpInfo) (this : Nat) (attrs : Array Attribute := #[]) (ms : Array MethodInfo := #[]) (fl : Nat := 33) (sup : Nat := 0) (ifs : Array Nat := #[]) (fds : Array FieldInfo := #[]) : ClassFile where
  minorVersion := 0
  majorVersion := 65
  constantPool := pool
  accessFlags := fl
  thisClass := this
  superClass := sup
  interfaces := ifs
  fields := fds
  methods := ms
  attributes := attrs
def plain (name : String) (sup : Option ClassId) : Class where
  name := name
  kind := .ordinary
  loader := none
  accessFlags := 33
  super := sup
  interfaces := #[]
  cf := none
  fields := #[]
  methods := #[]
  instanceTypes := #[]
  staticTypes := #[]
  resolved := #[]
  callSites := []
  init := .initialized
  statics := none
  mirror := none

def pool0 : Array CpInfo := pool [(5, u "<init>"), (0, u "()V"), (1, .class_ 10), (1, u "java/lang/Object")] 113

def k0c0 : Code := { maxStack := 0, maxLocals := 1, code := object_method_1_code, exceptionTable := #[], attributes := #[] }
def k0m0 : Method := { name := "<init>", desc := "()V", sig := { parameters := [], returnType := none }, accessFlags := 1, code := some k0c0 }
/-- java/lang/Object -/
def k0 : Class := { plain "java/lang/Object" none with
  accessFlags := 33
  interfaces := #[]
  cf := some (fileOf pool0 8 #[] #[{ accessFlags := 1, nameIndex := 5, descriptorIndex := 6, attributes := #[] }] 33 0 #[] #[])
  fields := #[]
  methods := #[k0m0]
  instanceTypes := #[]
  staticTypes := #[]
  resolved := Array.replicate 124 none
  statics := none }

def pool1 : Array CpInfo := pool [(2, .class_ 4), (1, u "java/lang/Object"), (0, u "<init>"), (0, u "()V"), (0, .class_ 8), (0, u "com/example/parley/parley/LocalSearch$Gain"), (0, .methodref 7 10), (0, .nameAndType 5 11), (0, u "(JD)V"), (0, .methodref 7 13), (0, .nameAndType 14 15), (0, u "isLargerThan"), (0, u "(Lcom/example/parley/parley/LocalSearch$Gain;)Z"), (0, .methodref 17 18), (0, .class_ 19), (0, .nameAndType 20 21), (0, u "com/example/parley/parley/GainIsLargerThanPinLaw"), (0, u "expected"), (0, u "(JDJD)Z"), (3, u "law"), (0, u "(JJIII)Z")] 6

def k1m0 : Method := { name := "<init>", desc := "()V", sig := { parameters := [], returnType := none }, accessFlags := 2, code := none }
def k1c1 : Code := { maxStack := 4, maxLocals := 8, code := method_2_code, exceptionTable := #[], attributes := #[] }
def k1m1 : Method := { name := "expected", desc := "(JDJD)Z", sig := { parameters := [.long, .double, .long, .double], returnType := some .boolean }, accessFlags := 10, code := some k1c1 }
def k1c2 : Code := { maxStack := 9, maxLocals := 17, code := code, exceptionTable := #[], attributes := #[] }
def k1m2 : Method := { name := "law", desc := "(JJIII)Z", sig := { parameters := [.long, .long, .int, .int, .int], returnType := some .boolean }, accessFlags := 9, code := some k1c2 }
/-- com/example/parley/parley/GainIsLargerThanPinLaw -/
def k1 : Class := { plain "com/example/parley/parley/GainIsLargerThanPinLaw" (some 0) with
  accessFlags := 49
  interfaces := #[]
  cf := some (fileOf pool1 17 #[] #[{ accessFlags := 2, nameIndex := 5, descriptorIndex := 6, attributes := #[] }, { accessFlags := 10, nameIndex := 20, descriptorIndex := 21, attributes := #[] }, { accessFlags := 9, nameIndex := 25, descriptorIndex := 26, attributes := #[] }] 49 2 #[] #[])
  fields := #[]
  methods := #[k1m0, k1m1, k1m2]
  instanceTypes := #[]
  staticTypes := #[]
  resolved := Array.replicate 33 none
  statics := none }

def pool2 : Array CpInfo := pool [(1, .methodref 2 3), (0, .class_ 4), (0, .nameAndType 5 6), (0, u "java/lang/Object"), (0, u "<init>"), (0, u "()V"), (0, .class_ 8), (0, u "java/lang/Record")] 13

def k2c0 : Code := { maxStack := 1, maxLocals := 1, code := jdk_30_method_1_code, exceptionTable := #[], attributes := #[] }
def k2m0 : Method := { name := "<init>", desc := "()V", sig := { parameters := [], returnType := none }, accessFlags := 4, code := some k2c0 }
/-- java/lang/Record -/
def k2 : Class := { plain "java/lang/Record" (some 0) with
  accessFlags := 1057
  interfaces := #[]
  cf := some (fileOf pool2 7 #[] #[{ accessFlags := 4, nameIndex := 5, descriptorIndex := 6, attributes := #[] }] 1057 2 #[] #[])
  fields := #[]
  methods := #[k2m0]
  instanceTypes := #[]
  staticTypes := #[]
  resolved := Array.replicate 22 none
  statics := none }

def pool3 : Array CpInfo := pool [(1, .class_ 2), (0, u "com/example/parley/parley/LocalSearch$Message"), (0, .class_ 4), (0, u "java/lang/Object"), (3, .class_ 9), (0, u "com/example/parley/parley/LocalSearch")] 2

/-- com/example/parley/parley/LocalSearch$Message -/
def k3 : Class := { plain "com/example/parley/parley/LocalSearch$Message" (some 0) with
  accessFlags := 1536
  interfaces := #[]
  cf := some (fileOf pool3 1 #[.nestHost 8] #[] 1536 3 #[] #[])
  fields := #[]
  methods := #[]
  instanceTypes := #[]
  staticTypes := #[]
  resolved := Array.replicate 12 none
  statics := none }

def pool4 : Array CpInfo := pool [(1, .methodref 2 3), (0, .class_ 4), (0, .nameAndType 5 6), (0, u "java/lang/Record"), (0, u "<init>"), (0, u "()V"), (0, .fieldref 8 9), (0, .class_ 10), (0, .nameAndType 11 12), (0, u "com/example/parley/parley/LocalSearch$Gain"), (0, u "violations"), (0, u "J"), (0, .fieldref 8 14), (0, .nameAndType 15 16), (0, u "total"), (0, u "D"), (2, u "NONE"), (0, u "Lcom/example/parley/parley/LocalSearch$Gain;"), (2, u "isLargerThan"), (0, u "(Lcom/example/parley/parley/LocalSearch$Gain;)Z"), (8, u "(JD)V"), (12, .class_ 47), (0, u "com/example/parley/parley/LocalSearch$Message"), (17, .class_ 66), (0, u "com/example/parley/parley/LocalSearch")] 21

def k4c0 : Code := { maxStack := 3, maxLocals := 5, code := prog_27_method_1_code, exceptionTable := #[], attributes := #[] }
def k4m0 : Method := { name := "<init>", desc := "(JD)V", sig := { parameters := [.long, .double], returnType := none }, accessFlags := 0, code := some k4c0 }
def k4c1 : Code := { maxStack := 4, maxLocals := 2, code := prog_27_method_2_code, exceptionTable := #[], attributes := #[] }
def k4m1 : Method := { name := "isLargerThan", desc := "(Lcom/example/parley/parley/LocalSearch$Gain;)Z", sig := { parameters := [(.object "com/example/parley/parley/LocalSearch$Gain")], returnType := some .boolean }, accessFlags := 0, code := some k4c1 }
/-- com/example/parley/parley/LocalSearch$Gain -/
def k4 : Class := { plain "com/example/parley/parley/LocalSearch$Gain" (some 2) with
  accessFlags := 48
  interfaces := #[3]
  cf := some (fileOf pool4 8 #[.nestHost 65] #[{ accessFlags := 0, nameIndex := 5, descriptorIndex := 33, attributes := #[] }, { accessFlags := 0, nameIndex := 23, descriptorIndex := 24, attributes := #[] }] 48 2 #[46] #[{ accessFlags := 18, nameIndex := 11, descriptorIndex := 12, attributes := #[] }, { accessFlags := 18, nameIndex := 15, descriptorIndex := 16, attributes := #[] }, { accessFlags := 24, nameIndex := 19, descriptorIndex := 20, attributes := #[] }])
  fields := #[{ name := "violations", type := .long, accessFlags := 18, slot := 0, constantValue := 0 }, { name := "total", type := .double, accessFlags := 18, slot := 1, constantValue := 0 }, { name := "NONE", type := (.object "com/example/parley/parley/LocalSearch$Gain"), accessFlags := 24, slot := 0, constantValue := 0 }]
  methods := #[k4m0, k4m1]
  instanceTypes := #[.long, .double]
  staticTypes := #[(.object "com/example/parley/parley/LocalSearch$Gain")]
  resolved := Array.replicate 88 none
  statics := none }

def pool5 : Array CpInfo := pool [(1, u "java/lang/Cloneable"), (0, .class_ 1), (0, u "java/lang/Object"), (0, .class_ 3)] 3

/-- java/lang/Cloneable -/
def k5 : Class := { plain "java/lang/Cloneable" (some 0) with
  accessFlags := 1537
  interfaces := #[]
  cf := some (fileOf pool5 2 #[] #[] 1537 4 #[] #[])
  fields := #[]
  methods := #[]
  instanceTypes := #[]
  staticTypes := #[]
  resolved := Array.replicate 8 none
  statics := none }

def pool6 : Array CpInfo := pool [(1, u "java/io/Serializable"), (0, .class_ 1), (0, u "java/lang/Object"), (0, .class_ 3)] 3

/-- java/io/Serializable -/
def k6 : Class := { plain "java/io/Serializable" (some 0) with
  accessFlags := 1537
  interfaces := #[]
  cf := some (fileOf pool6 2 #[] #[] 1537 4 #[] #[])
  fields := #[]
  methods := #[]
  instanceTypes := #[]
  staticTypes := #[]
  resolved := Array.replicate 8 none
  statics := none }

/-- the primitive byte -/
def k7 : Class := { plain "byte" none with kind := .primitive 'B', accessFlags := 0x411 }
/-- [B -/
def k8 : Class := { plain "[B" (some 0) with kind := .array 7 .byte, interfaces := #[5, 6], accessFlags := 1041 }

/-- the primitive int -/
def k9 : Class := { plain "int" none with kind := .primitive 'I', accessFlags := 0x411 }
/-- [I -/
def k10 : Class := { plain "[I" (some 0) with kind := .array 9 .int, interfaces := #[5, 6], accessFlags := 1041 }

def heap : Heap := #[]
def classes : Array Class := #[k0, k1, k2, k3, k4, k5, k6, k7, k8, k9, k10]
def interned : List (Array UInt16 × Addr) := []
def slotsUsed : Nat := 0
def theMethod : MethodId := ⟨1, 2⟩
def args0 : Array Value := #[.long 1, .long 2, .int 3, .int 4, .int 5]
def aboutOver (below : List Frame) : State where
  vm := { classes := classes, interned := interned.toArray }
  heap := heap
  slotsUsed := slotsUsed
  threads := #[{ frames := .invoking theMethod args0 :: below }]
def below0 : List Frame := [.native { method := ⟨0, 0⟩, args := #[] }]
def about1 : State := aboutOver below0
def p0 : Program := .bare "" "" ""
def e0 : Env := launch0.env 0 0 0
theorem w_frames : about1.frames = Frame.invoking theMethod args0 :: below0 := rfl
set_option maxRecDepth 65536 in
theorem w_args : argsFit about1.vm theMethod args0 = true := by decide +kernel
set_option maxRecDepth 65536 in
theorem w_heap : heapFits about1 = true := by decide +kernel
set_option maxRecDepth 65536 in
theorem w_runnable : about1.curStatus? = some .runnable := by decide +kernel
set_option maxRecDepth 65536 in
theorem w_alone : about1.alone = true := by decide +kernel
set_option maxRecDepth 65536 in
theorem w_named : about1.methodNamed? x = some theMethod := by decide +kernel
set_option maxRecDepth 65536 in
theorem w_hears : about1.hears theMethod below0 = true := by decide +kernel
set_option maxRecDepth 65536 in
theorem w_ripe : about1.ripe theMethod args0 below0 = true := by decide +kernel
theorem w_running : about1.status = .running := rfl
set_option maxRecDepth 65536 in
theorem w_room : about1.hasRoom e0.platform room_1 = true :=
  launch0.hasRoom_least _ room_1 (by decide +kernel) (by decide +kernel) (by decide +kernel) (by decide +kernel) (by decide +kernel) (by decide +kernel)
theorem allAtoms_all (ts : List Jvm.Cond) (a : Array Jvm.Value) (st : Jvm.State) : (allAtoms ts).before a st = ts.all (fun c => c.before a st) := by
  induction ts with
  | nil => rfl
  | cons c t ih =>
    show (Jvm.Cond.and c (allAtoms t)).before a st = _
    rw [Jvm.Cond.before_and, ih, List.all_cons]
def words1 : List Jvm.Cond := Jvm.Cond.code x code maxLocals ret :: tables_1
/-- a 'code' word, met by the world's own term for the bytes: nothing is compared byte by byte -/
theorem code_word {y : MethodName} {bytes : ByteArray} {mx : Nat} {rt : Option FieldType} {a : Array Value} {s : State} {m : MethodId} {meth : Method} {c : Code} (h1 : s.methodNamed? y = some m) (h2 : s.vm.method? m = some meth) (h3 : meth.code = some c) (h4 : c.code = bytes)
    (h5 : (c.maxLocals == mx && c.exceptionTable.isEmpty && decide (c.maxStack ≤ mostOperands) && decide (meth.sig.returnType = rt) && !meth.locks && decide (parseMethodDescriptor y.desc = some meth.sig)) = true) : (Jvm.Cond.code y bytes mx rt).before a s = true := by
  simp only [Bool.and_eq_true, beq_iff_eq, Bool.not_eq_true', decide_eq_true_eq] at h5
  obtain ⟨⟨⟨⟨⟨g1, g2⟩, g3⟩, g4⟩, g5⟩, g6⟩ := h5
  simp [Cond.before, Cond.holds, Cond.value, h1, h2, h3, h4, g1, g2, g3, g4, g5, g6]
def isCode : Jvm.Cond → Bool
  | .code _ _ _ _ => true
  | _ => false
theorem all_split {L : List Jvm.Cond} {P : Jvm.Cond → Bool} (h1 : L.all (fun c => isCode c || P c) = true) (h2 : ∀ c ∈ L.filter isCode, P c = true) : L.all P = true := by
  refine List.all_eq_true.mpr fun c hc => ?_
  have h := List.all_eq_true.mp h1 c hc
  rcases Bool.eq_false_or_eq_true (isCode c) with hi | hi
  · exact h2 c (List.mem_filter.mpr ⟨hc, hi⟩)
  · simpa [hi] using h
set_option maxRecDepth 65536 in
theorem w_c0 : (Jvm.Cond.code x code maxLocals ret).before args0 about1 = true := code_word (m := ⟨1, 2⟩) (meth := k1m2) (c := k1c2) (by decide +kernel) rfl rfl rfl (by decide +kernel)
set_option maxRecDepth 65536 in
theorem w_c1 : (Jvm.Cond.code ({ cls := "com/example/parley/parley/LocalSearch$Gain", name := "<init>", desc := "(JD)V" } : Jvm.MethodName) prog_27_method_1_code (5 : Nat) (Option.none : Option Jvm.ClassFile.FieldType)).before args0 about1 = true := code_word (m := ⟨4, 0⟩) (meth := k4m0) (c := k4c0) (by decide +kernel) rfl rfl rfl (by decide +kernel)
set_option maxRecDepth 65536 in
theorem w_c2 : (Jvm.Cond.code ({ cls := "java/lang/Record", name := "<init>", desc := "()V" } : Jvm.MethodName) jdk_30_method_1_code (1 : Nat) (Option.none : Option Jvm.ClassFile.FieldType)).before args0 about1 = true := code_word (m := ⟨2, 0⟩) (meth := k2m0) (c := k2c0) (by decide +kernel) rfl rfl rfl (by decide +kernel)
set_option maxRecDepth 65536 in
theorem w_c3 : (Jvm.Cond.code ({ cls := "java/lang/Object", name := "<init>", desc := "()V" } : Jvm.MethodName) object_method_1_code (1 : Nat) (Option.none : Option Jvm.ClassFile.FieldType)).before args0 about1 = true := code_word (m := ⟨0, 0⟩) (meth := k0m0) (c := k0c0) (by decide +kernel) rfl rfl rfl (by decide +kernel)
set_option maxRecDepth 65536 in
theorem w_c4 : (Jvm.Cond.code ({ cls := "com/example/parley/parley/LocalSearch$Gain", name := "isLargerThan", desc := "(Lcom/example/parley/parley/LocalSearch$Gain;)Z" } : Jvm.MethodName) prog_27_method_2_code (2 : Nat) (Option.some Jvm.ClassFile.FieldType.boolean)).before args0 about1 = true := code_word (m := ⟨4, 1⟩) (meth := k4m1) (c := k4c1) (by decide +kernel) rfl rfl rfl (by decide +kernel)
set_option maxRecDepth 65536 in
theorem w_c5 : (Jvm.Cond.code ({ cls := "com/example/parley/parley/GainIsLargerThanPinLaw", name := "expected", desc := "(JDJD)Z" } : Jvm.MethodName) method_2_code (8 : Nat) (Option.some Jvm.ClassFile.FieldType.boolean)).before args0 about1 = true := code_word (m := ⟨1, 1⟩) (meth := k1m1) (c := k1c1) (by decide +kernel) rfl rfl rfl (by decide +kernel)
def codes1 : List Jvm.Cond := [Jvm.Cond.code x code maxLocals ret, Jvm.Cond.code ({ cls := "com/example/parley/parley/LocalSearch$Gain", name := "<init>", desc := "(JD)V" } : Jvm.MethodName) prog_27_method_1_code (5 : Nat) (Option.none : Option Jvm.ClassFile.FieldType), Jvm.Cond.code ({ cls := "java/lang/Record", name := "<init>", desc := "()V" } : Jvm.MethodName) jdk_30_method_1_code (1 : Nat) (Option.none : Option Jvm.ClassFile.FieldType), Jvm.Cond.code ({ cls := "java/lang/Object", name := "<init>", desc := "()V" } : Jvm.MethodName) object_method_1_code (1 : Nat) (Option.none : Option Jvm.ClassFile.FieldType), Jvm.Cond.code ({ cls := "com/example/parley/parley/LocalSearch$Gain", name := "isLargerThan", desc := "(Lcom/example/parley/parley/LocalSearch$Gain;)Z" } : Jvm.MethodName) prog_27_method_2_code (2 : Nat) (Option.some Jvm.ClassFile.FieldType.boolean), Jvm.Cond.code ({ cls := "com/example/parley/parley/GainIsLargerThanPinLaw", name := "expected", desc := "(JDJD)Z" } : Jvm.MethodName) method_2_code (8 : Nat) (Option.some Jvm.ClassFile.FieldType.boolean)]
set_option maxRecDepth 65536 in
theorem codes_eq : words1.filter isCode = codes1 := rfl
theorem w_codes : ∀ c ∈ words1.filter isCode, c.before args0 about1 = true := by
  rw [codes_eq]
  intro c hc
  simp only [codes1, List.mem_cons, List.not_mem_nil, or_false] at hc
  rcases hc with rfl | rfl | rfl | rfl | rfl | rfl
  · exact w_c0
  · exact w_c1
  · exact w_c2
  · exact w_c3
  · exact w_c4
  · exact w_c5
set_option maxRecDepth 65536 in
theorem w_t1 : (words1.take 24).all (fun c => isCode c || c.before args0 about1) = true := by decide +kernel
set_option maxRecDepth 65536 in
theorem w_t2 : (words1.drop 24).all (fun c => isCode c || c.before args0 about1) = true := by decide +kernel
theorem w_tables : (allAtoms (Jvm.Cond.code x code maxLocals ret :: tables_1)).before args0 about1 = true := by
  rw [allAtoms_all]
  show words1.all (fun c => c.before args0 about1) = true
  refine all_split ?_ w_codes
  rw [← List.take_append_drop 24 words1, List.all_append, w_t1, w_t2]
  rfl
set_option maxRecDepth 65536 in
theorem w_case : (Jvm.Cond.and given_1 narrow_1).before args0 about1 = true := by decide +kernel
theorem w_applies : (headSpec (Jvm.Cond.code x code maxLocals ret :: tables_1) room_1).applies x e0.platform about1 = true :=
  (Spec.applies_iff w_frames).mpr ⟨w_running, w_runnable, w_alone, w_named, w_hears, w_ripe, w_room, w_tables⟩
theorem atStart : AtStart classFile x code maxLocals ret World_1 tables_1 room_1 Calls_1 rest_1 Pre_1 launch0 p0 e0 about1 theMethod args0 below0 :=
  ⟨lists_1, trivial, launch0.admits_env _ _ _, launch0.least_env, fairChoices_fair.cas, fairChoices_fair.clock, w_frames, w_args, w_heap, w_applies, trivial, trivial, w_case⟩
end start1
theorem witness_1 : WitnessClaimed_1 := ⟨start1.p0, start1.e0, start1.about1, start1.theMethod, start1.args0, start1.below0, start1.atStart⟩
end Jvm.Pilot.@@N@@
