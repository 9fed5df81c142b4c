import JvmDerived
import JvmDerived.Pilot.@@N@@Statement
import JvmDerived.Pilot.@@N@@Code
set_option linter.unusedVariables false
set_option linter.unusedSimpArgs false
namespace Jvm.RoadKit
open Sem ClassFile Op Lib Jvm.Stand Jvm.Free Jvm.LawKit
section OwnWalk
variable {p : Program} {l : Launch} {e : Env} {R : Room} {s : State} {m : MethodId} {args : Array Value} {below : List Frame} {meth : Method} {c : Code} {T : State} {locs : List Loc} {cells slots : Nat}
/-- what a walk owes from a state on: it comes to an end as the contract says -/
def Goes (p : Program) (e : Env) (below : List Frame) (s : State) (Q : Option Value → Heap → List Loc → Prop) (cs ss : Nat) (st : State) : Prop :=
  ∃ s₂ o, Steps p.tables e below st s₂ ∧ s₂.status = .running ∧ Ended s₂ below o ∧ ∃ v L, o = .returned v ∧ Q v s₂.heap L ∧ FrameEnd s o s₂ L cs ss
theorem Goes.st {Q : Option Value → Heap → List Loc → Prop} {cs ss : Nat} {st st' : State} (h : ∀ t, Steps p.tables e below st' t → Steps p.tables e below st t) (g : Goes p e below s Q cs ss st') : Goes p e below s Q cs ss st := by
  obtain ⟨s2, o, h1, r⟩ := g
  exact ⟨s2, o, h _ h1, r⟩
theorem Goes.sts {Q : Option Value → Heap → List Loc → Prop} {cs ss : Nat} {st st' : State} (h : Steps p.tables e below st st') (g : Goes p e below s Q cs ss st') : Goes p e below s Q cs ss st := Goes.st (fun _ k => h.trans k) g
theorem Goes.fin {Q : Option Value → Heap → List Loc → Prop} {cs ss : Nat} (X : Stand p l e R s m args below meth c T locs cells slots) (hlk : meth.locks = false) {v : Option Value} (hv : meth.sig.returnType = none → v = none) {F : JFrame}
    (hst : ∀ fs, (∀ (f : JFrame) (acts : List Action), f.method = m → f.locked = none → f.entered = [] → (doReturn e (T.setTop f) acts v).1 = T.setFrames fs) → Steps p.tables e below (T.setTop F) (T.setFrames fs))
    (hq : Q v T.heap locs) (hc : cells ≤ cs) (hs : slots ≤ ss) : Goes p e below s Q cs ss (T.setTop F) := by
  obtain ⟨fs, hr, hrun, hended, hW, hsame⟩ := X.leave (v := v) hv hlk
  exact ⟨_, _, hst fs hr, hrun, hended, _, _, rfl, hq, ⟨_, rfl⟩, hW, hsame.mono hc hs⟩
theorem Goes.retN {Q : Option Value → Heap → List Loc → Prop} {cs ss : Nat} (X : Stand p l e R s m args below meth c T locs cells slots) (hx : p.tables.exec = Jvm.exec) (hlk : meth.locks = false) {t : FieldType} (hret : meth.sig.returnType = some t) (ht : t = .boolean ∨ t = .byte ∨ t = .char ∨ t = .short) {pc : Nat} {Ls : Array Slot} {z : Int32} {rest : List Value}
    (hd : decode c.code pc = .ok (.ireturn, 1)) (hn : nar t z = z) (hq : Q (some (.int z)) T.heap locs) (hc : cells ≤ cs) (hs : slots ≤ ss) : Goes p e below s Q cs ss (T.setTop (mkF m pc Ls (.int z :: rest))) :=
  Goes.fin X hlk (v := some (.int z)) (fun h => by rw [hret] at h; cases h) (fun fs hr => RoadKit.retN X hx hret ht hd (by rw [hn]; exact hr)) hq hc hs
theorem Goes.retW {Q : Option Value → Heap → List Loc → Prop} {cs ss : Nat} (X : Stand p l e R s m args below meth c T locs cells slots) (hx : p.tables.exec = Jvm.exec) (hlk : meth.locks = false) {t : FieldType} (hret : meth.sig.returnType = some t) {pc : Nat} {Ls : Array Slot} {w : Value} {i : Instr} {rest : List Value} (hn : narrow t w = w)
    (hi : (i = .ireturn ∧ (t = .int ∨ t = .boolean ∨ t = .byte ∨ t = .char ∨ t = .short) ∧ ∃ z, w = .int z) ∨ (i = .lreturn ∧ t = .long ∧ ∃ z, w = .long z) ∨ (i = .dreturn ∧ t = .double ∧ ∃ z, w = .double z) ∨ (i = .freturn ∧ t = .float ∧ ∃ z, w = .float z) ∨ (i = .areturn ∧ t.isReference = true ∧ w.isRef = true))
    (hd : decode c.code pc = .ok (i, 1)) (hq : Q (some w) T.heap locs) (hc : cells ≤ cs) (hs : slots ≤ ss) : Goes p e below s Q cs ss (T.setTop (mkF m pc Ls (w :: rest))) :=
  Goes.fin X hlk (v := some w) (fun h => by rw [hret] at h; cases h) (fun fs hr => RoadKit.retOut X hx hret hn hi hd hr) hq hc hs
theorem Goes.retI {Q : Option Value → Heap → List Loc → Prop} {cs ss : Nat} (X : Stand p l e R s m args below meth c T locs cells slots) (hx : p.tables.exec = Jvm.exec) (hlk : meth.locks = false) (hret : meth.sig.returnType = some .int) {pc : Nat} {Ls : Array Slot} {z : Int32} {rest : List Value}
    (hd : decode c.code pc = .ok (.ireturn, 1)) (hq : Q (some (.int z)) T.heap locs) (hc : cells ≤ cs) (hs : slots ≤ ss) : Goes p e below s Q cs ss (T.setTop (mkF m pc Ls (.int z :: rest))) :=
  Goes.retW X hx hlk hret rfl (Or.inl ⟨rfl, Or.inl rfl, _, rfl⟩) hd hq hc hs
theorem Goes.retL {Q : Option Value → Heap → List Loc → Prop} {cs ss : Nat} (X : Stand p l e R s m args below meth c T locs cells slots) (hx : p.tables.exec = Jvm.exec) (hlk : meth.locks = false) (hret : meth.sig.returnType = some .long) {pc : Nat} {Ls : Array Slot} {z : Int64} {rest : List Value}
    (hd : decode c.code pc = .ok (.lreturn, 1)) (hq : Q (some (.long z)) T.heap locs) (hc : cells ≤ cs) (hs : slots ≤ ss) : Goes p e below s Q cs ss (T.setTop (mkF m pc Ls (.long z :: rest))) :=
  Goes.retW X hx hlk hret rfl (Or.inr (Or.inl ⟨rfl, rfl, _, rfl⟩)) hd hq hc hs
theorem Goes.retD {Q : Option Value → Heap → List Loc → Prop} {cs ss : Nat} (X : Stand p l e R s m args below meth c T locs cells slots) (hx : p.tables.exec = Jvm.exec) (hlk : meth.locks = false) (hret : meth.sig.returnType = some .double) {pc : Nat} {Ls : Array Slot} {z : UInt64} {rest : List Value}
    (hd : decode c.code pc = .ok (.dreturn, 1)) (hq : Q (some (.double z)) T.heap locs) (hc : cells ≤ cs) (hs : slots ≤ ss) : Goes p e below s Q cs ss (T.setTop (mkF m pc Ls (.double z :: rest))) :=
  Goes.retW X hx hlk hret rfl (Or.inr (Or.inr (Or.inl ⟨rfl, rfl, _, rfl⟩))) hd hq hc hs
theorem Goes.retA {Q : Option Value → Heap → List Loc → Prop} {cs ss : Nat} (X : Stand p l e R s m args below meth c T locs cells slots) (hx : p.tables.exec = Jvm.exec) (hlk : meth.locks = false) {t : FieldType} (hret : meth.sig.returnType = some t) (ht : t.isReference = true) {pc : Nat} {Ls : Array Slot} {w : Value} {rest : List Value} (hn : narrow t w = w) (hw : w.isRef = true)
    (hd : decode c.code pc = .ok (.areturn, 1)) (hq : Q (some w) T.heap locs) (hc : cells ≤ cs) (hs : slots ≤ ss) : Goes p e below s Q cs ss (T.setTop (mkF m pc Ls (w :: rest))) :=
  Goes.retW X hx hlk hret hn (Or.inr (Or.inr (Or.inr (Or.inr ⟨rfl, ht, hw⟩)))) hd hq hc hs
theorem Goes.retV {Q : Option Value → Heap → List Loc → Prop} {cs ss : Nat} (X : Stand p l e R s m args below meth c T locs cells slots) (hx : p.tables.exec = Jvm.exec) (hlk : meth.locks = false) (hret : meth.sig.returnType = none) {pc : Nat} {Ls : Array Slot}
    (hd : decode c.code pc = .ok (.return_, 1)) (hq : Q none T.heap locs) (hc : cells ≤ cs) (hs : slots ≤ ss) : Goes p e below s Q cs ss (T.setTop (mkF m pc Ls [])) :=
  Goes.fin X hlk (v := none) (fun _ => rfl) (fun fs hr => X.returnOut hx hret hd hr) hq hc hs
end OwnWalk
end Jvm.RoadKit
namespace Jvm.Pilot.@@N@@
open Jvm Jvm.ClassFile Sem Op Lib Jvm.Free Jvm.Stand Jvm.LawKit Jvm.RoadKit Bundle Jvm.Free.Fl Jvm.Pilot.@@N@@.Jvm.D
/-- what cheaperThan says -/
def chp (da db : UInt64) (pa pb : Int64) : Int32 := if cmpValue (FP.dcmp da db) .g < (0 : Int32) then 1 else if cmpValue (FP.dcmp da db) .l = (0 : Int32) then (if pb < pa then 1 else 0) else 0
/-- what reference says -/
def rfc (a : Int32) (pa : Int64) (b : Int32) (pb : Int64) : Int32 := if a = b then (if pb < pa then 1 else 0) else (if a < b then 1 else 0)
theorem own_small (a : Int32) : B53 a.toInt64 := by
  have h1 := rng32 a
  constructor <;> rw [c_i2l] <;> omega
theorem own_cmp (a b : Int32) (o : CmpOp) : cmpValue (FP.dcmp (FP.i2d a) (FP.i2d b)) o = lcmpW a.toInt64 b.toInt64 := by
  rw [i2d_w, i2d_w]; exact dcmpV_w (own_small a) (own_small b) o
theorem own_lt64 (a b : Int32) : a.toInt64 < b.toInt64 ↔ a < b := by
  rw [Int64.lt_iff_toInt_lt, Int32.lt_iff_toInt_lt, c_i2l, c_i2l]
theorem own_eq64 (a b : Int32) : a.toInt64 = b.toInt64 ↔ a = b := by
  rw [← Int64.toInt_inj, ← Int32.toInt_inj, c_i2l, c_i2l]
theorem own_same (a b : Int32) (pa pb : Int64) : chp (FP.i2d a) (FP.i2d b) pa pb = rfc a pa b pb := by
  simp only [chp, rfc, own_cmp, lw_lt, lw_eq, own_lt64, own_eq64]
  by_cases h1 : a = b
  · subst h1
    have h2 : ¬ a < a := by rw [Int32.lt_iff_toInt_lt]; omega
    simp [h2]
  · simp [h1]
theorem own_self (a : Int32) (pa : Int64) : rfc a pa a pa = 0 := by
  have h2 : ¬ pa < pa := by rw [Int64.lt_iff_toInt_lt]; omega
  simp [rfc, h2]
theorem d_jdk_30_method_1_0 : decode jdk_30_method_1_code 0 = .ok (.aload_n 0, 1) := by decide +kernel
theorem d_jdk_30_method_1_1 : decode jdk_30_method_1_code 1 = .ok (.invokespecial 1, 3) := by decide +kernel
theorem d_jdk_30_method_1_4 : decode jdk_30_method_1_code 4 = .ok (.return_, 1) := by decide +kernel
theorem pn_java_lang_Record : plainName "java/lang/Record" = true := by first | (simp [plainName, overriddenIn]; done) | decide +kernel
theorem ef_Rec (m : MethodId) (x0 : Addr) : entryFrame m #[(.ref x0)] 1 = mkF m 0 #[.val (.ref x0)] [] := by first | (simp [entryFrame, mkF, argsToLocals, Value.category]; done) | rfl
def QRec (Z : State) (a : Addr) (h0 : Heap) (n0 : Nat) (v : Option Value) (h : Heap) (L : List Loc) : Prop := v = none ∧ Fr n0 L ∧ h = h0
set_option maxRecDepth 65536 in
set_option maxHeartbeats 40000000 in
theorem rmRec (l : Launch) (Z : State) (a0 : Array Value) (hw : ∀ d ∈ tables_1, d.before a0 Z = true) (ws : List Jvm.Cond) (a : Addr) (h0 : Heap) (n0 : Nat) (Z0 : n0 ≤ h0.size)  :
    MetFree l (⟨"java/lang/Record", "<init>", "()V"⟩ : MethodName) (head1 (Jvm.Cond.code (⟨"java/lang/Record", "<init>", "()V"⟩ : MethodName) jdk_30_method_1_code 1 none :: ws) ({ frames := 1, cells := 0, slots := 0, locals := 12 } : Room)) (fun aa U => aa = #[(.ref a)] ∧ Z.Warmed39 U.vm ∧ U.heap = h0) (fun _ _ _ _ _ => True) (fun _ U o U' => ∃ v L, o = .returned v ∧ QRec Z a h0 n0 v U'.heap L ∧ FrameEnd U o U' L ({ frames := 1, cells := 0, slots := 0, locals := 12 } : Room).cells ({ frames := 1, cells := 0, slots := 0, locals := 12 } : Room).slots) := by
  refine MetFree.of_bodySF (plainFor_of_name pn_java_lang_Record) hisR ?_
  intro p e s m args below meth c s₁ Bd hml0 hP hK
  obtain ⟨rfl, hZ, hh⟩ := hP
  have hx := Bd.exec
  have hby := Bd.bytes
  have hlk := BodyLoose.notSynchronized Bd
  have hret := Bd.returns
  have hml : c.maxLocals = 1 := hml0
  have hown : s.vm.findClass "java/lang/Record" = some m.cls := findClass_of_methodNamed Bd.named
  have hnm := (name_of_methodNamed Bd.named Bd.method).1
  have X0 : Stand p l e ({ frames := 1, cells := 0, slots := 0, locals := 12 } : Room) s m #[(.ref a)] below meth c s₁ [] 0 0 := Stand.of_body Bd
  have e0 : s₁.heap = h0 := by rw [← hh, Bd.state]; rfl
  have N0 := Fr.nil n0
  refine Goes.st (s := s) (Q := QRec Z a h0 n0) (cs := ({ frames := 1, cells := 0, slots := 0, locals := 12 } : Room).cells) (ss := ({ frames := 1, cells := 0, slots := 0, locals := 12 } : Room).slots) (fun t k => castTop (ef_Rec m a) k) ?_
  show Goes p e below s _ _ _ (s₁.setTop (mkF m 0 #[.val (.ref a)] []))
  refine Goes.st (fun t k => XS.aloadN X0.here hx rfl (hb hby d_jdk_30_method_1_0) rfl rfl k) ?_
  show Goes p e below s _ _ _ (s₁.setTop (mkF m 1 #[.val (.ref a)] [(.ref a)]))
  obtain ⟨T1, X1, e1, st1⟩ := initO X0 hx hZ hown (hw _ (List.mem_of_getElem? (i := 12) rfl)) (hw _ (List.mem_of_getElem? (i := 13) rfl)) (hw _ (List.mem_of_getElem? (i := 14) rfl)) e0 (g := (mkF m 1 #[.val (.ref a)] [(.ref a)])) rfl (by rw [hml]; rfl) rfl (hb hby d_jdk_30_method_1_1) (by decide) (W := 0) (by show 2 * 0 + _ ≤ _; exact Nat.le_of_eq rfl) (by decide)
  refine Goes.st st1 ?_
  show Goes p e below s _ _ _ (T1.setTop (mkF m 4 #[.val (.ref a)] []))
  refine Goes.retV X1 hx hlk hret (hb hby d_jdk_30_method_1_4) ?_ (by decide) (by decide)
  rw [e1]
  exact ⟨rfl, N0, rfl⟩
theorem d_prog_97_method_1_0 : decode prog_97_method_1_code 0 = .ok (.aload_n 0, 1) := by decide +kernel
theorem d_prog_97_method_1_1 : decode prog_97_method_1_code 1 = .ok (.invokespecial 1, 3) := by decide +kernel
theorem d_prog_97_method_1_4 : decode prog_97_method_1_code 4 = .ok (.aload_n 0, 1) := by decide +kernel
theorem d_prog_97_method_1_5 : decode prog_97_method_1_code 5 = .ok (.aload_n 1, 1) := by decide +kernel
theorem d_prog_97_method_1_6 : decode prog_97_method_1_code 6 = .ok (.putfield 7, 3) := by decide +kernel
theorem d_prog_97_method_1_9 : decode prog_97_method_1_code 9 = .ok (.aload_n 0, 1) := by decide +kernel
theorem d_prog_97_method_1_10 : decode prog_97_method_1_code 10 = .ok (.aload_n 2, 1) := by decide +kernel
theorem d_prog_97_method_1_11 : decode prog_97_method_1_code 11 = .ok (.putfield 13, 3) := by decide +kernel
theorem d_prog_97_method_1_14 : decode prog_97_method_1_code 14 = .ok (.aload_n 0, 1) := by decide +kernel
theorem d_prog_97_method_1_15 : decode prog_97_method_1_code 15 = .ok (.dload_n 3, 1) := by decide +kernel
theorem d_prog_97_method_1_16 : decode prog_97_method_1_code 16 = .ok (.putfield 16, 3) := by decide +kernel
theorem d_prog_97_method_1_19 : decode prog_97_method_1_code 19 = .ok (.aload_n 0, 1) := by decide +kernel
theorem d_prog_97_method_1_20 : decode prog_97_method_1_code 20 = .ok (.dload 5, 2) := by decide +kernel
theorem d_prog_97_method_1_22 : decode prog_97_method_1_code 22 = .ok (.putfield 20, 3) := by decide +kernel
theorem d_prog_97_method_1_25 : decode prog_97_method_1_code 25 = .ok (.aload_n 0, 1) := by decide +kernel
theorem d_prog_97_method_1_26 : decode prog_97_method_1_code 26 = .ok (.lload 7, 2) := by decide +kernel
theorem d_prog_97_method_1_28 : decode prog_97_method_1_code 28 = .ok (.putfield 23, 3) := by decide +kernel
theorem d_prog_97_method_1_31 : decode prog_97_method_1_code 31 = .ok (.return_, 1) := by decide +kernel
theorem pn_com_example_redoubt_redoubt_policies_AttemptCounts_Runs : plainName "com/example/redoubt/redoubt/policies/AttemptCounts$Runs" = true := by first | (simp [plainName, overriddenIn]; done) | decide +kernel
theorem pd___V_566 : parseMethodDescriptor "()V" = some ⟨[], none⟩ := by decide +kernel
theorem ef_C (m : MethodId) (x0 : Addr) (x1 : Addr) (x2 : Addr) (x3 : UInt64) (x4 : UInt64) (x5 : Int64) : entryFrame m #[(.ref x0), (.ref x1), (.ref x2), (.double x3), (.double x4), (.long x5)] 9 = mkF m 0 #[.val (.ref x0), .val (.ref x1), .val (.ref x2), .val (.double x3), .second, .val (.double x4), .second, .val (.long x5), .second] [] := by first | (simp [entryFrame, mkF, argsToLocals, Value.category]; done) | rfl
def QC (Z : State) (a : Addr) (rp ra : Addr) (dt da : UInt64) (pp : Int64) (u0 u1 u2 u3 u4 : Value) (h0 : Heap) (n0 : Nat) (v : Option Value) (h : Heap) (L : List Loc) : Prop := v = none ∧ Fr n0 L ∧ Keep h0 h [a] ∧ Fld Z h a "com/example/redoubt/redoubt/policies/AttemptCounts$Runs" "procs" "[I" (.ref rp) ∧ Fld Z h a "com/example/redoubt/redoubt/policies/AttemptCounts$Runs" "attempts" "[I" (.ref ra) ∧ Fld Z h a "com/example/redoubt/redoubt/policies/AttemptCounts$Runs" "time" "D" (.double dt) ∧ Fld Z h a "com/example/redoubt/redoubt/policies/AttemptCounts$Runs" "area" "D" (.double da) ∧ Fld Z h a "com/example/redoubt/redoubt/policies/AttemptCounts$Runs" "processors" "J" (.long pp)
set_option maxRecDepth 65536 in
set_option maxHeartbeats 40000000 in
theorem rmC (l : Launch) (Z : State) (a0 : Array Value) (hw : ∀ d ∈ tables_1, d.before a0 Z = true) (ws : List Jvm.Cond) (a : Addr) (rp ra : Addr) (dt da : UInt64) (pp : Int64) (u0 u1 u2 u3 u4 : Value) (h0 : Heap) (n0 : Nat) (Z0 : n0 ≤ h0.size) (Ea : Exa Z h0 a "com/example/redoubt/redoubt/policies/AttemptCounts$Runs") (ga : n0 ≤ a) (Fprocs : Fld Z h0 a "com/example/redoubt/redoubt/policies/AttemptCounts$Runs" "procs" "[I" u0) (Fattempts : Fld Z h0 a "com/example/redoubt/redoubt/policies/AttemptCounts$Runs" "attempts" "[I" u1) (Ftime : Fld Z h0 a "com/example/redoubt/redoubt/policies/AttemptCounts$Runs" "time" "D" u2) (Farea : Fld Z h0 a "com/example/redoubt/redoubt/policies/AttemptCounts$Runs" "area" "D" u3) (Fprocessors : Fld Z h0 a "com/example/redoubt/redoubt/policies/AttemptCounts$Runs" "processors" "J" u4) :
    MetFree l (⟨"com/example/redoubt/redoubt/policies/AttemptCounts$Runs", "<init>", "([I[IDDJ)V"⟩ : MethodName) (head1 (Jvm.Cond.code (⟨"com/example/redoubt/redoubt/policies/AttemptCounts$Runs", "<init>", "([I[IDDJ)V"⟩ : MethodName) prog_97_method_1_code 9 none :: ws) ({ frames := 2, cells := 0, slots := 0, locals := 24 } : Room)) (fun aa U => aa = #[(.ref a), (.ref rp), (.ref ra), (.double dt), (.double da), (.long pp)] ∧ Z.Warmed39 U.vm ∧ U.heap = h0) (fun _ _ _ _ _ => True) (fun _ U o U' => ∃ v L, o = .returned v ∧ QC Z a rp ra dt da pp u0 u1 u2 u3 u4 h0 n0 v U'.heap L ∧ FrameEnd U o U' L ({ frames := 2, cells := 0, slots := 0, locals := 24 } : Room).cells ({ frames := 2, cells := 0, slots := 0, locals := 24 } : Room).slots) := by
  refine MetFree.of_bodySF (plainFor_of_name pn_com_example_redoubt_redoubt_policies_AttemptCounts_Runs) hisR ?_
  intro p e s m args below meth c s₁ Bd hml0 hP hK
  obtain ⟨rfl, hZ, hh⟩ := hP
  have hx := Bd.exec
  have hby := Bd.bytes
  have hlk := BodyLoose.notSynchronized Bd
  have hret := Bd.returns
  have hml : c.maxLocals = 9 := hml0
  have hown : s.vm.findClass "com/example/redoubt/redoubt/policies/AttemptCounts$Runs" = some m.cls := findClass_of_methodNamed Bd.named
  have hnm := (name_of_methodNamed Bd.named Bd.method).1
  have X0 : Stand p l e ({ frames := 2, cells := 0, slots := 0, locals := 24 } : Room) s m #[(.ref a), (.ref rp), (.ref ra), (.double dt), (.double da), (.long pp)] below meth c s₁ [] 0 0 := Stand.of_body Bd
  have e0 : s₁.heap = h0 := by rw [← hh, Bd.state]; rfl
  have N0 := Fr.nil n0
  refine Goes.st (s := s) (Q := QC Z a rp ra dt da pp u0 u1 u2 u3 u4 h0 n0) (cs := ({ frames := 2, cells := 0, slots := 0, locals := 24 } : Room).cells) (ss := ({ frames := 2, cells := 0, slots := 0, locals := 24 } : Room).slots) (fun t k => castTop (ef_C m a rp ra dt da pp) k) ?_
  have K0 : Keep h0 h0 [a] := Keep.refl _ _
  show Goes p e below s _ _ _ (s₁.setTop (mkF m 0 #[.val (.ref a), .val (.ref rp), .val (.ref ra), .val (.double dt), .second, .val (.double da), .second, .val (.long pp), .second] []))
  refine Goes.st (fun t k => XS.aloadN X0.here hx rfl (hb hby d_prog_97_method_1_0) rfl rfl k) ?_
  show Goes p e below s _ _ _ (s₁.setTop (mkF m 1 #[.val (.ref a), .val (.ref rp), .val (.ref ra), .val (.double dt), .second, .val (.double da), .second, .val (.long pp), .second] [(.ref a)]))
  obtain ⟨_, _, ⟨T1, L1, k1, n1⟩, -, X1, ⟨Lc1, hQ1, l1, y1, z1⟩, st1⟩ := X0.specialBack hx (y := (⟨"java/lang/Record", "<init>", "()V"⟩ : MethodName)) rfl hown (mvT hZ (hw _ (List.mem_of_getElem? (i := 7) rfl))) (mvT hZ (hw _ (List.mem_of_getElem? (i := 8) rfl))) (mvT hZ (hw _ (List.mem_of_getElem? (i := 11) rfl))) (by decide) (backOf (W := 0) (rmRec l Z a0 hw [] a h0 n0 Z0 ) hZ (hw _ (List.mem_of_getElem? (i := 11) rfl)) (hw _ (List.mem_of_getElem? (i := 10) rfl)) (by decide) (by decide)) (g := (mkF m 1 #[.val (.ref a), .val (.ref rp), .val (.ref ra), .val (.double dt), .second, .val (.double da), .second, .val (.long pp), .second] [(.ref a)])) rfl (by rw [hml]; rfl) (Steps.refl _) (a := a) (argsL := []) (rest := []) (lenOf pd___V_566 rfl) rfl (by show 2 * 0 + _ ≤ _; exact Nat.le_of_eq rfl) (hb hby d_prog_97_method_1_1) (fun _ _ => ⟨rfl, e0, (by decide : 0 + 0 ≤ 0), (by decide : 0 + 0 ≤ 0)⟩)
  dsimp only [Pt.U, Pt.locs, Pt.cells, Pt.slots] at X1 l1 y1 z1 st1 hQ1
  subst l1 y1 z1
  obtain ⟨rfl, N1q, eh1⟩ := hQ1
  have N1 := Fr.app N0 N1q
  refine Goes.sts st1 ?_
  show Goes p e below s _ _ _ (T1.setTop (mkF m 4 #[.val (.ref a), .val (.ref rp), .val (.ref ra), .val (.double dt), .second, .val (.double da), .second, .val (.long pp), .second] []))
  refine Goes.st (fun t k => XS.aloadN X1.here hx rfl (hb hby d_prog_97_method_1_4) rfl rfl k) ?_
  show Goes p e below s _ _ _ (T1.setTop (mkF m 5 #[.val (.ref a), .val (.ref rp), .val (.ref ra), .val (.double dt), .second, .val (.double da), .second, .val (.long pp), .second] [(.ref a)]))
  refine Goes.st (fun t k => XS.aloadN X1.here hx rfl (hb hby d_prog_97_method_1_5) rfl rfl k) ?_
  show Goes p e below s _ _ _ (T1.setTop (mkF m 6 #[.val (.ref a), .val (.ref rp), .val (.ref ra), .val (.double dt), .second, .val (.double da), .second, .val (.long pp), .second] [(.ref rp), (.ref a)]))
  obtain ⟨T2, h2, X2, e2, W2, st2⟩ := putF X1 hx hZ hown (host := "") (Or.inl (hw _ (List.mem_of_getElem? (i := 15) rfl))) Via.refl eh1 Fprocs Ea (Or.inr ⟨(hw _ (List.mem_of_getElem? (i := 16) rfl)), rfl, hnm⟩) (hw _ (List.mem_of_getElem? (i := 1) rfl)) (ty := (.array .int)) (by decide) rfl rfl (g := (mkF m 6 #[.val (.ref a), .val (.ref rp), .val (.ref ra), .val (.double dt), .second, .val (.double da), .second, .val (.long pp), .second] [(.ref rp), (.ref a)])) rfl rfl (hb hby d_prog_97_method_1_6)
  have N2 := Fr.snoc X2 N1 ga
  have G2 := Fprocs.same W2
  refine Goes.st st2 ?_
  have KK3 := K0.wr W2 (Or.inl (List.mem_of_getElem? (i := 0) rfl))
  have Z2 : n0 ≤ h2.size := by have := W2.size; have := Z0; omega
  show Goes p e below s _ _ _ (T2.setTop (mkF m 9 #[.val (.ref a), .val (.ref rp), .val (.ref ra), .val (.double dt), .second, .val (.double da), .second, .val (.long pp), .second] []))
  refine Goes.st (fun t k => XS.aloadN X2.here hx rfl (hb hby d_prog_97_method_1_9) rfl rfl k) ?_
  show Goes p e below s _ _ _ (T2.setTop (mkF m 10 #[.val (.ref a), .val (.ref rp), .val (.ref ra), .val (.double dt), .second, .val (.double da), .second, .val (.long pp), .second] [(.ref a)]))
  refine Goes.st (fun t k => XS.aloadN X2.here hx rfl (hb hby d_prog_97_method_1_10) rfl rfl k) ?_
  show Goes p e below s _ _ _ (T2.setTop (mkF m 11 #[.val (.ref a), .val (.ref rp), .val (.ref ra), .val (.double dt), .second, .val (.double da), .second, .val (.long pp), .second] [(.ref ra), (.ref a)]))
  have f5 := (Fattempts.other W2 (Or.inr (slot_ne (Or.inr (hw _ (List.mem_of_getElem? (i := 18) rfl))) (Or.inr (hw _ (List.mem_of_getElem? (i := 16) rfl))) (by decide) (t := (.array .int)) (t' := (.array .int)) (by decide) (by decide))))
  have f6 := (Ea.wr W2)
  obtain ⟨T4, h4, X4, e4, W4, st4⟩ := putF X2 hx hZ hown (host := "") (Or.inl (hw _ (List.mem_of_getElem? (i := 17) rfl))) Via.refl e2 f5 f6 (Or.inr ⟨(hw _ (List.mem_of_getElem? (i := 18) rfl)), rfl, hnm⟩) (hw _ (List.mem_of_getElem? (i := 1) rfl)) (ty := (.array .int)) (by decide) rfl rfl (g := (mkF m 11 #[.val (.ref a), .val (.ref rp), .val (.ref ra), .val (.double dt), .second, .val (.double da), .second, .val (.long pp), .second] [(.ref ra), (.ref a)])) rfl rfl (hb hby d_prog_97_method_1_11)
  have N4 := Fr.snoc X4 N2 ga
  have G4 := f5.same W4
  refine Goes.st st4 ?_
  have KK7 := KK3.wr W4 (Or.inl (List.mem_of_getElem? (i := 0) rfl))
  have Z4 : n0 ≤ h4.size := by have := W4.size; have := Z2; omega
  show Goes p e below s _ _ _ (T4.setTop (mkF m 14 #[.val (.ref a), .val (.ref rp), .val (.ref ra), .val (.double dt), .second, .val (.double da), .second, .val (.long pp), .second] []))
  refine Goes.st (fun t k => XS.aloadN X4.here hx rfl (hb hby d_prog_97_method_1_14) rfl rfl k) ?_
  show Goes p e below s _ _ _ (T4.setTop (mkF m 15 #[.val (.ref a), .val (.ref rp), .val (.ref ra), .val (.double dt), .second, .val (.double da), .second, .val (.long pp), .second] [(.ref a)]))
  refine Goes.st (fun t k => XS.dloadN X4.here hx rfl (hb hby d_prog_97_method_1_15) rfl k) ?_
  show Goes p e below s _ _ _ (T4.setTop (mkF m 16 #[.val (.ref a), .val (.ref rp), .val (.ref ra), .val (.double dt), .second, .val (.double da), .second, .val (.long pp), .second] [(.double dt), (.ref a)]))
  have f9 := ((Ftime.other W2 (Or.inr (slot_ne (Or.inr (hw _ (List.mem_of_getElem? (i := 20) rfl))) (Or.inr (hw _ (List.mem_of_getElem? (i := 16) rfl))) (by decide) (t := .double) (t' := (.array .int)) (by decide) (by decide)))).other W4 (Or.inr (slot_ne (Or.inr (hw _ (List.mem_of_getElem? (i := 20) rfl))) (Or.inr (hw _ (List.mem_of_getElem? (i := 18) rfl))) (by decide) (t := .double) (t' := (.array .int)) (by decide) (by decide))))
  have f10 := (f6.wr W4)
  obtain ⟨T8, h8, X8, e8, W8, st8⟩ := putF X4 hx hZ hown (host := "") (Or.inl (hw _ (List.mem_of_getElem? (i := 19) rfl))) Via.refl e4 f9 f10 (Or.inr ⟨(hw _ (List.mem_of_getElem? (i := 20) rfl)), rfl, hnm⟩) (hw _ (List.mem_of_getElem? (i := 1) rfl)) (ty := .double) (by decide) rfl rfl (g := (mkF m 16 #[.val (.ref a), .val (.ref rp), .val (.ref ra), .val (.double dt), .second, .val (.double da), .second, .val (.long pp), .second] [(.double dt), (.ref a)])) rfl rfl (hb hby d_prog_97_method_1_16)
  have N8 := Fr.snoc X8 N4 ga
  have G8 := f9.same W8
  refine Goes.st st8 ?_
  have KK11 := KK7.wr W8 (Or.inl (List.mem_of_getElem? (i := 0) rfl))
  have Z8 : n0 ≤ h8.size := by have := W8.size; have := Z4; omega
  show Goes p e below s _ _ _ (T8.setTop (mkF m 19 #[.val (.ref a), .val (.ref rp), .val (.ref ra), .val (.double dt), .second, .val (.double da), .second, .val (.long pp), .second] []))
  refine Goes.st (fun t k => XS.aloadN X8.here hx rfl (hb hby d_prog_97_method_1_19) rfl rfl k) ?_
  show Goes p e below s _ _ _ (T8.setTop (mkF m 20 #[.val (.ref a), .val (.ref rp), .val (.ref ra), .val (.double dt), .second, .val (.double da), .second, .val (.long pp), .second] [(.ref a)]))
  refine Goes.st (fun t k => XS.dload X8.here hx rfl (hb hby d_prog_97_method_1_20) rfl k) ?_
  show Goes p e below s _ _ _ (T8.setTop (mkF m 22 #[.val (.ref a), .val (.ref rp), .val (.ref ra), .val (.double dt), .second, .val (.double da), .second, .val (.long pp), .second] [(.double da), (.ref a)]))
  have f13 := (((Farea.other W2 (Or.inr (slot_ne (Or.inr (hw _ (List.mem_of_getElem? (i := 22) rfl))) (Or.inr (hw _ (List.mem_of_getElem? (i := 16) rfl))) (by decide) (t := .double) (t' := (.array .int)) (by decide) (by decide)))).other W4 (Or.inr (slot_ne (Or.inr (hw _ (List.mem_of_getElem? (i := 22) rfl))) (Or.inr (hw _ (List.mem_of_getElem? (i := 18) rfl))) (by decide) (t := .double) (t' := (.array .int)) (by decide) (by decide)))).other W8 (Or.inr (slot_ne (Or.inr (hw _ (List.mem_of_getElem? (i := 22) rfl))) (Or.inr (hw _ (List.mem_of_getElem? (i := 20) rfl))) (by decide) (t := .double) (t' := .double) (by decide) (by decide))))
  have f14 := (f10.wr W8)
  obtain ⟨T12, h12, X12, e12, W12, st12⟩ := putF X8 hx hZ hown (host := "") (Or.inl (hw _ (List.mem_of_getElem? (i := 21) rfl))) Via.refl e8 f13 f14 (Or.inr ⟨(hw _ (List.mem_of_getElem? (i := 22) rfl)), rfl, hnm⟩) (hw _ (List.mem_of_getElem? (i := 1) rfl)) (ty := .double) (by decide) rfl rfl (g := (mkF m 22 #[.val (.ref a), .val (.ref rp), .val (.ref ra), .val (.double dt), .second, .val (.double da), .second, .val (.long pp), .second] [(.double da), (.ref a)])) rfl rfl (hb hby d_prog_97_method_1_22)
  have N12 := Fr.snoc X12 N8 ga
  have G12 := f13.same W12
  refine Goes.st st12 ?_
  have KK15 := KK11.wr W12 (Or.inl (List.mem_of_getElem? (i := 0) rfl))
  have Z12 : n0 ≤ h12.size := by have := W12.size; have := Z8; omega
  show Goes p e below s _ _ _ (T12.setTop (mkF m 25 #[.val (.ref a), .val (.ref rp), .val (.ref ra), .val (.double dt), .second, .val (.double da), .second, .val (.long pp), .second] []))
  refine Goes.st (fun t k => XS.aloadN X12.here hx rfl (hb hby d_prog_97_method_1_25) rfl rfl k) ?_
  show Goes p e below s _ _ _ (T12.setTop (mkF m 26 #[.val (.ref a), .val (.ref rp), .val (.ref ra), .val (.double dt), .second, .val (.double da), .second, .val (.long pp), .second] [(.ref a)]))
  refine Goes.st (fun t k => XT.lload X12.here hx rfl (hb hby d_prog_97_method_1_26) rfl k) ?_
  show Goes p e below s _ _ _ (T12.setTop (mkF m 28 #[.val (.ref a), .val (.ref rp), .val (.ref ra), .val (.double dt), .second, .val (.double da), .second, .val (.long pp), .second] [(.long pp), (.ref a)]))
  have f17 := ((((Fprocessors.other W2 (Or.inr (slot_ne (Or.inr (hw _ (List.mem_of_getElem? (i := 24) rfl))) (Or.inr (hw _ (List.mem_of_getElem? (i := 16) rfl))) (by decide) (t := .long) (t' := (.array .int)) (by decide) (by decide)))).other W4 (Or.inr (slot_ne (Or.inr (hw _ (List.mem_of_getElem? (i := 24) rfl))) (Or.inr (hw _ (List.mem_of_getElem? (i := 18) rfl))) (by decide) (t := .long) (t' := (.array .int)) (by decide) (by decide)))).other W8 (Or.inr (slot_ne (Or.inr (hw _ (List.mem_of_getElem? (i := 24) rfl))) (Or.inr (hw _ (List.mem_of_getElem? (i := 20) rfl))) (by decide) (t := .long) (t' := .double) (by decide) (by decide)))).other W12 (Or.inr (slot_ne (Or.inr (hw _ (List.mem_of_getElem? (i := 24) rfl))) (Or.inr (hw _ (List.mem_of_getElem? (i := 22) rfl))) (by decide) (t := .long) (t' := .double) (by decide) (by decide))))
  have f18 := (f14.wr W12)
  obtain ⟨T16, h16, X16, e16, W16, st16⟩ := putF X12 hx hZ hown (host := "") (Or.inl (hw _ (List.mem_of_getElem? (i := 23) rfl))) Via.refl e12 f17 f18 (Or.inr ⟨(hw _ (List.mem_of_getElem? (i := 24) rfl)), rfl, hnm⟩) (hw _ (List.mem_of_getElem? (i := 1) rfl)) (ty := .long) (by decide) rfl rfl (g := (mkF m 28 #[.val (.ref a), .val (.ref rp), .val (.ref ra), .val (.double dt), .second, .val (.double da), .second, .val (.long pp), .second] [(.long pp), (.ref a)])) rfl rfl (hb hby d_prog_97_method_1_28)
  have N16 := Fr.snoc X16 N12 ga
  have G16 := f17.same W16
  refine Goes.st st16 ?_
  have KK19 := KK15.wr W16 (Or.inl (List.mem_of_getElem? (i := 0) rfl))
  have Z16 : n0 ≤ h16.size := by have := W16.size; have := Z12; omega
  show Goes p e below s _ _ _ (T16.setTop (mkF m 31 #[.val (.ref a), .val (.ref rp), .val (.ref ra), .val (.double dt), .second, .val (.double da), .second, .val (.long pp), .second] []))
  have f20 := ((((G2.other W4 (Or.inr (slot_ne (Or.inr (hw _ (List.mem_of_getElem? (i := 16) rfl))) (Or.inr (hw _ (List.mem_of_getElem? (i := 18) rfl))) (by decide) (t := (.array .int)) (t' := (.array .int)) (by decide) (by decide)))).other W8 (Or.inr (slot_ne (Or.inr (hw _ (List.mem_of_getElem? (i := 16) rfl))) (Or.inr (hw _ (List.mem_of_getElem? (i := 20) rfl))) (by decide) (t := (.array .int)) (t' := .double) (by decide) (by decide)))).other W12 (Or.inr (slot_ne (Or.inr (hw _ (List.mem_of_getElem? (i := 16) rfl))) (Or.inr (hw _ (List.mem_of_getElem? (i := 22) rfl))) (by decide) (t := (.array .int)) (t' := .double) (by decide) (by decide)))).other W16 (Or.inr (slot_ne (Or.inr (hw _ (List.mem_of_getElem? (i := 16) rfl))) (Or.inr (hw _ (List.mem_of_getElem? (i := 24) rfl))) (by decide) (t := (.array .int)) (t' := .long) (by decide) (by decide))))
  have f21 := (((G4.other W8 (Or.inr (slot_ne (Or.inr (hw _ (List.mem_of_getElem? (i := 18) rfl))) (Or.inr (hw _ (List.mem_of_getElem? (i := 20) rfl))) (by decide) (t := (.array .int)) (t' := .double) (by decide) (by decide)))).other W12 (Or.inr (slot_ne (Or.inr (hw _ (List.mem_of_getElem? (i := 18) rfl))) (Or.inr (hw _ (List.mem_of_getElem? (i := 22) rfl))) (by decide) (t := (.array .int)) (t' := .double) (by decide) (by decide)))).other W16 (Or.inr (slot_ne (Or.inr (hw _ (List.mem_of_getElem? (i := 18) rfl))) (Or.inr (hw _ (List.mem_of_getElem? (i := 24) rfl))) (by decide) (t := (.array .int)) (t' := .long) (by decide) (by decide))))
  have f22 := ((G8.other W12 (Or.inr (slot_ne (Or.inr (hw _ (List.mem_of_getElem? (i := 20) rfl))) (Or.inr (hw _ (List.mem_of_getElem? (i := 22) rfl))) (by decide) (t := .double) (t' := .double) (by decide) (by decide)))).other W16 (Or.inr (slot_ne (Or.inr (hw _ (List.mem_of_getElem? (i := 20) rfl))) (Or.inr (hw _ (List.mem_of_getElem? (i := 24) rfl))) (by decide) (t := .double) (t' := .long) (by decide) (by decide))))
  have f23 := (G12.other W16 (Or.inr (slot_ne (Or.inr (hw _ (List.mem_of_getElem? (i := 22) rfl))) (Or.inr (hw _ (List.mem_of_getElem? (i := 24) rfl))) (by decide) (t := .double) (t' := .long) (by decide) (by decide))))
  refine Goes.retV X16 hx hlk hret (hb hby d_prog_97_method_1_31) ?_ (by decide) (by decide)
  rw [e16]
  exact ⟨rfl, N16, KK19, f20, f21, f22, f23, G16⟩
theorem d_prog_97_method_3_0 : decode prog_97_method_3_code 0 = .ok (.aload_n 0, 1) := by decide +kernel
theorem d_prog_97_method_3_1 : decode prog_97_method_3_code 1 = .ok (.getfield 20, 3) := by decide +kernel
theorem d_prog_97_method_3_4 : decode prog_97_method_3_code 4 = .ok (.aload_n 1, 1) := by decide +kernel
theorem d_prog_97_method_3_5 : decode prog_97_method_3_code 5 = .ok (.getfield 20, 3) := by decide +kernel
theorem d_prog_97_method_3_8 : decode prog_97_method_3_code 8 = .ok (.dcmp .g, 1) := by decide +kernel
theorem d_prog_97_method_3_9 : decode prog_97_method_3_code 9 = .ok (.ifCond .lt 27, 3) := by decide +kernel
theorem d_prog_97_method_3_12 : decode prog_97_method_3_code 12 = .ok (.aload_n 0, 1) := by decide +kernel
theorem d_prog_97_method_3_13 : decode prog_97_method_3_code 13 = .ok (.getfield 20, 3) := by decide +kernel
theorem d_prog_97_method_3_16 : decode prog_97_method_3_code 16 = .ok (.aload_n 1, 1) := by decide +kernel
theorem d_prog_97_method_3_17 : decode prog_97_method_3_code 17 = .ok (.getfield 20, 3) := by decide +kernel
theorem d_prog_97_method_3_20 : decode prog_97_method_3_code 20 = .ok (.dcmp .l, 1) := by decide +kernel
theorem d_prog_97_method_3_21 : decode prog_97_method_3_code 21 = .ok (.ifCond .ne 19, 3) := by decide +kernel
theorem d_prog_97_method_3_24 : decode prog_97_method_3_code 24 = .ok (.aload_n 0, 1) := by decide +kernel
theorem d_prog_97_method_3_25 : decode prog_97_method_3_code 25 = .ok (.getfield 23, 3) := by decide +kernel
theorem d_prog_97_method_3_28 : decode prog_97_method_3_code 28 = .ok (.aload_n 1, 1) := by decide +kernel
theorem d_prog_97_method_3_29 : decode prog_97_method_3_code 29 = .ok (.getfield 23, 3) := by decide +kernel
theorem d_prog_97_method_3_32 : decode prog_97_method_3_code 32 = .ok (.lcmp, 1) := by decide +kernel
theorem d_prog_97_method_3_33 : decode prog_97_method_3_code 33 = .ok (.ifCond .le 7, 3) := by decide +kernel
theorem d_prog_97_method_3_36 : decode prog_97_method_3_code 36 = .ok (.iconst 1, 1) := by decide +kernel
theorem d_prog_97_method_3_37 : decode prog_97_method_3_code 37 = .ok (.goto 4, 3) := by decide +kernel
theorem d_prog_97_method_3_40 : decode prog_97_method_3_code 40 = .ok (.iconst 0, 1) := by decide +kernel
theorem d_prog_97_method_3_41 : decode prog_97_method_3_code 41 = .ok (.ireturn, 1) := by decide +kernel
theorem ef_L (m : MethodId) (x0 : Addr) (x1 : Addr) : entryFrame m #[(.ref x0), (.ref x1)] 2 = mkF m 0 #[.val (.ref x0), .val (.ref x1)] [] := by first | (simp [entryFrame, mkF, argsToLocals, Value.category]; done) | rfl
def QL (Z : State) (a b : Addr) (da db : UInt64) (pa pb : Int64) (h0 : Heap) (n0 : Nat) (v : Option Value) (h : Heap) (L : List Loc) : Prop := v = some (.int (chp da db pa pb)) ∧ Fr n0 L ∧ h = h0
set_option maxRecDepth 65536 in
set_option maxHeartbeats 40000000 in
theorem rmL (l : Launch) (Z : State) (a0 : Array Value) (hw : ∀ d ∈ tables_1, d.before a0 Z = true) (ws : List Jvm.Cond) (a b : Addr) (da db : UInt64) (pa pb : Int64) (h0 : Heap) (n0 : Nat) (Z0 : n0 ≤ h0.size) (Fda : Fld Z h0 a "com/example/redoubt/redoubt/policies/AttemptCounts$Runs" "area" "D" (.double da)) (Fpa : Fld Z h0 a "com/example/redoubt/redoubt/policies/AttemptCounts$Runs" "processors" "J" (.long pa)) (Fdb : Fld Z h0 b "com/example/redoubt/redoubt/policies/AttemptCounts$Runs" "area" "D" (.double db)) (Fpb : Fld Z h0 b "com/example/redoubt/redoubt/policies/AttemptCounts$Runs" "processors" "J" (.long pb)) :
    MetFree l (⟨"com/example/redoubt/redoubt/policies/AttemptCounts$Runs", "cheaperThan", "(Lcom/example/redoubt/redoubt/policies/AttemptCounts$Runs;)Z"⟩ : MethodName) (head1 (Jvm.Cond.code (⟨"com/example/redoubt/redoubt/policies/AttemptCounts$Runs", "cheaperThan", "(Lcom/example/redoubt/redoubt/policies/AttemptCounts$Runs;)Z"⟩ : MethodName) prog_97_method_3_code 2 (some .boolean) :: ws) ({ frames := 0, cells := 0, slots := 0, locals := 0 } : Room)) (fun aa U => aa = #[(.ref a), (.ref b)] ∧ Z.Warmed39 U.vm ∧ U.heap = h0) (fun _ _ _ _ _ => True) (fun _ U o U' => ∃ v L, o = .returned v ∧ QL Z a b da db pa pb h0 n0 v U'.heap L ∧ FrameEnd U o U' L ({ frames := 0, cells := 0, slots := 0, locals := 0 } : Room).cells ({ frames := 0, cells := 0, slots := 0, locals := 0 } : Room).slots) := by
  refine MetFree.of_bodySF (plainFor_of_name pn_com_example_redoubt_redoubt_policies_AttemptCounts_Runs) hisR ?_
  intro p e s m args below meth c s₁ Bd hml0 hP hK
  obtain ⟨rfl, hZ, hh⟩ := hP
  have hx := Bd.exec
  have hby := Bd.bytes
  have hlk := BodyLoose.notSynchronized Bd
  have hret := Bd.returns
  have hml : c.maxLocals = 2 := hml0
  have hown : s.vm.findClass "com/example/redoubt/redoubt/policies/AttemptCounts$Runs" = some m.cls := findClass_of_methodNamed Bd.named
  have hnm := (name_of_methodNamed Bd.named Bd.method).1
  have X0 : Stand p l e ({ frames := 0, cells := 0, slots := 0, locals := 0 } : Room) s m #[(.ref a), (.ref b)] below meth c s₁ [] 0 0 := Stand.of_body Bd
  have e0 : s₁.heap = h0 := by rw [← hh, Bd.state]; rfl
  have N0 := Fr.nil n0
  refine Goes.st (s := s) (Q := QL Z a b da db pa pb h0 n0) (cs := ({ frames := 0, cells := 0, slots := 0, locals := 0 } : Room).cells) (ss := ({ frames := 0, cells := 0, slots := 0, locals := 0 } : Room).slots) (fun t k => castTop (ef_L m a b) k) ?_
  show Goes p e below s _ _ _ (s₁.setTop (mkF m 0 #[.val (.ref a), .val (.ref b)] []))
  refine Goes.st (fun t k => XS.aloadN X0.here hx rfl (hb hby d_prog_97_method_3_0) rfl rfl k) ?_
  show Goes p e below s _ _ _ (s₁.setTop (mkF m 1 #[.val (.ref a), .val (.ref b)] [(.ref a)]))
  obtain ⟨T1, X1, e1, st1⟩ := getF X0 hx hZ hown (host := "") (Or.inl (hw _ (List.mem_of_getElem? (i := 21) rfl))) Via.refl e0 Fda (g := (mkF m 1 #[.val (.ref a), .val (.ref b)] [(.ref a)])) rfl rfl (hb hby d_prog_97_method_3_1)
  refine Goes.st st1 ?_
  show Goes p e below s _ _ _ (T1.setTop (mkF m 4 #[.val (.ref a), .val (.ref b)] [(.double da)]))
  refine Goes.st (fun t k => XS.aloadN X1.here hx rfl (hb hby d_prog_97_method_3_4) rfl rfl k) ?_
  show Goes p e below s _ _ _ (T1.setTop (mkF m 5 #[.val (.ref a), .val (.ref b)] [(.ref b), (.double da)]))
  obtain ⟨T2, X2, e2, st2⟩ := getF X1 hx hZ hown (host := "") (Or.inl (hw _ (List.mem_of_getElem? (i := 21) rfl))) Via.refl e1 Fdb (g := (mkF m 5 #[.val (.ref a), .val (.ref b)] [(.ref b), (.double da)])) rfl rfl (hb hby d_prog_97_method_3_5)
  refine Goes.st st2 ?_
  show Goes p e below s _ _ _ (T2.setTop (mkF m 8 #[.val (.ref a), .val (.ref b)] [(.double db), (.double da)]))
  refine Goes.st (fun t k => XS.dcmpS X2.here hx rfl (hb hby d_prog_97_method_3_8) rfl (v := (cmpValue (FP.dcmp da db) .g)) rfl k) ?_
  show Goes p e below s _ _ _ (T2.setTop (mkF m 9 #[.val (.ref a), .val (.ref b)] [(.int (cmpValue (FP.dcmp da db) .g))]))
  by_cases c3 : (cmpValue (FP.dcmp da db) .g) < (0 : Int32)
  · refine Goes.st (fun t k => XS.ifYes X2.here hx rfl (pc0 := 9) (pc' := 36) rfl (hb hby d_prog_97_method_3_9) rfl ((if0 _ _).trans (tlt c3).1) (by decide) (by decide) k) ?_
    show Goes p e below s _ _ _ (T2.setTop (mkF m 36 #[.val (.ref a), .val (.ref b)] []))
    refine Goes.st (fun t k => XS.iconst X2.here hx rfl (hb hby d_prog_97_method_3_36) k) ?_
    show Goes p e below s _ _ _ (T2.setTop (mkF m 37 #[.val (.ref a), .val (.ref b)] [(.int (1 : Int32))]))
    refine Goes.st (fun t k => XS.goto X2.here hx rfl (pc0 := 37) (pc' := 41) rfl (hb hby d_prog_97_method_3_37) (by decide) (by decide) k) ?_
    show Goes p e below s _ _ _ (T2.setTop (mkF m 41 #[.val (.ref a), .val (.ref b)] [(.int (1 : Int32))]))
    refine Goes.retN X2 hx hlk hret (by simp) (hb hby d_prog_97_method_3_41) (by decide) ?_ (by decide) (by decide)
    rw [e2]
    exact ⟨by simp [chp, c3], N0, rfl⟩
  · refine Goes.st (fun t k => XS.ifNo X2.here hx rfl (hb hby d_prog_97_method_3_9) rfl ((if0 _ _).trans (flt c3).1) k) ?_
    show Goes p e below s _ _ _ (T2.setTop (mkF m 12 #[.val (.ref a), .val (.ref b)] []))
    refine Goes.st (fun t k => XS.aloadN X2.here hx rfl (hb hby d_prog_97_method_3_12) rfl rfl k) ?_
    show Goes p e below s _ _ _ (T2.setTop (mkF m 13 #[.val (.ref a), .val (.ref b)] [(.ref a)]))
    obtain ⟨T4, X4, e4, st4⟩ := getF X2 hx hZ hown (host := "") (Or.inl (hw _ (List.mem_of_getElem? (i := 21) rfl))) Via.refl e2 Fda (g := (mkF m 13 #[.val (.ref a), .val (.ref b)] [(.ref a)])) rfl rfl (hb hby d_prog_97_method_3_13)
    refine Goes.st st4 ?_
    show Goes p e below s _ _ _ (T4.setTop (mkF m 16 #[.val (.ref a), .val (.ref b)] [(.double da)]))
    refine Goes.st (fun t k => XS.aloadN X4.here hx rfl (hb hby d_prog_97_method_3_16) rfl rfl k) ?_
    show Goes p e below s _ _ _ (T4.setTop (mkF m 17 #[.val (.ref a), .val (.ref b)] [(.ref b), (.double da)]))
    obtain ⟨T5, X5, e5, st5⟩ := getF X4 hx hZ hown (host := "") (Or.inl (hw _ (List.mem_of_getElem? (i := 21) rfl))) Via.refl e4 Fdb (g := (mkF m 17 #[.val (.ref a), .val (.ref b)] [(.ref b), (.double da)])) rfl rfl (hb hby d_prog_97_method_3_17)
    refine Goes.st st5 ?_
    show Goes p e below s _ _ _ (T5.setTop (mkF m 20 #[.val (.ref a), .val (.ref b)] [(.double db), (.double da)]))
    refine Goes.st (fun t k => XS.dcmpS X5.here hx rfl (hb hby d_prog_97_method_3_20) rfl (v := (cmpValue (FP.dcmp da db) .l)) rfl k) ?_
    show Goes p e below s _ _ _ (T5.setTop (mkF m 21 #[.val (.ref a), .val (.ref b)] [(.int (cmpValue (FP.dcmp da db) .l))]))
    by_cases c6 : (cmpValue (FP.dcmp da db) .l) = (0 : Int32)
    · refine Goes.st (fun t k => XS.ifNo X5.here hx rfl (hb hby d_prog_97_method_3_21) rfl ((if0 _ _).trans (teq c6).2) k) ?_
      show Goes p e below s _ _ _ (T5.setTop (mkF m 24 #[.val (.ref a), .val (.ref b)] []))
      refine Goes.st (fun t k => XS.aloadN X5.here hx rfl (hb hby d_prog_97_method_3_24) rfl rfl k) ?_
      show Goes p e below s _ _ _ (T5.setTop (mkF m 25 #[.val (.ref a), .val (.ref b)] [(.ref a)]))
      obtain ⟨T7, X7, e7, st7⟩ := getF X5 hx hZ hown (host := "") (Or.inl (hw _ (List.mem_of_getElem? (i := 23) rfl))) Via.refl e5 Fpa (g := (mkF m 25 #[.val (.ref a), .val (.ref b)] [(.ref a)])) rfl rfl (hb hby d_prog_97_method_3_25)
      refine Goes.st st7 ?_
      show Goes p e below s _ _ _ (T7.setTop (mkF m 28 #[.val (.ref a), .val (.ref b)] [(.long pa)]))
      refine Goes.st (fun t k => XS.aloadN X7.here hx rfl (hb hby d_prog_97_method_3_28) rfl rfl k) ?_
      show Goes p e below s _ _ _ (T7.setTop (mkF m 29 #[.val (.ref a), .val (.ref b)] [(.ref b), (.long pa)]))
      obtain ⟨T8, X8, e8, st8⟩ := getF X7 hx hZ hown (host := "") (Or.inl (hw _ (List.mem_of_getElem? (i := 23) rfl))) Via.refl e7 Fpb (g := (mkF m 29 #[.val (.ref a), .val (.ref b)] [(.ref b), (.long pa)])) rfl rfl (hb hby d_prog_97_method_3_29)
      refine Goes.st st8 ?_
      show Goes p e below s _ _ _ (T8.setTop (mkF m 32 #[.val (.ref a), .val (.ref b)] [(.long pb), (.long pa)]))
      refine Goes.st (fun t k => XT.lcmp X8.here hx rfl (hb hby d_prog_97_method_3_32) rfl k) ?_
      show Goes p e below s _ _ _ (T8.setTop (mkF m 33 #[.val (.ref a), .val (.ref b)] [(.int (XT.cmpL pa pb))]))
      by_cases c9 : pb < pa
      · refine Goes.st (fun t k => XS.ifNo X8.here hx rfl (hb hby d_prog_97_method_3_33) rfl (XT.ll_le_f c9) k) ?_
        show Goes p e below s _ _ _ (T8.setTop (mkF m 36 #[.val (.ref a), .val (.ref b)] []))
        refine Goes.st (fun t k => XS.iconst X8.here hx rfl (hb hby d_prog_97_method_3_36) k) ?_
        show Goes p e below s _ _ _ (T8.setTop (mkF m 37 #[.val (.ref a), .val (.ref b)] [(.int (1 : Int32))]))
        refine Goes.st (fun t k => XS.goto X8.here hx rfl (pc0 := 37) (pc' := 41) rfl (hb hby d_prog_97_method_3_37) (by decide) (by decide) k) ?_
        show Goes p e below s _ _ _ (T8.setTop (mkF m 41 #[.val (.ref a), .val (.ref b)] [(.int (1 : Int32))]))
        refine Goes.retN X8 hx hlk hret (by simp) (hb hby d_prog_97_method_3_41) (by decide) ?_ (by decide) (by decide)
        rw [e8]
        exact ⟨by simp [chp, c3, c6, c9], N0, rfl⟩
      · refine Goes.st (fun t k => XS.ifYes X8.here hx rfl (pc0 := 33) (pc' := 40) rfl (hb hby d_prog_97_method_3_33) rfl (XT.ll_le_t c9) (by decide) (by decide) k) ?_
        show Goes p e below s _ _ _ (T8.setTop (mkF m 40 #[.val (.ref a), .val (.ref b)] []))
        refine Goes.st (fun t k => XS.iconst X8.here hx rfl (hb hby d_prog_97_method_3_40) k) ?_
        show Goes p e below s _ _ _ (T8.setTop (mkF m 41 #[.val (.ref a), .val (.ref b)] [(.int (0 : Int32))]))
        refine Goes.retN X8 hx hlk hret (by simp) (hb hby d_prog_97_method_3_41) (by decide) ?_ (by decide) (by decide)
        rw [e8]
        exact ⟨by simp [chp, c3, c6, c9], N0, rfl⟩
    · refine Goes.st (fun t k => XS.ifYes X5.here hx rfl (pc0 := 21) (pc' := 40) rfl (hb hby d_prog_97_method_3_21) rfl ((if0 _ _).trans (feq c6).2) (by decide) (by decide) k) ?_
      show Goes p e below s _ _ _ (T5.setTop (mkF m 40 #[.val (.ref a), .val (.ref b)] []))
      refine Goes.st (fun t k => XS.iconst X5.here hx rfl (hb hby d_prog_97_method_3_40) k) ?_
      show Goes p e below s _ _ _ (T5.setTop (mkF m 41 #[.val (.ref a), .val (.ref b)] [(.int (0 : Int32))]))
      refine Goes.retN X5 hx hlk hret (by simp) (hb hby d_prog_97_method_3_41) (by decide) ?_ (by decide) (by decide)
      rw [e5]
      exact ⟨by simp [chp, c3, c6], N0, rfl⟩
theorem d_method_3_0 : decode method_3_code 0 = .ok (.iload_n 0, 1) := by decide +kernel
theorem d_method_3_1 : decode method_3_code 1 = .ok (.iload_n 3, 1) := by decide +kernel
theorem d_method_3_2 : decode method_3_code 2 = .ok (.if_icmp .eq 14, 3) := by decide +kernel
theorem d_method_3_5 : decode method_3_code 5 = .ok (.iload_n 0, 1) := by decide +kernel
theorem d_method_3_6 : decode method_3_code 6 = .ok (.iload_n 3, 1) := by decide +kernel
theorem d_method_3_7 : decode method_3_code 7 = .ok (.if_icmp .ge 7, 3) := by decide +kernel
theorem d_method_3_10 : decode method_3_code 10 = .ok (.iconst 1, 1) := by decide +kernel
theorem d_method_3_11 : decode method_3_code 11 = .ok (.goto 4, 3) := by decide +kernel
theorem d_method_3_14 : decode method_3_code 14 = .ok (.iconst 0, 1) := by decide +kernel
theorem d_method_3_15 : decode method_3_code 15 = .ok (.ireturn, 1) := by decide +kernel
theorem d_method_3_16 : decode method_3_code 16 = .ok (.lload_n 1, 1) := by decide +kernel
theorem d_method_3_17 : decode method_3_code 17 = .ok (.lload 4, 2) := by decide +kernel
theorem d_method_3_19 : decode method_3_code 19 = .ok (.lcmp, 1) := by decide +kernel
theorem d_method_3_20 : decode method_3_code 20 = .ok (.ifCond .le 7, 3) := by decide +kernel
theorem d_method_3_23 : decode method_3_code 23 = .ok (.iconst 1, 1) := by decide +kernel
theorem d_method_3_24 : decode method_3_code 24 = .ok (.goto 4, 3) := by decide +kernel
theorem d_method_3_27 : decode method_3_code 27 = .ok (.iconst 0, 1) := by decide +kernel
theorem d_method_3_28 : decode method_3_code 28 = .ok (.ireturn, 1) := by decide +kernel
theorem pn_com_example_redoubt_redoubt_policies_RunsCheaperThanPinLaw : plainName "com/example/redoubt/redoubt/policies/RunsCheaperThanPinLaw" = true := by first | (simp [plainName, overriddenIn]; done) | decide +kernel
theorem ef_E (m : MethodId) (x0 : Int32) (x1 : Int64) (x2 : Int32) (x3 : Int64) : entryFrame m #[(.int x0), (.long x1), (.int x2), (.long x3)] 6 = mkF m 0 #[.val (.int x0), .val (.long x1), .second, .val (.int x2), .val (.long x3), .second] [] := by first | (simp [entryFrame, mkF, argsToLocals, Value.category]; done) | rfl
def QE (Z : State) (ia : Int32) (pa : Int64) (ib : Int32) (pb : Int64) (h0 : Heap) (n0 : Nat) (v : Option Value) (h : Heap) (L : List Loc) : Prop := v = some (.int (rfc ia pa ib pb)) ∧ Fr n0 L ∧ h = h0
set_option maxRecDepth 65536 in
set_option maxHeartbeats 40000000 in
theorem rmE (l : Launch) (Z : State) (a0 : Array Value) (hw : ∀ d ∈ tables_1, d.before a0 Z = true) (ws : List Jvm.Cond) (ia : Int32) (pa : Int64) (ib : Int32) (pb : Int64) (h0 : Heap) (n0 : Nat) (Z0 : n0 ≤ h0.size)  :
    MetFree l (⟨"com/example/redoubt/redoubt/policies/RunsCheaperThanPinLaw", "reference", "(IJIJ)Z"⟩ : MethodName) (head1 (Jvm.Cond.code (⟨"com/example/redoubt/redoubt/policies/RunsCheaperThanPinLaw", "reference", "(IJIJ)Z"⟩ : MethodName) method_3_code 6 (some .boolean) :: ws) ({ frames := 0, cells := 0, slots := 0, locals := 0 } : Room)) (fun aa U => aa = #[(.int ia), (.long pa), (.int ib), (.long pb)] ∧ Z.Warmed39 U.vm ∧ U.heap = h0) (fun _ _ _ _ _ => True) (fun _ U o U' => ∃ v L, o = .returned v ∧ QE Z ia pa ib pb h0 n0 v U'.heap L ∧ FrameEnd U o U' L ({ frames := 0, cells := 0, slots := 0, locals := 0 } : Room).cells ({ frames := 0, cells := 0, slots := 0, locals := 0 } : Room).slots) := by
  refine MetFree.of_bodySF (plainFor_of_name pn_com_example_redoubt_redoubt_policies_RunsCheaperThanPinLaw) hisR ?_
  intro p e s m args below meth c s₁ Bd hml0 hP hK
  obtain ⟨rfl, hZ, hh⟩ := hP
  have hx := Bd.exec
  have hby := Bd.bytes
  have hlk := BodyLoose.notSynchronized Bd
  have hret := Bd.returns
  have hml : c.maxLocals = 6 := hml0
  have hown : s.vm.findClass "com/example/redoubt/redoubt/policies/RunsCheaperThanPinLaw" = some m.cls := findClass_of_methodNamed Bd.named
  have hnm := (name_of_methodNamed Bd.named Bd.method).1
  have X0 : Stand p l e ({ frames := 0, cells := 0, slots := 0, locals := 0 } : Room) s m #[(.int ia), (.long pa), (.int ib), (.long pb)] below meth c s₁ [] 0 0 := Stand.of_body Bd
  have e0 : s₁.heap = h0 := by rw [← hh, Bd.state]; rfl
  have N0 := Fr.nil n0
  refine Goes.st (s := s) (Q := QE Z ia pa ib pb h0 n0) (cs := ({ frames := 0, cells := 0, slots := 0, locals := 0 } : Room).cells) (ss := ({ frames := 0, cells := 0, slots := 0, locals := 0 } : Room).slots) (fun t k => castTop (ef_E m ia pa ib pb) k) ?_
  show Goes p e below s _ _ _ (s₁.setTop (mkF m 0 #[.val (.int ia), .val (.long pa), .second, .val (.int ib), .val (.long pb), .second] []))
  refine Goes.st (fun t k => XS.iloadN X0.here hx rfl (hb hby d_method_3_0) rfl k) ?_
  show Goes p e below s _ _ _ (s₁.setTop (mkF m 1 #[.val (.int ia), .val (.long pa), .second, .val (.int ib), .val (.long pb), .second] [(.int ia)]))
  refine Goes.st (fun t k => XS.iloadN X0.here hx rfl (hb hby d_method_3_1) rfl k) ?_
  show Goes p e below s _ _ _ (s₁.setTop (mkF m 2 #[.val (.int ia), .val (.long pa), .second, .val (.int ib), .val (.long pb), .second] [(.int ib), (.int ia)]))
  by_cases c1 : ia = ib
  · refine Goes.st (fun t k => XS.icmpYes X0.here hx rfl (pc0 := 2) (pc' := 16) rfl (hb hby d_method_3_2) rfl (teq c1).1 (by decide) (by decide) k) ?_
    show Goes p e below s _ _ _ (s₁.setTop (mkF m 16 #[.val (.int ia), .val (.long pa), .second, .val (.int ib), .val (.long pb), .second] []))
    refine Goes.st (fun t k => XT.lloadN X0.here hx rfl (hb hby d_method_3_16) rfl k) ?_
    show Goes p e below s _ _ _ (s₁.setTop (mkF m 17 #[.val (.int ia), .val (.long pa), .second, .val (.int ib), .val (.long pb), .second] [(.long pa)]))
    refine Goes.st (fun t k => XT.lload X0.here hx rfl (hb hby d_method_3_17) rfl k) ?_
    show Goes p e below s _ _ _ (s₁.setTop (mkF m 19 #[.val (.int ia), .val (.long pa), .second, .val (.int ib), .val (.long pb), .second] [(.long pb), (.long pa)]))
    refine Goes.st (fun t k => XT.lcmp X0.here hx rfl (hb hby d_method_3_19) rfl k) ?_
    show Goes p e below s _ _ _ (s₁.setTop (mkF m 20 #[.val (.int ia), .val (.long pa), .second, .val (.int ib), .val (.long pb), .second] [(.int (XT.cmpL pa pb))]))
    by_cases c2 : pb < pa
    · refine Goes.st (fun t k => XS.ifNo X0.here hx rfl (hb hby d_method_3_20) rfl (XT.ll_le_f c2) k) ?_
      show Goes p e below s _ _ _ (s₁.setTop (mkF m 23 #[.val (.int ia), .val (.long pa), .second, .val (.int ib), .val (.long pb), .second] []))
      refine Goes.st (fun t k => XS.iconst X0.here hx rfl (hb hby d_method_3_23) k) ?_
      show Goes p e below s _ _ _ (s₁.setTop (mkF m 24 #[.val (.int ia), .val (.long pa), .second, .val (.int ib), .val (.long pb), .second] [(.int (1 : Int32))]))
      refine Goes.st (fun t k => XS.goto X0.here hx rfl (pc0 := 24) (pc' := 28) rfl (hb hby d_method_3_24) (by decide) (by decide) k) ?_
      show Goes p e below s _ _ _ (s₁.setTop (mkF m 28 #[.val (.int ia), .val (.long pa), .second, .val (.int ib), .val (.long pb), .second] [(.int (1 : Int32))]))
      refine Goes.retN X0 hx hlk hret (by simp) (hb hby d_method_3_28) (by decide) ?_ (by decide) (by decide)
      rw [e0]
      exact ⟨by simp [rfc, c1, c2], N0, rfl⟩
    · refine Goes.st (fun t k => XS.ifYes X0.here hx rfl (pc0 := 20) (pc' := 27) rfl (hb hby d_method_3_20) rfl (XT.ll_le_t c2) (by decide) (by decide) k) ?_
      show Goes p e below s _ _ _ (s₁.setTop (mkF m 27 #[.val (.int ia), .val (.long pa), .second, .val (.int ib), .val (.long pb), .second] []))
      refine Goes.st (fun t k => XS.iconst X0.here hx rfl (hb hby d_method_3_27) k) ?_
      show Goes p e below s _ _ _ (s₁.setTop (mkF m 28 #[.val (.int ia), .val (.long pa), .second, .val (.int ib), .val (.long pb), .second] [(.int (0 : Int32))]))
      refine Goes.retN X0 hx hlk hret (by simp) (hb hby d_method_3_28) (by decide) ?_ (by decide) (by decide)
      rw [e0]
      exact ⟨by simp [rfc, c1, c2], N0, rfl⟩
  · refine Goes.st (fun t k => XS.icmpNo X0.here hx rfl (hb hby d_method_3_2) rfl (feq c1).1 k) ?_
    show Goes p e below s _ _ _ (s₁.setTop (mkF m 5 #[.val (.int ia), .val (.long pa), .second, .val (.int ib), .val (.long pb), .second] []))
    refine Goes.st (fun t k => XS.iloadN X0.here hx rfl (hb hby d_method_3_5) rfl k) ?_
    show Goes p e below s _ _ _ (s₁.setTop (mkF m 6 #[.val (.int ia), .val (.long pa), .second, .val (.int ib), .val (.long pb), .second] [(.int ia)]))
    refine Goes.st (fun t k => XS.iloadN X0.here hx rfl (hb hby d_method_3_6) rfl k) ?_
    show Goes p e below s _ _ _ (s₁.setTop (mkF m 7 #[.val (.int ia), .val (.long pa), .second, .val (.int ib), .val (.long pb), .second] [(.int ib), (.int ia)]))
    by_cases c3 : ia < ib
    · refine Goes.st (fun t k => XS.icmpNo X0.here hx rfl (hb hby d_method_3_7) rfl (tlt c3).2.1 k) ?_
      show Goes p e below s _ _ _ (s₁.setTop (mkF m 10 #[.val (.int ia), .val (.long pa), .second, .val (.int ib), .val (.long pb), .second] []))
      refine Goes.st (fun t k => XS.iconst X0.here hx rfl (hb hby d_method_3_10) k) ?_
      show Goes p e below s _ _ _ (s₁.setTop (mkF m 11 #[.val (.int ia), .val (.long pa), .second, .val (.int ib), .val (.long pb), .second] [(.int (1 : Int32))]))
      refine Goes.st (fun t k => XS.goto X0.here hx rfl (pc0 := 11) (pc' := 15) rfl (hb hby d_method_3_11) (by decide) (by decide) k) ?_
      show Goes p e below s _ _ _ (s₁.setTop (mkF m 15 #[.val (.int ia), .val (.long pa), .second, .val (.int ib), .val (.long pb), .second] [(.int (1 : Int32))]))
      refine Goes.retN X0 hx hlk hret (by simp) (hb hby d_method_3_15) (by decide) ?_ (by decide) (by decide)
      rw [e0]
      exact ⟨by simp [rfc, c1, c3], N0, rfl⟩
    · refine Goes.st (fun t k => XS.icmpYes X0.here hx rfl (pc0 := 7) (pc' := 14) rfl (hb hby d_method_3_7) rfl (flt c3).2.1 (by decide) (by decide) k) ?_
      show Goes p e below s _ _ _ (s₁.setTop (mkF m 14 #[.val (.int ia), .val (.long pa), .second, .val (.int ib), .val (.long pb), .second] []))
      refine Goes.st (fun t k => XS.iconst X0.here hx rfl (hb hby d_method_3_14) k) ?_
      show Goes p e below s _ _ _ (s₁.setTop (mkF m 15 #[.val (.int ia), .val (.long pa), .second, .val (.int ib), .val (.long pb), .second] [(.int (0 : Int32))]))
      refine Goes.retN X0 hx hlk hret (by simp) (hb hby d_method_3_15) (by decide) ?_ (by decide) (by decide)
      rw [e0]
      exact ⟨by simp [rfc, c1, c3], N0, rfl⟩
theorem pd___I_IDDJ_V_1fa9 : parseMethodDescriptor "([I[IDDJ)V" = some ⟨[(.array .int), (.array .int), .double, .double, .long], none⟩ := by decide +kernel
theorem pd__Lcom_example_redoubt_redoubt_policies_AttemptCounts_Runs__Z_3c19 : parseMethodDescriptor "(Lcom/example/redoubt/redoubt/policies/AttemptCounts$Runs;)Z" = some ⟨[(.object "com/example/redoubt/redoubt/policies/AttemptCounts$Runs")], some .boolean⟩ := by decide +kernel
theorem pd__IJIJ_Z_1280 : parseMethodDescriptor "(IJIJ)Z" = some ⟨[.int, .long, .int, .long], some .boolean⟩ := by decide +kernel
theorem ef_0 (m : MethodId) (x0 : Int32) (x1 : Int32) (x2 : Int64) (x3 : Int64) (x4 : Int32) : entryFrame m #[(.int x0), (.int x1), (.long x2), (.long x3), (.int x4)] maxLocals = mkF m 0 #[.val (.int x0), .val (.int x1), .val (.long x2), .second, .val (.long x3), .second, .val (.int x4), .unset, .unset, .unset, .unset, .unset, .unset, .unset, .unset] [] := by first | (simp [entryFrame, mkF, argsToLocals, Value.category, maxLocals]; done) | rfl
def Q0 (Z : State) (p0 p1 : Int32) (p2 p3 : Int64) (p4 : Int32) (h0 : Heap) (n0 : Nat) (v : Option Value) (h : Heap) (L : List Loc) : Prop := v = some (.int 1) ∧ Fr n0 L
set_option maxRecDepth 65536 in
set_option maxHeartbeats 40000000 in
theorem rm0 (l : Launch) (Z : State) (a0 : Array Value) (hw : ∀ d ∈ tables_1, d.before a0 Z = true) (ws : List Jvm.Cond) (p0 p1 : Int32) (p2 p3 : Int64) (p4 : Int32) (h0 : Heap) (n0 : Nat) (Z0 : n0 ≤ h0.size)  :
    MetFree l x (head1 (Jvm.Cond.code x code maxLocals ret :: ws) room_1) (fun aa U => aa = #[(.int p0), (.int p1), (.long p2), (.long p3), (.int p4)] ∧ Z.Warmed39 U.vm ∧ U.heap = h0) (fun _ _ _ _ _ => True) (fun _ U o U' => ∃ v L, o = .returned v ∧ Q0 Z p0 p1 p2 p3 p4 h0 n0 v U'.heap L ∧ FrameEnd U o U' L 24 128) := by
  refine MetFree.of_bodySF (plainFor_of_name pn_com_example_redoubt_redoubt_policies_RunsCheaperThanPinLaw) hisR ?_
  intro p e s m args below meth c s₁ Bd hml0 hP hK
  obtain ⟨rfl, hZ, hh⟩ := hP
  have hx := Bd.exec
  have hby := Bd.bytes
  have hlk := BodyLoose.notSynchronized Bd
  have hret := Bd.returns
  have hml : c.maxLocals = 15 := hml0
  have hown : s.vm.findClass "com/example/redoubt/redoubt/policies/RunsCheaperThanPinLaw" = some m.cls := findClass_of_methodNamed Bd.named
  have hnm := (name_of_methodNamed Bd.named Bd.method).1
  have X0 : Stand p l e room_1 s m #[(.int p0), (.int p1), (.long p2), (.long p3), (.int p4)] below meth c s₁ [] 0 0 := Stand.of_body Bd
  have e0 : s₁.heap = h0 := by rw [← hh, Bd.state]; rfl
  have N0 := Fr.nil n0
  refine Goes.st (s := s) (Q := Q0 Z p0 p1 p2 p3 p4 h0 n0) (cs := 24) (ss := 128) (fun t k => castTop (ef_0 m p0 p1 p2 p3 p4) k) ?_
  show Goes p e below s _ _ _ (s₁.setTop (mkF m 0 #[.val (.int p0), .val (.int p1), .val (.long p2), .second, .val (.long p3), .second, .val (.int p4), .unset, .unset, .unset, .unset, .unset, .unset, .unset, .unset] []))
  refine Goes.st (fun t k => XS.iload X0.here hx rfl (hb hby at_0) rfl k) ?_
  show Goes p e below s _ _ _ (s₁.setTop (mkF m 2 #[.val (.int p0), .val (.int p1), .val (.long p2), .second, .val (.long p3), .second, .val (.int p4), .unset, .unset, .unset, .unset, .unset, .unset, .unset, .unset] [(.int p4)]))
  refine Goes.st (fun t k => XS.iconst X0.here hx rfl (hb hby at_2) k) ?_
  show Goes p e below s _ _ _ (s₁.setTop (mkF m 3 #[.val (.int p0), .val (.int p1), .val (.long p2), .second, .val (.long p3), .second, .val (.int p4), .unset, .unset, .unset, .unset, .unset, .unset, .unset, .unset] [(.int (1 : Int32)), (.int p4)]))
  refine Goes.st (fun t k => XS.iand X0.here hx rfl (hb hby at_3) rfl k) ?_
  show Goes p e below s _ _ _ (s₁.setTop (mkF m 4 #[.val (.int p0), .val (.int p1), .val (.long p2), .second, .val (.long p3), .second, .val (.int p4), .unset, .unset, .unset, .unset, .unset, .unset, .unset, .unset] [(.int (p4 &&& (1 : Int32)))]))
  by_cases c1 : (p4 &&& (1 : Int32)) = (0 : Int32)
  · refine Goes.st (fun t k => XS.ifYes X0.here hx rfl (pc0 := 4) (pc' := 11) rfl (hb hby at_4) rfl ((if0 _ _).trans (teq c1).1) (by decide) (by decide) k) ?_
    show Goes p e below s _ _ _ (s₁.setTop (mkF m 11 #[.val (.int p0), .val (.int p1), .val (.long p2), .second, .val (.long p3), .second, .val (.int p4), .unset, .unset, .unset, .unset, .unset, .unset, .unset, .unset] []))
    refine Goes.st (fun t k => XS.iloadN X0.here hx rfl (hb hby at_11) rfl k) ?_
    show Goes p e below s _ _ _ (s₁.setTop (mkF m 12 #[.val (.int p0), .val (.int p1), .val (.long p2), .second, .val (.long p3), .second, .val (.int p4), .unset, .unset, .unset, .unset, .unset, .unset, .unset, .unset] [(.int p1)]))
    refine Goes.st (fun t k => XS.istore X0.here hx rfl (hb hby at_12) rfl (l' := #[.val (.int p0), .val (.int p1), .val (.long p2), .second, .val (.long p3), .second, .val (.int p4), .val (.int p1), .unset, .unset, .unset, .unset, .unset, .unset, .unset]) rfl k) ?_
    show Goes p e below s _ _ _ (s₁.setTop (mkF m 14 #[.val (.int p0), .val (.int p1), .val (.long p2), .second, .val (.long p3), .second, .val (.int p4), .val (.int p1), .unset, .unset, .unset, .unset, .unset, .unset, .unset] []))
    refine Goes.st (fun t k => XS.iload X0.here hx rfl (hb hby at_14) rfl k) ?_
    show Goes p e below s _ _ _ (s₁.setTop (mkF m 16 #[.val (.int p0), .val (.int p1), .val (.long p2), .second, .val (.long p3), .second, .val (.int p4), .val (.int p1), .unset, .unset, .unset, .unset, .unset, .unset, .unset] [(.int p4)]))
    refine Goes.st (fun t k => XS.iconst X0.here hx rfl (hb hby at_16) k) ?_
    show Goes p e below s _ _ _ (s₁.setTop (mkF m 17 #[.val (.int p0), .val (.int p1), .val (.long p2), .second, .val (.long p3), .second, .val (.int p4), .val (.int p1), .unset, .unset, .unset, .unset, .unset, .unset, .unset] [(.int (2 : Int32)), (.int p4)]))
    refine Goes.st (fun t k => XS.iand X0.here hx rfl (hb hby at_17) rfl k) ?_
    show Goes p e below s _ _ _ (s₁.setTop (mkF m 18 #[.val (.int p0), .val (.int p1), .val (.long p2), .second, .val (.long p3), .second, .val (.int p4), .val (.int p1), .unset, .unset, .unset, .unset, .unset, .unset, .unset] [(.int (p4 &&& (2 : Int32)))]))
    by_cases c2 : (p4 &&& (2 : Int32)) = (0 : Int32)
    · refine Goes.st (fun t k => XS.ifYes X0.here hx rfl (pc0 := 18) (pc' := 25) rfl (hb hby at_18) rfl ((if0 _ _).trans (teq c2).1) (by decide) (by decide) k) ?_
      show Goes p e below s _ _ _ (s₁.setTop (mkF m 25 #[.val (.int p0), .val (.int p1), .val (.long p2), .second, .val (.long p3), .second, .val (.int p4), .val (.int p1), .unset, .unset, .unset, .unset, .unset, .unset, .unset] []))
      refine Goes.st (fun t k => XT.lload X0.here hx rfl (hb hby at_25) rfl k) ?_
      show Goes p e below s _ _ _ (s₁.setTop (mkF m 27 #[.val (.int p0), .val (.int p1), .val (.long p2), .second, .val (.long p3), .second, .val (.int p4), .val (.int p1), .unset, .unset, .unset, .unset, .unset, .unset, .unset] [(.long p3)]))
      refine Goes.st (fun t k => XT.lstore X0.here hx rfl (hb hby at_27) rfl (l' := #[.val (.int p0), .val (.int p1), .val (.long p2), .second, .val (.long p3), .second, .val (.int p4), .val (.int p1), .val (.long p3), .second, .unset, .unset, .unset, .unset, .unset]) rfl k) ?_
      show Goes p e below s _ _ _ (s₁.setTop (mkF m 29 #[.val (.int p0), .val (.int p1), .val (.long p2), .second, .val (.long p3), .second, .val (.int p4), .val (.int p1), .val (.long p3), .second, .unset, .unset, .unset, .unset, .unset] []))
      obtain ⟨T3, h3, X3, e3, E3, A3, D3, -, st3⟩ := newO X0 hx hZ hown (hw _ (List.mem_of_getElem? (i := 0) rfl)) (hw _ (List.mem_of_getElem? (i := 1) rfl)) (hw _ (List.mem_of_getElem? (i := 2) rfl)) e0 (g := (mkF m 29 #[.val (.int p0), .val (.int p1), .val (.long p2), .second, .val (.long p3), .second, .val (.int p4), .val (.int p1), .val (.long p3), .second, .unset, .unset, .unset, .unset, .unset] [])) rfl (hb hby at_29) (by decide) (by decide)
      obtain ⟨b3, g3⟩ : ∃ z, z = h0.size := ⟨_, rfl⟩
      rw [← g3] at A3 D3 st3
      have lo_b3 : n0 ≤ b3 := by have := Z0; omega
      refine Goes.st st3 ?_
      have Z3 : n0 ≤ h3.size := Nat.le_trans Z0 E3.1
      have F3_procs : Fld Z h3 b3 "com/example/redoubt/redoubt/policies/AttemptCounts$Runs" "procs" "[I" .null := D3 (Or.inr (hw _ (List.mem_of_getElem? (i := 16) rfl))) (ty := (.array .int)) (by decide)
      have F3_attempts : Fld Z h3 b3 "com/example/redoubt/redoubt/policies/AttemptCounts$Runs" "attempts" "[I" .null := D3 (Or.inr (hw _ (List.mem_of_getElem? (i := 18) rfl))) (ty := (.array .int)) (by decide)
      have F3_time : Fld Z h3 b3 "com/example/redoubt/redoubt/policies/AttemptCounts$Runs" "time" "D" (.double (0 : UInt64)) := D3 (Or.inr (hw _ (List.mem_of_getElem? (i := 20) rfl))) (ty := .double) (by decide)
      have F3_area : Fld Z h3 b3 "com/example/redoubt/redoubt/policies/AttemptCounts$Runs" "area" "D" (.double (0 : UInt64)) := D3 (Or.inr (hw _ (List.mem_of_getElem? (i := 22) rfl))) (ty := .double) (by decide)
      have F3_processors : Fld Z h3 b3 "com/example/redoubt/redoubt/policies/AttemptCounts$Runs" "processors" "J" (.long (0 : Int64)) := D3 (Or.inr (hw _ (List.mem_of_getElem? (i := 24) rfl))) (ty := .long) (by decide)
      show Goes p e below s _ _ _ (T3.setTop (mkF m 32 #[.val (.int p0), .val (.int p1), .val (.long p2), .second, .val (.long p3), .second, .val (.int p4), .val (.int p1), .val (.long p3), .second, .unset, .unset, .unset, .unset, .unset] [(.ref b3)]))
      refine Goes.st (fun t k => XS.dup X3.here hx rfl (hb hby at_32) rfl rfl k) ?_
      show Goes p e below s _ _ _ (T3.setTop (mkF m 33 #[.val (.int p0), .val (.int p1), .val (.long p2), .second, .val (.long p3), .second, .val (.int p4), .val (.int p1), .val (.long p3), .second, .unset, .unset, .unset, .unset, .unset] [(.ref b3), (.ref b3)]))
      refine Goes.st (fun t k => XS.iconst X3.here hx rfl (hb hby at_33) k) ?_
      show Goes p e below s _ _ _ (T3.setTop (mkF m 34 #[.val (.int p0), .val (.int p1), .val (.long p2), .second, .val (.long p3), .second, .val (.int p4), .val (.int p1), .val (.long p3), .second, .unset, .unset, .unset, .unset, .unset] [(.int (0 : Int32)), (.ref b3), (.ref b3)]))
      obtain ⟨T5, h5, cA5, X5, e5, E5, A5, st5⟩ := newP X3 hx hZ (hw _ (List.mem_of_getElem? (i := 3) rfl)) e3 (g := (mkF m 34 #[.val (.int p0), .val (.int p1), .val (.long p2), .second, .val (.long p3), .second, .val (.int p4), .val (.int p1), .val (.long p3), .second, .unset, .unset, .unset, .unset, .unset] [(.int (0 : Int32)), (.ref b3), (.ref b3)])) rfl (hb hby at_34) rfl (by decide) (cap := 0) (by decide) (by decide) (by decide) (by decide)
      obtain ⟨b5, g5⟩ : ∃ z, z = h3.size := ⟨_, rfl⟩
      rw [← g5] at A5 st5
      have ne_b3_b5 : b3 ≠ b5 := Nat.ne_of_lt (Nat.lt_of_lt_of_le A3.lt (Nat.le_of_eq g5.symm))
      have lo_b5 : n0 ≤ b5 := by have := Z3; omega
      have V5 : Arv Z h5 b5 cA5 .int (0 : Int32) [] (.int (0 : Int32)) := (Arv.new A5 (by decide)).pad (pad_rep [] _ 0)
      refine Goes.st st5 ?_
      have Z5 : n0 ≤ h5.size := Nat.le_trans Z3 E5.1
      show Goes p e below s _ _ _ (T5.setTop (mkF m 36 #[.val (.int p0), .val (.int p1), .val (.long p2), .second, .val (.long p3), .second, .val (.int p4), .val (.int p1), .val (.long p3), .second, .unset, .unset, .unset, .unset, .unset] [(.ref b5), (.ref b3), (.ref b3)]))
      refine Goes.st (fun t k => XS.iconst X5.here hx rfl (hb hby at_36) k) ?_
      show Goes p e below s _ _ _ (T5.setTop (mkF m 37 #[.val (.int p0), .val (.int p1), .val (.long p2), .second, .val (.long p3), .second, .val (.int p4), .val (.int p1), .val (.long p3), .second, .unset, .unset, .unset, .unset, .unset] [(.int (0 : Int32)), (.ref b5), (.ref b3), (.ref b3)]))
      obtain ⟨T7, h7, cA7, X7, e7, E7, A7, st7⟩ := newP X5 hx hZ (hw _ (List.mem_of_getElem? (i := 3) rfl)) e5 (g := (mkF m 37 #[.val (.int p0), .val (.int p1), .val (.long p2), .second, .val (.long p3), .second, .val (.int p4), .val (.int p1), .val (.long p3), .second, .unset, .unset, .unset, .unset, .unset] [(.int (0 : Int32)), (.ref b5), (.ref b3), (.ref b3)])) rfl (hb hby at_37) rfl (by decide) (cap := 0) (by decide) (by decide) (by decide) (by decide)
      obtain ⟨b7, g7⟩ : ∃ z, z = h5.size := ⟨_, rfl⟩
      rw [← g7] at A7 st7
      have f8 := (A3.ext E5)
      have ne_b3_b7 : b3 ≠ b7 := Nat.ne_of_lt (Nat.lt_of_lt_of_le f8.lt (Nat.le_of_eq g7.symm))
      have ne_b5_b7 : b5 ≠ b7 := Nat.ne_of_lt (Nat.lt_of_lt_of_le V5.lt (Nat.le_of_eq g7.symm))
      have lo_b7 : n0 ≤ b7 := by have := Z5; omega
      have V7 : Arv Z h7 b7 cA7 .int (0 : Int32) [] (.int (0 : Int32)) := (Arv.new A7 (by decide)).pad (pad_rep [] _ 0)
      refine Goes.st st7 ?_
      have Z7 : n0 ≤ h7.size := Nat.le_trans Z5 E7.1
      show Goes p e below s _ _ _ (T7.setTop (mkF m 39 #[.val (.int p0), .val (.int p1), .val (.long p2), .second, .val (.long p3), .second, .val (.int p4), .val (.int p1), .val (.long p3), .second, .unset, .unset, .unset, .unset, .unset] [(.ref b7), (.ref b5), (.ref b3), (.ref b3)]))
      refine Goes.st (fun t k => XS.iload X7.here hx rfl (hb hby at_39) rfl k) ?_
      show Goes p e below s _ _ _ (T7.setTop (mkF m 41 #[.val (.int p0), .val (.int p1), .val (.long p2), .second, .val (.long p3), .second, .val (.int p4), .val (.int p1), .val (.long p3), .second, .unset, .unset, .unset, .unset, .unset] [(.int p4), (.ref b7), (.ref b5), (.ref b3), (.ref b3)]))
      refine Goes.st (fun t k => XS.iconst X7.here hx rfl (hb hby at_41) k) ?_
      show Goes p e below s _ _ _ (T7.setTop (mkF m 42 #[.val (.int p0), .val (.int p1), .val (.long p2), .second, .val (.long p3), .second, .val (.int p4), .val (.int p1), .val (.long p3), .second, .unset, .unset, .unset, .unset, .unset] [(.int (2 : Int32)), (.int p4), (.ref b7), (.ref b5), (.ref b3), (.ref b3)]))
      refine Goes.st (fun t k => XT.ishr X7.here hx rfl (hb hby at_42) rfl k) ?_
      show Goes p e below s _ _ _ (T7.setTop (mkF m 43 #[.val (.int p0), .val (.int p1), .val (.long p2), .second, .val (.long p3), .second, .val (.int p4), .val (.int p1), .val (.long p3), .second, .unset, .unset, .unset, .unset, .unset] [(.int (p4 >>> ((2 : Int32) &&& 31))), (.ref b7), (.ref b5), (.ref b3), (.ref b3)]))
      refine Goes.st (fun t k => XS.i2dS X7.here hx rfl (hb hby at_43) rfl (v := (FP.i2d (p4 >>> ((2 : Int32) &&& 31)))) rfl k) ?_
      show Goes p e below s _ _ _ (T7.setTop (mkF m 44 #[.val (.int p0), .val (.int p1), .val (.long p2), .second, .val (.long p3), .second, .val (.int p4), .val (.int p1), .val (.long p3), .second, .unset, .unset, .unset, .unset, .unset] [(.double (FP.i2d (p4 >>> ((2 : Int32) &&& 31)))), (.ref b7), (.ref b5), (.ref b3), (.ref b3)]))
      refine Goes.st (fun t k => XS.iloadN X7.here hx rfl (hb hby at_44) rfl k) ?_
      show Goes p e below s _ _ _ (T7.setTop (mkF m 45 #[.val (.int p0), .val (.int p1), .val (.long p2), .second, .val (.long p3), .second, .val (.int p4), .val (.int p1), .val (.long p3), .second, .unset, .unset, .unset, .unset, .unset] [(.int p0), (.double (FP.i2d (p4 >>> ((2 : Int32) &&& 31)))), (.ref b7), (.ref b5), (.ref b3), (.ref b3)]))
      refine Goes.st (fun t k => XS.i2dS X7.here hx rfl (hb hby at_45) rfl (v := (FP.i2d p0)) rfl k) ?_
      show Goes p e below s _ _ _ (T7.setTop (mkF m 46 #[.val (.int p0), .val (.int p1), .val (.long p2), .second, .val (.long p3), .second, .val (.int p4), .val (.int p1), .val (.long p3), .second, .unset, .unset, .unset, .unset, .unset] [(.double (FP.i2d p0)), (.double (FP.i2d (p4 >>> ((2 : Int32) &&& 31)))), (.ref b7), (.ref b5), (.ref b3), (.ref b3)]))
      refine Goes.st (fun t k => XT.lloadN X7.here hx rfl (hb hby at_46) rfl k) ?_
      show Goes p e below s _ _ _ (T7.setTop (mkF m 47 #[.val (.int p0), .val (.int p1), .val (.long p2), .second, .val (.long p3), .second, .val (.int p4), .val (.int p1), .val (.long p3), .second, .unset, .unset, .unset, .unset, .unset] [(.long p2), (.double (FP.i2d p0)), (.double (FP.i2d (p4 >>> ((2 : Int32) &&& 31)))), (.ref b7), (.ref b5), (.ref b3), (.ref b3)]))
      have f10 := (f8.ext E7)
      have f11 := ((F3_procs.ext E5).ext E7)
      have f12 := ((F3_attempts.ext E5).ext E7)
      have f13 := ((F3_time.ext E5).ext E7)
      have f14 := ((F3_area.ext E5).ext E7)
      have f15 := ((F3_processors.ext E5).ext E7)
      obtain ⟨_, _, ⟨T16, L16, k16, n16⟩, -, X16, ⟨Lc16, hQ16, l16, y16, z16⟩, st16⟩ := X7.specialBack hx (y := (⟨"com/example/redoubt/redoubt/policies/AttemptCounts$Runs", "<init>", "([I[IDDJ)V"⟩ : MethodName)) rfl hown (mvT hZ (hw _ (List.mem_of_getElem? (i := 4) rfl))) (mvT hZ (hw _ (List.mem_of_getElem? (i := 5) rfl))) (mvT hZ (hw _ (List.mem_of_getElem? (i := 6) rfl))) (by decide) (backOf (W := 1) (rmC l Z a0 hw [] b3 b5 b7 (FP.i2d (p4 >>> ((2 : Int32) &&& 31))) (FP.i2d p0) p2 .null .null (.double (0 : UInt64)) (.double (0 : UInt64)) (.long (0 : Int64)) h7 n0 Z7 f10 lo_b3 f11 f12 f13 f14 f15) hZ (hw _ (List.mem_of_getElem? (i := 6) rfl)) (hw _ (List.mem_of_getElem? (i := 2) rfl)) (by decide) (by decide)) (g := (mkF m 47 #[.val (.int p0), .val (.int p1), .val (.long p2), .second, .val (.long p3), .second, .val (.int p4), .val (.int p1), .val (.long p3), .second, .unset, .unset, .unset, .unset, .unset] [(.long p2), (.double (FP.i2d p0)), (.double (FP.i2d (p4 >>> ((2 : Int32) &&& 31)))), (.ref b7), (.ref b5), (.ref b3), (.ref b3)])) rfl (by rw [hml]; rfl) (Steps.refl _) (a := b3) (argsL := [(.ref b5), (.ref b7), (.double (FP.i2d (p4 >>> ((2 : Int32) &&& 31)))), (.double (FP.i2d p0)), (.long p2)]) (rest := [(.ref b3)]) (lenOf pd___I_IDDJ_V_1fa9 rfl) rfl (by show 2 * 0 + _ ≤ _; exact Nat.le_of_eq rfl) (hb hby at_47) (fun _ _ => ⟨rfl, e7, (by decide : 3 + 0 ≤ 24), (by decide : 5 + 0 ≤ 128)⟩)
      dsimp only [Pt.U, Pt.locs, Pt.cells, Pt.slots] at X16 l16 y16 z16 st16 hQ16
      subst l16 y16 z16
      obtain ⟨rfl, N16q, K16, R16_0, R16_1, R16_2, R16_3, R16_4⟩ := hQ16
      have Z16 : n0 ≤ T16.heap.size := Nat.le_trans Z7 K16.1
      have N16 := Fr.app N0 N16q
      refine Goes.sts st16 ?_
      show Goes p e below s _ _ _ (T16.setTop (mkF m 50 #[.val (.int p0), .val (.int p1), .val (.long p2), .second, .val (.long p3), .second, .val (.int p4), .val (.int p1), .val (.long p3), .second, .unset, .unset, .unset, .unset, .unset] [(.ref b3)]))
      refine Goes.st (fun t k => XS.astore X16.here hx rfl (hb hby at_50) rfl rfl (l' := #[.val (.int p0), .val (.int p1), .val (.long p2), .second, .val (.long p3), .second, .val (.int p4), .val (.int p1), .val (.long p3), .second, .val (.ref b3), .unset, .unset, .unset, .unset]) rfl k) ?_
      show Goes p e below s _ _ _ (T16.setTop (mkF m 52 #[.val (.int p0), .val (.int p1), .val (.long p2), .second, .val (.long p3), .second, .val (.int p4), .val (.int p1), .val (.long p3), .second, .val (.ref b3), .unset, .unset, .unset, .unset] []))
      obtain ⟨T18, h18, X18, e18, E18, A18, D18, -, st18⟩ := newO X16 hx hZ hown (hw _ (List.mem_of_getElem? (i := 0) rfl)) (hw _ (List.mem_of_getElem? (i := 1) rfl)) (hw _ (List.mem_of_getElem? (i := 2) rfl)) rfl (g := (mkF m 52 #[.val (.int p0), .val (.int p1), .val (.long p2), .second, .val (.long p3), .second, .val (.int p4), .val (.int p1), .val (.long p3), .second, .val (.ref b3), .unset, .unset, .unset, .unset] [])) rfl (hb hby at_52) (by decide) (by decide)
      obtain ⟨b18, g18⟩ : ∃ z, z = T16.heap.size := ⟨_, rfl⟩
      rw [← g18] at A18 D18 st18
      have f19 := (f10.keep K16)
      have ne_b3_b18 : b3 ≠ b18 := Nat.ne_of_lt (Nat.lt_of_lt_of_le f19.lt (Nat.le_of_eq g18.symm))
      have f20 := ((V5.ext E7).keep K16 (ninS (Ne.symm ne_b3_b5) nin0))
      have ne_b5_b18 : b5 ≠ b18 := Nat.ne_of_lt (Nat.lt_of_lt_of_le f20.lt (Nat.le_of_eq g18.symm))
      have f21 := (V7.keep K16 (ninS (Ne.symm ne_b3_b7) nin0))
      have ne_b7_b18 : b7 ≠ b18 := Nat.ne_of_lt (Nat.lt_of_lt_of_le f21.lt (Nat.le_of_eq g18.symm))
      have lo_b18 : n0 ≤ b18 := by have := Z16; omega
      refine Goes.st st18 ?_
      have Z18 : n0 ≤ h18.size := Nat.le_trans Z16 E18.1
      have F18_procs : Fld Z h18 b18 "com/example/redoubt/redoubt/policies/AttemptCounts$Runs" "procs" "[I" .null := D18 (Or.inr (hw _ (List.mem_of_getElem? (i := 16) rfl))) (ty := (.array .int)) (by decide)
      have F18_attempts : Fld Z h18 b18 "com/example/redoubt/redoubt/policies/AttemptCounts$Runs" "attempts" "[I" .null := D18 (Or.inr (hw _ (List.mem_of_getElem? (i := 18) rfl))) (ty := (.array .int)) (by decide)
      have F18_time : Fld Z h18 b18 "com/example/redoubt/redoubt/policies/AttemptCounts$Runs" "time" "D" (.double (0 : UInt64)) := D18 (Or.inr (hw _ (List.mem_of_getElem? (i := 20) rfl))) (ty := .double) (by decide)
      have F18_area : Fld Z h18 b18 "com/example/redoubt/redoubt/policies/AttemptCounts$Runs" "area" "D" (.double (0 : UInt64)) := D18 (Or.inr (hw _ (List.mem_of_getElem? (i := 22) rfl))) (ty := .double) (by decide)
      have F18_processors : Fld Z h18 b18 "com/example/redoubt/redoubt/policies/AttemptCounts$Runs" "processors" "J" (.long (0 : Int64)) := D18 (Or.inr (hw _ (List.mem_of_getElem? (i := 24) rfl))) (ty := .long) (by decide)
      show Goes p e below s _ _ _ (T18.setTop (mkF m 55 #[.val (.int p0), .val (.int p1), .val (.long p2), .second, .val (.long p3), .second, .val (.int p4), .val (.int p1), .val (.long p3), .second, .val (.ref b3), .unset, .unset, .unset, .unset] [(.ref b18)]))
      refine Goes.st (fun t k => XS.dup X18.here hx rfl (hb hby at_55) rfl rfl k) ?_
      show Goes p e below s _ _ _ (T18.setTop (mkF m 56 #[.val (.int p0), .val (.int p1), .val (.long p2), .second, .val (.long p3), .second, .val (.int p4), .val (.int p1), .val (.long p3), .second, .val (.ref b3), .unset, .unset, .unset, .unset] [(.ref b18), (.ref b18)]))
      refine Goes.st (fun t k => XS.iconst X18.here hx rfl (hb hby at_56) k) ?_
      show Goes p e below s _ _ _ (T18.setTop (mkF m 57 #[.val (.int p0), .val (.int p1), .val (.long p2), .second, .val (.long p3), .second, .val (.int p4), .val (.int p1), .val (.long p3), .second, .val (.ref b3), .unset, .unset, .unset, .unset] [(.int (1 : Int32)), (.ref b18), (.ref b18)]))
      obtain ⟨T23, h23, cA23, X23, e23, E23, A23, st23⟩ := newP X18 hx hZ (hw _ (List.mem_of_getElem? (i := 3) rfl)) e18 (g := (mkF m 57 #[.val (.int p0), .val (.int p1), .val (.long p2), .second, .val (.long p3), .second, .val (.int p4), .val (.int p1), .val (.long p3), .second, .val (.ref b3), .unset, .unset, .unset, .unset] [(.int (1 : Int32)), (.ref b18), (.ref b18)])) rfl (hb hby at_57) rfl (by decide) (cap := 1) (by decide) (by decide) (by decide) (by decide)
      obtain ⟨b23, g23⟩ : ∃ z, z = h18.size := ⟨_, rfl⟩
      rw [← g23] at A23 st23
      have f24 := (f19.ext E18)
      have ne_b3_b23 : b3 ≠ b23 := Nat.ne_of_lt (Nat.lt_of_lt_of_le f24.lt (Nat.le_of_eq g23.symm))
      have f25 := (f20.ext E18)
      have ne_b5_b23 : b5 ≠ b23 := Nat.ne_of_lt (Nat.lt_of_lt_of_le f25.lt (Nat.le_of_eq g23.symm))
      have f26 := (f21.ext E18)
      have ne_b7_b23 : b7 ≠ b23 := Nat.ne_of_lt (Nat.lt_of_lt_of_le f26.lt (Nat.le_of_eq g23.symm))
      have ne_b18_b23 : b18 ≠ b23 := Nat.ne_of_lt (Nat.lt_of_lt_of_le A18.lt (Nat.le_of_eq g23.symm))
      have lo_b23 : n0 ≤ b23 := by have := Z18; omega
      have V23 : Arv Z h23 b23 cA23 .int (1 : Int32) [(.int (0 : Int32))] (.int (0 : Int32)) := (Arv.new A23 (by decide)).pad (pad_rep [] _ 1)
      refine Goes.st st23 ?_
      have Z23 : n0 ≤ h23.size := Nat.le_trans Z18 E23.1
      show Goes p e below s _ _ _ (T23.setTop (mkF m 59 #[.val (.int p0), .val (.int p1), .val (.long p2), .second, .val (.long p3), .second, .val (.int p4), .val (.int p1), .val (.long p3), .second, .val (.ref b3), .unset, .unset, .unset, .unset] [(.ref b23), (.ref b18), (.ref b18)]))
      refine Goes.st (fun t k => XS.dup X23.here hx rfl (hb hby at_59) rfl rfl k) ?_
      show Goes p e below s _ _ _ (T23.setTop (mkF m 60 #[.val (.int p0), .val (.int p1), .val (.long p2), .second, .val (.long p3), .second, .val (.int p4), .val (.int p1), .val (.long p3), .second, .val (.ref b3), .unset, .unset, .unset, .unset] [(.ref b23), (.ref b23), (.ref b18), (.ref b18)]))
      refine Goes.st (fun t k => XS.iconst X23.here hx rfl (hb hby at_60) k) ?_
      show Goes p e below s _ _ _ (T23.setTop (mkF m 61 #[.val (.int p0), .val (.int p1), .val (.long p2), .second, .val (.long p3), .second, .val (.int p4), .val (.int p1), .val (.long p3), .second, .val (.ref b3), .unset, .unset, .unset, .unset] [(.int (0 : Int32)), (.ref b23), (.ref b23), (.ref b18), (.ref b18)]))
      refine Goes.st (fun t k => XS.iconst X23.here hx rfl (hb hby at_61) k) ?_
      show Goes p e below s _ _ _ (T23.setTop (mkF m 62 #[.val (.int p0), .val (.int p1), .val (.long p2), .second, .val (.long p3), .second, .val (.int p4), .val (.int p1), .val (.long p3), .second, .val (.ref b3), .unset, .unset, .unset, .unset] [(.int (1 : Int32)), (.int (0 : Int32)), (.ref b23), (.ref b23), (.ref b18), (.ref b18)]))
      obtain ⟨cl28, Ar28, qk28, Sz28, qz28, Ha28, Gf28⟩ := V23
      obtain ⟨T28, h28, X28, e28, W28, st28⟩ := stI X23 hx hZ e23 Ar28 (inb_of Sz28 ⟨by decide, by decide⟩) (g := (mkF m 62 #[.val (.int p0), .val (.int p1), .val (.long p2), .second, .val (.long p3), .second, .val (.int p4), .val (.int p1), .val (.long p3), .second, .val (.ref b3), .unset, .unset, .unset, .unset] [(.int (1 : Int32)), (.int (0 : Int32)), (.ref b23), (.ref b23), (.ref b18), (.ref b18)])) rfl rfl (hb hby at_62)
      have N28 := Fr.snoc X28 N16 lo_b23
      have V28 : Arv Z h28 b23 cA23 .int (1 : Int32) [(.int (1 : Int32))] (.int (0 : Int32)) := Arv.set Ar28 qk28 Sz28 qz28 Ha28 Gf28 rfl W28 0 (by decide) (by simp)
      refine Goes.st st28 ?_
      have Z28 : n0 ≤ h28.size := by have := W28.size; have := Z23; omega
      show Goes p e below s _ _ _ (T28.setTop (mkF m 63 #[.val (.int p0), .val (.int p1), .val (.long p2), .second, .val (.long p3), .second, .val (.int p4), .val (.int p1), .val (.long p3), .second, .val (.ref b3), .unset, .unset, .unset, .unset] [(.ref b23), (.ref b18), (.ref b18)]))
      refine Goes.st (fun t k => XS.iconst X28.here hx rfl (hb hby at_63) k) ?_
      show Goes p e below s _ _ _ (T28.setTop (mkF m 64 #[.val (.int p0), .val (.int p1), .val (.long p2), .second, .val (.long p3), .second, .val (.int p4), .val (.int p1), .val (.long p3), .second, .val (.ref b3), .unset, .unset, .unset, .unset] [(.int (1 : Int32)), (.ref b23), (.ref b18), (.ref b18)]))
      obtain ⟨T30, h30, cA30, X30, e30, E30, A30, st30⟩ := newP X28 hx hZ (hw _ (List.mem_of_getElem? (i := 3) rfl)) e28 (g := (mkF m 64 #[.val (.int p0), .val (.int p1), .val (.long p2), .second, .val (.long p3), .second, .val (.int p4), .val (.int p1), .val (.long p3), .second, .val (.ref b3), .unset, .unset, .unset, .unset] [(.int (1 : Int32)), (.ref b23), (.ref b18), (.ref b18)])) rfl (hb hby at_64) rfl (by decide) (cap := 1) (by decide) (by decide) (by decide) (by decide)
      obtain ⟨b30, g30⟩ : ∃ z, z = h28.size := ⟨_, rfl⟩
      rw [← g30] at A30 st30
      have f31 := ((f24.ext E23).wr W28)
      have ne_b3_b30 : b3 ≠ b30 := Nat.ne_of_lt (Nat.lt_of_lt_of_le f31.lt (Nat.le_of_eq g30.symm))
      have f32 := ((f25.ext E23).other W28 ne_b5_b23)
      have ne_b5_b30 : b5 ≠ b30 := Nat.ne_of_lt (Nat.lt_of_lt_of_le f32.lt (Nat.le_of_eq g30.symm))
      have f33 := ((f26.ext E23).other W28 ne_b7_b23)
      have ne_b7_b30 : b7 ≠ b30 := Nat.ne_of_lt (Nat.lt_of_lt_of_le f33.lt (Nat.le_of_eq g30.symm))
      have f34 := ((A18.ext E23).wr W28)
      have ne_b18_b30 : b18 ≠ b30 := Nat.ne_of_lt (Nat.lt_of_lt_of_le f34.lt (Nat.le_of_eq g30.symm))
      have ne_b23_b30 : b23 ≠ b30 := Nat.ne_of_lt (Nat.lt_of_lt_of_le V28.lt (Nat.le_of_eq g30.symm))
      have lo_b30 : n0 ≤ b30 := by have := Z28; omega
      have V30 : Arv Z h30 b30 cA30 .int (1 : Int32) [(.int (0 : Int32))] (.int (0 : Int32)) := (Arv.new A30 (by decide)).pad (pad_rep [] _ 1)
      refine Goes.st st30 ?_
      have Z30 : n0 ≤ h30.size := Nat.le_trans Z28 E30.1
      show Goes p e below s _ _ _ (T30.setTop (mkF m 66 #[.val (.int p0), .val (.int p1), .val (.long p2), .second, .val (.long p3), .second, .val (.int p4), .val (.int p1), .val (.long p3), .second, .val (.ref b3), .unset, .unset, .unset, .unset] [(.ref b30), (.ref b23), (.ref b18), (.ref b18)]))
      refine Goes.st (fun t k => XS.dup X30.here hx rfl (hb hby at_66) rfl rfl k) ?_
      show Goes p e below s _ _ _ (T30.setTop (mkF m 67 #[.val (.int p0), .val (.int p1), .val (.long p2), .second, .val (.long p3), .second, .val (.int p4), .val (.int p1), .val (.long p3), .second, .val (.ref b3), .unset, .unset, .unset, .unset] [(.ref b30), (.ref b30), (.ref b23), (.ref b18), (.ref b18)]))
      refine Goes.st (fun t k => XS.iconst X30.here hx rfl (hb hby at_67) k) ?_
      show Goes p e below s _ _ _ (T30.setTop (mkF m 68 #[.val (.int p0), .val (.int p1), .val (.long p2), .second, .val (.long p3), .second, .val (.int p4), .val (.int p1), .val (.long p3), .second, .val (.ref b3), .unset, .unset, .unset, .unset] [(.int (0 : Int32)), (.ref b30), (.ref b30), (.ref b23), (.ref b18), (.ref b18)]))
      refine Goes.st (fun t k => XS.iconst X30.here hx rfl (hb hby at_68) k) ?_
      show Goes p e below s _ _ _ (T30.setTop (mkF m 69 #[.val (.int p0), .val (.int p1), .val (.long p2), .second, .val (.long p3), .second, .val (.int p4), .val (.int p1), .val (.long p3), .second, .val (.ref b3), .unset, .unset, .unset, .unset] [(.int (1 : Int32)), (.int (0 : Int32)), (.ref b30), (.ref b30), (.ref b23), (.ref b18), (.ref b18)]))
      obtain ⟨cl36, Ar36, qk36, Sz36, qz36, Ha36, Gf36⟩ := V30
      obtain ⟨T36, h36, X36, e36, W36, st36⟩ := stI X30 hx hZ e30 Ar36 (inb_of Sz36 ⟨by decide, by decide⟩) (g := (mkF m 69 #[.val (.int p0), .val (.int p1), .val (.long p2), .second, .val (.long p3), .second, .val (.int p4), .val (.int p1), .val (.long p3), .second, .val (.ref b3), .unset, .unset, .unset, .unset] [(.int (1 : Int32)), (.int (0 : Int32)), (.ref b30), (.ref b30), (.ref b23), (.ref b18), (.ref b18)])) rfl rfl (hb hby at_69)
      have N36 := Fr.snoc X36 N28 lo_b30
      have V36 : Arv Z h36 b30 cA30 .int (1 : Int32) [(.int (1 : Int32))] (.int (0 : Int32)) := Arv.set Ar36 qk36 Sz36 qz36 Ha36 Gf36 rfl W36 0 (by decide) (by simp)
      refine Goes.st st36 ?_
      have Z36 : n0 ≤ h36.size := by have := W36.size; have := Z30; omega
      show Goes p e below s _ _ _ (T36.setTop (mkF m 70 #[.val (.int p0), .val (.int p1), .val (.long p2), .second, .val (.long p3), .second, .val (.int p4), .val (.int p1), .val (.long p3), .second, .val (.ref b3), .unset, .unset, .unset, .unset] [(.ref b30), (.ref b23), (.ref b18), (.ref b18)]))
      refine Goes.st (fun t k => XS.iload X36.here hx rfl (hb hby at_70) rfl k) ?_
      show Goes p e below s _ _ _ (T36.setTop (mkF m 72 #[.val (.int p0), .val (.int p1), .val (.long p2), .second, .val (.long p3), .second, .val (.int p4), .val (.int p1), .val (.long p3), .second, .val (.ref b3), .unset, .unset, .unset, .unset] [(.int p4), (.ref b30), (.ref b23), (.ref b18), (.ref b18)]))
      refine Goes.st (fun t k => XS.iconst X36.here hx rfl (hb hby at_72) k) ?_
      show Goes p e below s _ _ _ (T36.setTop (mkF m 73 #[.val (.int p0), .val (.int p1), .val (.long p2), .second, .val (.long p3), .second, .val (.int p4), .val (.int p1), .val (.long p3), .second, .val (.ref b3), .unset, .unset, .unset, .unset] [(.int (3 : Int32)), (.int p4), (.ref b30), (.ref b23), (.ref b18), (.ref b18)]))
      refine Goes.st (fun t k => XT.ishr X36.here hx rfl (hb hby at_73) rfl k) ?_
      show Goes p e below s _ _ _ (T36.setTop (mkF m 74 #[.val (.int p0), .val (.int p1), .val (.long p2), .second, .val (.long p3), .second, .val (.int p4), .val (.int p1), .val (.long p3), .second, .val (.ref b3), .unset, .unset, .unset, .unset] [(.int (p4 >>> ((3 : Int32) &&& 31))), (.ref b30), (.ref b23), (.ref b18), (.ref b18)]))
      refine Goes.st (fun t k => XS.i2dS X36.here hx rfl (hb hby at_74) rfl (v := (FP.i2d (p4 >>> ((3 : Int32) &&& 31)))) rfl k) ?_
      show Goes p e below s _ _ _ (T36.setTop (mkF m 75 #[.val (.int p0), .val (.int p1), .val (.long p2), .second, .val (.long p3), .second, .val (.int p4), .val (.int p1), .val (.long p3), .second, .val (.ref b3), .unset, .unset, .unset, .unset] [(.double (FP.i2d (p4 >>> ((3 : Int32) &&& 31)))), (.ref b30), (.ref b23), (.ref b18), (.ref b18)]))
      refine Goes.st (fun t k => XS.iload X36.here hx rfl (hb hby at_75) rfl k) ?_
      show Goes p e below s _ _ _ (T36.setTop (mkF m 77 #[.val (.int p0), .val (.int p1), .val (.long p2), .second, .val (.long p3), .second, .val (.int p4), .val (.int p1), .val (.long p3), .second, .val (.ref b3), .unset, .unset, .unset, .unset] [(.int p1), (.double (FP.i2d (p4 >>> ((3 : Int32) &&& 31)))), (.ref b30), (.ref b23), (.ref b18), (.ref b18)]))
      refine Goes.st (fun t k => XS.i2dS X36.here hx rfl (hb hby at_77) rfl (v := (FP.i2d p1)) rfl k) ?_
      show Goes p e below s _ _ _ (T36.setTop (mkF m 78 #[.val (.int p0), .val (.int p1), .val (.long p2), .second, .val (.long p3), .second, .val (.int p4), .val (.int p1), .val (.long p3), .second, .val (.ref b3), .unset, .unset, .unset, .unset] [(.double (FP.i2d p1)), (.double (FP.i2d (p4 >>> ((3 : Int32) &&& 31)))), (.ref b30), (.ref b23), (.ref b18), (.ref b18)]))
      refine Goes.st (fun t k => XT.lload X36.here hx rfl (hb hby at_78) rfl k) ?_
      show Goes p e below s _ _ _ (T36.setTop (mkF m 80 #[.val (.int p0), .val (.int p1), .val (.long p2), .second, .val (.long p3), .second, .val (.int p4), .val (.int p1), .val (.long p3), .second, .val (.ref b3), .unset, .unset, .unset, .unset] [(.long p3), (.double (FP.i2d p1)), (.double (FP.i2d (p4 >>> ((3 : Int32) &&& 31)))), (.ref b30), (.ref b23), (.ref b18), (.ref b18)]))
      have f38 := ((f34.ext E30).wr W36)
      have f39 := ((((F18_procs.ext E23).other W28 (Or.inl ne_b18_b23)).ext E30).other W36 (Or.inl ne_b18_b30))
      have f40 := ((((F18_attempts.ext E23).other W28 (Or.inl ne_b18_b23)).ext E30).other W36 (Or.inl ne_b18_b30))
      have f41 := ((((F18_time.ext E23).other W28 (Or.inl ne_b18_b23)).ext E30).other W36 (Or.inl ne_b18_b30))
      have f42 := ((((F18_area.ext E23).other W28 (Or.inl ne_b18_b23)).ext E30).other W36 (Or.inl ne_b18_b30))
      have f43 := ((((F18_processors.ext E23).other W28 (Or.inl ne_b18_b23)).ext E30).other W36 (Or.inl ne_b18_b30))
      obtain ⟨_, _, ⟨T44, L44, k44, n44⟩, -, X44, ⟨Lc44, hQ44, l44, y44, z44⟩, st44⟩ := X36.specialBack hx (y := (⟨"com/example/redoubt/redoubt/policies/AttemptCounts$Runs", "<init>", "([I[IDDJ)V"⟩ : MethodName)) rfl hown (mvT hZ (hw _ (List.mem_of_getElem? (i := 4) rfl))) (mvT hZ (hw _ (List.mem_of_getElem? (i := 5) rfl))) (mvT hZ (hw _ (List.mem_of_getElem? (i := 6) rfl))) (by decide) (backOf (W := 1) (rmC l Z a0 hw [] b18 b23 b30 (FP.i2d (p4 >>> ((3 : Int32) &&& 31))) (FP.i2d p1) p3 .null .null (.double (0 : UInt64)) (.double (0 : UInt64)) (.long (0 : Int64)) h36 n0 Z36 f38 lo_b18 f39 f40 f41 f42 f43) hZ (hw _ (List.mem_of_getElem? (i := 6) rfl)) (hw _ (List.mem_of_getElem? (i := 2) rfl)) (by decide) (by decide)) (g := (mkF m 80 #[.val (.int p0), .val (.int p1), .val (.long p2), .second, .val (.long p3), .second, .val (.int p4), .val (.int p1), .val (.long p3), .second, .val (.ref b3), .unset, .unset, .unset, .unset] [(.long p3), (.double (FP.i2d p1)), (.double (FP.i2d (p4 >>> ((3 : Int32) &&& 31)))), (.ref b30), (.ref b23), (.ref b18), (.ref b18)])) rfl (by rw [hml]; rfl) (Steps.refl _) (a := b18) (argsL := [(.ref b23), (.ref b30), (.double (FP.i2d (p4 >>> ((3 : Int32) &&& 31)))), (.double (FP.i2d p1)), (.long p3)]) (rest := [(.ref b18)]) (lenOf pd___I_IDDJ_V_1fa9 rfl) rfl (by show 2 * 0 + _ ≤ _; exact Nat.le_of_eq rfl) (hb hby at_80) (fun _ _ => ⟨rfl, e36, (by decide : 6 + 0 ≤ 24), (by decide : 12 + 0 ≤ 128)⟩)
      dsimp only [Pt.U, Pt.locs, Pt.cells, Pt.slots] at X44 l44 y44 z44 st44 hQ44
      subst l44 y44 z44
      obtain ⟨rfl, N44q, K44, R44_0, R44_1, R44_2, R44_3, R44_4⟩ := hQ44
      have Z44 : n0 ≤ T44.heap.size := Nat.le_trans Z36 K44.1
      have N44 := Fr.app N36 N44q
      refine Goes.sts st44 ?_
      show Goes p e below s _ _ _ (T44.setTop (mkF m 83 #[.val (.int p0), .val (.int p1), .val (.long p2), .second, .val (.long p3), .second, .val (.int p4), .val (.int p1), .val (.long p3), .second, .val (.ref b3), .unset, .unset, .unset, .unset] [(.ref b18)]))
      refine Goes.st (fun t k => XS.astore X44.here hx rfl (hb hby at_83) rfl rfl (l' := #[.val (.int p0), .val (.int p1), .val (.long p2), .second, .val (.long p3), .second, .val (.int p4), .val (.int p1), .val (.long p3), .second, .val (.ref b3), .val (.ref b18), .unset, .unset, .unset]) rfl k) ?_
      show Goes p e below s _ _ _ (T44.setTop (mkF m 85 #[.val (.int p0), .val (.int p1), .val (.long p2), .second, .val (.long p3), .second, .val (.int p4), .val (.int p1), .val (.long p3), .second, .val (.ref b3), .val (.ref b18), .unset, .unset, .unset] []))
      refine Goes.st (fun t k => XS.aload X44.here hx rfl (hb hby at_85) rfl rfl k) ?_
      show Goes p e below s _ _ _ (T44.setTop (mkF m 87 #[.val (.int p0), .val (.int p1), .val (.long p2), .second, .val (.long p3), .second, .val (.int p4), .val (.int p1), .val (.long p3), .second, .val (.ref b3), .val (.ref b18), .unset, .unset, .unset] [(.ref b3)]))
      refine Goes.st (fun t k => XS.aload X44.here hx rfl (hb hby at_87) rfl rfl k) ?_
      show Goes p e below s _ _ _ (T44.setTop (mkF m 89 #[.val (.int p0), .val (.int p1), .val (.long p2), .second, .val (.long p3), .second, .val (.int p4), .val (.int p1), .val (.long p3), .second, .val (.ref b3), .val (.ref b18), .unset, .unset, .unset] [(.ref b18), (.ref b3)]))
      have f46 := ((((((R16_3.ext E18).ext E23).other W28 (Or.inl ne_b3_b23)).ext E30).other W36 (Or.inl ne_b3_b30)).keep K44 (ninS ne_b3_b18 nin0))
      have f47 := ((((((R16_4.ext E18).ext E23).other W28 (Or.inl ne_b3_b23)).ext E30).other W36 (Or.inl ne_b3_b30)).keep K44 (ninS ne_b3_b18 nin0))
      have f49 := (((f31.ext E30).wr W36).keep K44)
      obtain ⟨cq48, kq48, qa48, qb48, qc48⟩ := isOf hZ rfl f49
      obtain ⟨_, _, ⟨T48, L48, k48, n48⟩, -, X48, ⟨Lc48, hQ48, l48, y48, z48⟩, st48⟩ := X44.virtualBack hx (y := (⟨"com/example/redoubt/redoubt/policies/AttemptCounts$Runs", "cheaperThan", "(Lcom/example/redoubt/redoubt/policies/AttemptCounts$Runs;)Z"⟩ : MethodName)) (z := (⟨"com/example/redoubt/redoubt/policies/AttemptCounts$Runs", "cheaperThan", "(Lcom/example/redoubt/redoubt/policies/AttemptCounts$Runs;)Z"⟩ : MethodName)) hown (mvT hZ (hw _ (List.mem_of_getElem? (i := 25) rfl))) (mvT hZ (hw _ (List.mem_of_getElem? (i := 26) rfl))) (notFace_of_selects (args := #[]) (mvT hZ (hw _ (List.mem_of_getElem? (i := 28) rfl)))) (mvT hZ (hw _ (List.mem_of_getElem? (i := 28) rfl))) (mvT hZ (hw _ (List.mem_of_getElem? (i := 27) rfl))) (by decide) (backOf (W := 0) (rmL l Z a0 hw [] b3 b18 (FP.i2d p0) (FP.i2d p1) p2 p3 T44.heap n0 Z44 f46 f47 R44_3 R44_4) hZ (hw _ (List.mem_of_getElem? (i := 29) rfl)) (hw _ (List.mem_of_getElem? (i := 2) rfl)) (by decide) (by decide)) qa48 qc48 (g := (mkF m 89 #[.val (.int p0), .val (.int p1), .val (.long p2), .second, .val (.long p3), .second, .val (.int p4), .val (.int p1), .val (.long p3), .second, .val (.ref b3), .val (.ref b18), .unset, .unset, .unset] [(.ref b18), (.ref b3)])) rfl (by rw [hml]; rfl) (Steps.refl _) (argsL := [(.ref b18)]) (rest := []) (lenOf pd__Lcom_example_redoubt_redoubt_policies_AttemptCounts_Runs__Z_3c19 rfl) rfl (by show 2 * 0 + _ ≤ _; exact Nat.le_of_eq rfl) (hb hby at_89) (fun _ _ => ⟨rfl, rfl, (by decide : 6 + 0 ≤ 24), (by decide : 12 + 0 ≤ 128)⟩)
      dsimp only [Pt.U, Pt.locs, Pt.cells, Pt.slots] at X48 l48 y48 z48 st48 hQ48
      subst l48 y48 z48
      obtain ⟨rfl, N48q, eh48⟩ := hQ48
      rw [own_same] at st48
      have N48 := Fr.app N44 N48q
      refine Goes.sts st48 ?_
      show Goes p e below s _ _ _ (T48.setTop (mkF m 92 #[.val (.int p0), .val (.int p1), .val (.long p2), .second, .val (.long p3), .second, .val (.int p4), .val (.int p1), .val (.long p3), .second, .val (.ref b3), .val (.ref b18), .unset, .unset, .unset] [(.int (rfc p0 p2 p1 p3))]))
      refine Goes.st (fun t k => XS.istore X48.here hx rfl (hb hby at_92) rfl (l' := #[.val (.int p0), .val (.int p1), .val (.long p2), .second, .val (.long p3), .second, .val (.int p4), .val (.int p1), .val (.long p3), .second, .val (.ref b3), .val (.ref b18), .val (.int (rfc p0 p2 p1 p3)), .unset, .unset]) rfl k) ?_
      show Goes p e below s _ _ _ (T48.setTop (mkF m 94 #[.val (.int p0), .val (.int p1), .val (.long p2), .second, .val (.long p3), .second, .val (.int p4), .val (.int p1), .val (.long p3), .second, .val (.ref b3), .val (.ref b18), .val (.int (rfc p0 p2 p1 p3)), .unset, .unset] []))
      refine Goes.st (fun t k => XS.aload X48.here hx rfl (hb hby at_94) rfl rfl k) ?_
      show Goes p e below s _ _ _ (T48.setTop (mkF m 96 #[.val (.int p0), .val (.int p1), .val (.long p2), .second, .val (.long p3), .second, .val (.int p4), .val (.int p1), .val (.long p3), .second, .val (.ref b3), .val (.ref b18), .val (.int (rfc p0 p2 p1 p3)), .unset, .unset] [(.ref b18)]))
      refine Goes.st (fun t k => XS.aload X48.here hx rfl (hb hby at_96) rfl rfl k) ?_
      show Goes p e below s _ _ _ (T48.setTop (mkF m 98 #[.val (.int p0), .val (.int p1), .val (.long p2), .second, .val (.long p3), .second, .val (.int p4), .val (.int p1), .val (.long p3), .second, .val (.ref b3), .val (.ref b18), .val (.int (rfc p0 p2 p1 p3)), .unset, .unset] [(.ref b3), (.ref b18)]))
      have f51 := (f38.keep K44)
      obtain ⟨cq50, kq50, qa50, qb50, qc50⟩ := isOf hZ eh48 f51
      obtain ⟨_, _, ⟨T50, L50, k50, n50⟩, -, X50, ⟨Lc50, hQ50, l50, y50, z50⟩, st50⟩ := X48.virtualBack hx (y := (⟨"com/example/redoubt/redoubt/policies/AttemptCounts$Runs", "cheaperThan", "(Lcom/example/redoubt/redoubt/policies/AttemptCounts$Runs;)Z"⟩ : MethodName)) (z := (⟨"com/example/redoubt/redoubt/policies/AttemptCounts$Runs", "cheaperThan", "(Lcom/example/redoubt/redoubt/policies/AttemptCounts$Runs;)Z"⟩ : MethodName)) hown (mvT hZ (hw _ (List.mem_of_getElem? (i := 25) rfl))) (mvT hZ (hw _ (List.mem_of_getElem? (i := 26) rfl))) (notFace_of_selects (args := #[]) (mvT hZ (hw _ (List.mem_of_getElem? (i := 28) rfl)))) (mvT hZ (hw _ (List.mem_of_getElem? (i := 28) rfl))) (mvT hZ (hw _ (List.mem_of_getElem? (i := 27) rfl))) (by decide) (backOf (W := 0) (rmL l Z a0 hw [] b18 b3 (FP.i2d p1) (FP.i2d p0) p3 p2 T44.heap n0 Z44 R44_3 R44_4 f46 f47) hZ (hw _ (List.mem_of_getElem? (i := 29) rfl)) (hw _ (List.mem_of_getElem? (i := 2) rfl)) (by decide) (by decide)) qa50 qc50 (g := (mkF m 98 #[.val (.int p0), .val (.int p1), .val (.long p2), .second, .val (.long p3), .second, .val (.int p4), .val (.int p1), .val (.long p3), .second, .val (.ref b3), .val (.ref b18), .val (.int (rfc p0 p2 p1 p3)), .unset, .unset] [(.ref b3), (.ref b18)])) rfl (by rw [hml]; rfl) (Steps.refl _) (argsL := [(.ref b3)]) (rest := []) (lenOf pd__Lcom_example_redoubt_redoubt_policies_AttemptCounts_Runs__Z_3c19 rfl) rfl (by show 2 * 0 + _ ≤ _; exact Nat.le_of_eq rfl) (hb hby at_98) (fun _ _ => ⟨rfl, eh48, (by decide : 6 + 0 ≤ 24), (by decide : 12 + 0 ≤ 128)⟩)
      dsimp only [Pt.U, Pt.locs, Pt.cells, Pt.slots] at X50 l50 y50 z50 st50 hQ50
      subst l50 y50 z50
      obtain ⟨rfl, N50q, eh50⟩ := hQ50
      rw [own_same] at st50
      have N50 := Fr.app N48 N50q
      refine Goes.sts st50 ?_
      show Goes p e below s _ _ _ (T50.setTop (mkF m 101 #[.val (.int p0), .val (.int p1), .val (.long p2), .second, .val (.long p3), .second, .val (.int p4), .val (.int p1), .val (.long p3), .second, .val (.ref b3), .val (.ref b18), .val (.int (rfc p0 p2 p1 p3)), .unset, .unset] [(.int (rfc p1 p3 p0 p2))]))
      refine Goes.st (fun t k => XS.istore X50.here hx rfl (hb hby at_101) rfl (l' := #[.val (.int p0), .val (.int p1), .val (.long p2), .second, .val (.long p3), .second, .val (.int p4), .val (.int p1), .val (.long p3), .second, .val (.ref b3), .val (.ref b18), .val (.int (rfc p0 p2 p1 p3)), .val (.int (rfc p1 p3 p0 p2)), .unset]) rfl k) ?_
      show Goes p e below s _ _ _ (T50.setTop (mkF m 103 #[.val (.int p0), .val (.int p1), .val (.long p2), .second, .val (.long p3), .second, .val (.int p4), .val (.int p1), .val (.long p3), .second, .val (.ref b3), .val (.ref b18), .val (.int (rfc p0 p2 p1 p3)), .val (.int (rfc p1 p3 p0 p2)), .unset] []))
      refine Goes.st (fun t k => XS.aload X50.here hx rfl (hb hby at_103) rfl rfl k) ?_
      show Goes p e below s _ _ _ (T50.setTop (mkF m 105 #[.val (.int p0), .val (.int p1), .val (.long p2), .second, .val (.long p3), .second, .val (.int p4), .val (.int p1), .val (.long p3), .second, .val (.ref b3), .val (.ref b18), .val (.int (rfc p0 p2 p1 p3)), .val (.int (rfc p1 p3 p0 p2)), .unset] [(.ref b3)]))
      refine Goes.st (fun t k => XS.aload X50.here hx rfl (hb hby at_105) rfl rfl k) ?_
      show Goes p e below s _ _ _ (T50.setTop (mkF m 107 #[.val (.int p0), .val (.int p1), .val (.long p2), .second, .val (.long p3), .second, .val (.int p4), .val (.int p1), .val (.long p3), .second, .val (.ref b3), .val (.ref b18), .val (.int (rfc p0 p2 p1 p3)), .val (.int (rfc p1 p3 p0 p2)), .unset] [(.ref b3), (.ref b3)]))
      obtain ⟨cq52, kq52, qa52, qb52, qc52⟩ := isOf hZ eh50 f49
      obtain ⟨_, _, ⟨T52, L52, k52, n52⟩, -, X52, ⟨Lc52, hQ52, l52, y52, z52⟩, st52⟩ := X50.virtualBack hx (y := (⟨"com/example/redoubt/redoubt/policies/AttemptCounts$Runs", "cheaperThan", "(Lcom/example/redoubt/redoubt/policies/AttemptCounts$Runs;)Z"⟩ : MethodName)) (z := (⟨"com/example/redoubt/redoubt/policies/AttemptCounts$Runs", "cheaperThan", "(Lcom/example/redoubt/redoubt/policies/AttemptCounts$Runs;)Z"⟩ : MethodName)) hown (mvT hZ (hw _ (List.mem_of_getElem? (i := 25) rfl))) (mvT hZ (hw _ (List.mem_of_getElem? (i := 26) rfl))) (notFace_of_selects (args := #[]) (mvT hZ (hw _ (List.mem_of_getElem? (i := 28) rfl)))) (mvT hZ (hw _ (List.mem_of_getElem? (i := 28) rfl))) (mvT hZ (hw _ (List.mem_of_getElem? (i := 27) rfl))) (by decide) (backOf (W := 0) (rmL l Z a0 hw [] b3 b3 (FP.i2d p0) (FP.i2d p0) p2 p2 T44.heap n0 Z44 f46 f47 f46 f47) hZ (hw _ (List.mem_of_getElem? (i := 29) rfl)) (hw _ (List.mem_of_getElem? (i := 2) rfl)) (by decide) (by decide)) qa52 qc52 (g := (mkF m 107 #[.val (.int p0), .val (.int p1), .val (.long p2), .second, .val (.long p3), .second, .val (.int p4), .val (.int p1), .val (.long p3), .second, .val (.ref b3), .val (.ref b18), .val (.int (rfc p0 p2 p1 p3)), .val (.int (rfc p1 p3 p0 p2)), .unset] [(.ref b3), (.ref b3)])) rfl (by rw [hml]; rfl) (Steps.refl _) (argsL := [(.ref b3)]) (rest := []) (lenOf pd__Lcom_example_redoubt_redoubt_policies_AttemptCounts_Runs__Z_3c19 rfl) rfl (by show 2 * 0 + _ ≤ _; exact Nat.le_of_eq rfl) (hb hby at_107) (fun _ _ => ⟨rfl, eh50, (by decide : 6 + 0 ≤ 24), (by decide : 12 + 0 ≤ 128)⟩)
      dsimp only [Pt.U, Pt.locs, Pt.cells, Pt.slots] at X52 l52 y52 z52 st52 hQ52
      subst l52 y52 z52
      obtain ⟨rfl, N52q, eh52⟩ := hQ52
      rw [show chp (FP.i2d p0) (FP.i2d p0) p2 p2 = 0 from (own_same _ _ _ _).trans (own_self _ _)] at st52
      have N52 := Fr.app N50 N52q
      refine Goes.sts st52 ?_
      show Goes p e below s _ _ _ (T52.setTop (mkF m 110 #[.val (.int p0), .val (.int p1), .val (.long p2), .second, .val (.long p3), .second, .val (.int p4), .val (.int p1), .val (.long p3), .second, .val (.ref b3), .val (.ref b18), .val (.int (rfc p0 p2 p1 p3)), .val (.int (rfc p1 p3 p0 p2)), .unset] [(.int (0 : Int32))]))
      refine Goes.st (fun t k => XS.istore X52.here hx rfl (hb hby at_110) rfl (l' := #[.val (.int p0), .val (.int p1), .val (.long p2), .second, .val (.long p3), .second, .val (.int p4), .val (.int p1), .val (.long p3), .second, .val (.ref b3), .val (.ref b18), .val (.int (rfc p0 p2 p1 p3)), .val (.int (rfc p1 p3 p0 p2)), .val (.int (0 : Int32))]) rfl k) ?_
      show Goes p e below s _ _ _ (T52.setTop (mkF m 112 #[.val (.int p0), .val (.int p1), .val (.long p2), .second, .val (.long p3), .second, .val (.int p4), .val (.int p1), .val (.long p3), .second, .val (.ref b3), .val (.ref b18), .val (.int (rfc p0 p2 p1 p3)), .val (.int (rfc p1 p3 p0 p2)), .val (.int (0 : Int32))] []))
      refine Goes.st (fun t k => XS.iload X52.here hx rfl (hb hby at_112) rfl k) ?_
      show Goes p e below s _ _ _ (T52.setTop (mkF m 114 #[.val (.int p0), .val (.int p1), .val (.long p2), .second, .val (.long p3), .second, .val (.int p4), .val (.int p1), .val (.long p3), .second, .val (.ref b3), .val (.ref b18), .val (.int (rfc p0 p2 p1 p3)), .val (.int (rfc p1 p3 p0 p2)), .val (.int (0 : Int32))] [(.int (rfc p0 p2 p1 p3))]))
      refine Goes.st (fun t k => XS.iloadN X52.here hx rfl (hb hby at_114) rfl k) ?_
      show Goes p e below s _ _ _ (T52.setTop (mkF m 115 #[.val (.int p0), .val (.int p1), .val (.long p2), .second, .val (.long p3), .second, .val (.int p4), .val (.int p1), .val (.long p3), .second, .val (.ref b3), .val (.ref b18), .val (.int (rfc p0 p2 p1 p3)), .val (.int (rfc p1 p3 p0 p2)), .val (.int (0 : Int32))] [(.int p0), (.int (rfc p0 p2 p1 p3))]))
      refine Goes.st (fun t k => XT.lloadN X52.here hx rfl (hb hby at_115) rfl k) ?_
      show Goes p e below s _ _ _ (T52.setTop (mkF m 116 #[.val (.int p0), .val (.int p1), .val (.long p2), .second, .val (.long p3), .second, .val (.int p4), .val (.int p1), .val (.long p3), .second, .val (.ref b3), .val (.ref b18), .val (.int (rfc p0 p2 p1 p3)), .val (.int (rfc p1 p3 p0 p2)), .val (.int (0 : Int32))] [(.long p2), (.int p0), (.int (rfc p0 p2 p1 p3))]))
      refine Goes.st (fun t k => XS.iload X52.here hx rfl (hb hby at_116) rfl k) ?_
      show Goes p e below s _ _ _ (T52.setTop (mkF m 118 #[.val (.int p0), .val (.int p1), .val (.long p2), .second, .val (.long p3), .second, .val (.int p4), .val (.int p1), .val (.long p3), .second, .val (.ref b3), .val (.ref b18), .val (.int (rfc p0 p2 p1 p3)), .val (.int (rfc p1 p3 p0 p2)), .val (.int (0 : Int32))] [(.int p1), (.long p2), (.int p0), (.int (rfc p0 p2 p1 p3))]))
      refine Goes.st (fun t k => XT.lload X52.here hx rfl (hb hby at_118) rfl k) ?_
      show Goes p e below s _ _ _ (T52.setTop (mkF m 120 #[.val (.int p0), .val (.int p1), .val (.long p2), .second, .val (.long p3), .second, .val (.int p4), .val (.int p1), .val (.long p3), .second, .val (.ref b3), .val (.ref b18), .val (.int (rfc p0 p2 p1 p3)), .val (.int (rfc p1 p3 p0 p2)), .val (.int (0 : Int32))] [(.long p3), (.int p1), (.long p2), (.int p0), (.int (rfc p0 p2 p1 p3))]))
      obtain ⟨_, _, ⟨T53, L53, k53, n53⟩, -, X53, ⟨Lc53, hQ53, l53, y53, z53⟩, st53⟩ := Jvm.LawKit.callS X52 hx (y := (⟨"com/example/redoubt/redoubt/policies/RunsCheaperThanPinLaw", "reference", "(IJIJ)Z"⟩ : MethodName)) hown (mvT hZ (hw _ (List.mem_of_getElem? (i := 30) rfl))) (mvT hZ (hw _ (List.mem_of_getElem? (i := 31) rfl))) (mvT hZ (hw _ (List.mem_of_getElem? (i := 32) rfl))) (mvT hZ (hw _ (List.mem_of_getElem? (i := 33) rfl))) (by decide) (backOf (W := 1) (rmE l Z a0 hw [] p0 p2 p1 p3 T44.heap n0 Z44 ) hZ (hw _ (List.mem_of_getElem? (i := 33) rfl)) (hw _ (List.mem_of_getElem? (i := 32) rfl)) (by decide) (by decide)) (g := (mkF m 120 #[.val (.int p0), .val (.int p1), .val (.long p2), .second, .val (.long p3), .second, .val (.int p4), .val (.int p1), .val (.long p3), .second, .val (.ref b3), .val (.ref b18), .val (.int (rfc p0 p2 p1 p3)), .val (.int (rfc p1 p3 p0 p2)), .val (.int (0 : Int32))] [(.long p3), (.int p1), (.long p2), (.int p0), (.int (rfc p0 p2 p1 p3))])) rfl (by rw [hml]; rfl) (argsL := [(.int p0), (.long p2), (.int p1), (.long p3)]) (rest := [(.int (rfc p0 p2 p1 p3))]) (lenOf pd__IJIJ_Z_1280 rfl) rfl (by show 2 * 0 + _ ≤ _; exact Nat.le_of_eq rfl) (hb hby at_120) (fun _ _ => ⟨rfl, eh52, (by decide : 6 + 0 ≤ 24), (by decide : 12 + 0 ≤ 128)⟩)
      dsimp only [Pt.U, Pt.locs, Pt.cells, Pt.slots] at X53 l53 y53 z53 st53 hQ53
      subst l53 y53 z53
      obtain ⟨rfl, N53q, eh53⟩ := hQ53
      have N53 := Fr.app N52 N53q
      refine Goes.st st53 ?_
      show Goes p e below s _ _ _ (T53.setTop (mkF m 123 #[.val (.int p0), .val (.int p1), .val (.long p2), .second, .val (.long p3), .second, .val (.int p4), .val (.int p1), .val (.long p3), .second, .val (.ref b3), .val (.ref b18), .val (.int (rfc p0 p2 p1 p3)), .val (.int (rfc p1 p3 p0 p2)), .val (.int (0 : Int32))] [(.int (rfc p0 p2 p1 p3)), (.int (rfc p0 p2 p1 p3))]))
      refine Goes.st (fun t k => XS.icmpNo X53.here hx rfl (hb hby at_123) rfl (teq (rfl : (rfc p0 p2 p1 p3) = (rfc p0 p2 p1 p3))).2 k) ?_
      show Goes p e below s _ _ _ (T53.setTop (mkF m 126 #[.val (.int p0), .val (.int p1), .val (.long p2), .second, .val (.long p3), .second, .val (.int p4), .val (.int p1), .val (.long p3), .second, .val (.ref b3), .val (.ref b18), .val (.int (rfc p0 p2 p1 p3)), .val (.int (rfc p1 p3 p0 p2)), .val (.int (0 : Int32))] []))
      refine Goes.st (fun t k => XS.iload X53.here hx rfl (hb hby at_126) rfl k) ?_
      show Goes p e below s _ _ _ (T53.setTop (mkF m 128 #[.val (.int p0), .val (.int p1), .val (.long p2), .second, .val (.long p3), .second, .val (.int p4), .val (.int p1), .val (.long p3), .second, .val (.ref b3), .val (.ref b18), .val (.int (rfc p0 p2 p1 p3)), .val (.int (rfc p1 p3 p0 p2)), .val (.int (0 : Int32))] [(.int (rfc p1 p3 p0 p2))]))
      refine Goes.st (fun t k => XS.iload X53.here hx rfl (hb hby at_128) rfl k) ?_
      show Goes p e below s _ _ _ (T53.setTop (mkF m 130 #[.val (.int p0), .val (.int p1), .val (.long p2), .second, .val (.long p3), .second, .val (.int p4), .val (.int p1), .val (.long p3), .second, .val (.ref b3), .val (.ref b18), .val (.int (rfc p0 p2 p1 p3)), .val (.int (rfc p1 p3 p0 p2)), .val (.int (0 : Int32))] [(.int p1), (.int (rfc p1 p3 p0 p2))]))
      refine Goes.st (fun t k => XT.lload X53.here hx rfl (hb hby at_130) rfl k) ?_
      show Goes p e below s _ _ _ (T53.setTop (mkF m 132 #[.val (.int p0), .val (.int p1), .val (.long p2), .second, .val (.long p3), .second, .val (.int p4), .val (.int p1), .val (.long p3), .second, .val (.ref b3), .val (.ref b18), .val (.int (rfc p0 p2 p1 p3)), .val (.int (rfc p1 p3 p0 p2)), .val (.int (0 : Int32))] [(.long p3), (.int p1), (.int (rfc p1 p3 p0 p2))]))
      refine Goes.st (fun t k => XS.iloadN X53.here hx rfl (hb hby at_132) rfl k) ?_
      show Goes p e below s _ _ _ (T53.setTop (mkF m 133 #[.val (.int p0), .val (.int p1), .val (.long p2), .second, .val (.long p3), .second, .val (.int p4), .val (.int p1), .val (.long p3), .second, .val (.ref b3), .val (.ref b18), .val (.int (rfc p0 p2 p1 p3)), .val (.int (rfc p1 p3 p0 p2)), .val (.int (0 : Int32))] [(.int p0), (.long p3), (.int p1), (.int (rfc p1 p3 p0 p2))]))
      refine Goes.st (fun t k => XT.lloadN X53.here hx rfl (hb hby at_133) rfl k) ?_
      show Goes p e below s _ _ _ (T53.setTop (mkF m 134 #[.val (.int p0), .val (.int p1), .val (.long p2), .second, .val (.long p3), .second, .val (.int p4), .val (.int p1), .val (.long p3), .second, .val (.ref b3), .val (.ref b18), .val (.int (rfc p0 p2 p1 p3)), .val (.int (rfc p1 p3 p0 p2)), .val (.int (0 : Int32))] [(.long p2), (.int p0), (.long p3), (.int p1), (.int (rfc p1 p3 p0 p2))]))
      obtain ⟨_, _, ⟨T54, L54, k54, n54⟩, -, X54, ⟨Lc54, hQ54, l54, y54, z54⟩, st54⟩ := Jvm.LawKit.callS X53 hx (y := (⟨"com/example/redoubt/redoubt/policies/RunsCheaperThanPinLaw", "reference", "(IJIJ)Z"⟩ : MethodName)) hown (mvT hZ (hw _ (List.mem_of_getElem? (i := 30) rfl))) (mvT hZ (hw _ (List.mem_of_getElem? (i := 31) rfl))) (mvT hZ (hw _ (List.mem_of_getElem? (i := 32) rfl))) (mvT hZ (hw _ (List.mem_of_getElem? (i := 33) rfl))) (by decide) (backOf (W := 1) (rmE l Z a0 hw [] p1 p3 p0 p2 T44.heap n0 Z44 ) hZ (hw _ (List.mem_of_getElem? (i := 33) rfl)) (hw _ (List.mem_of_getElem? (i := 32) rfl)) (by decide) (by decide)) (g := (mkF m 134 #[.val (.int p0), .val (.int p1), .val (.long p2), .second, .val (.long p3), .second, .val (.int p4), .val (.int p1), .val (.long p3), .second, .val (.ref b3), .val (.ref b18), .val (.int (rfc p0 p2 p1 p3)), .val (.int (rfc p1 p3 p0 p2)), .val (.int (0 : Int32))] [(.long p2), (.int p0), (.long p3), (.int p1), (.int (rfc p1 p3 p0 p2))])) rfl (by rw [hml]; rfl) (argsL := [(.int p1), (.long p3), (.int p0), (.long p2)]) (rest := [(.int (rfc p1 p3 p0 p2))]) (lenOf pd__IJIJ_Z_1280 rfl) rfl (by show 2 * 0 + _ ≤ _; exact Nat.le_of_eq rfl) (hb hby at_134) (fun _ _ => ⟨rfl, eh53, (by decide : 6 + 0 ≤ 24), (by decide : 12 + 0 ≤ 128)⟩)
      dsimp only [Pt.U, Pt.locs, Pt.cells, Pt.slots] at X54 l54 y54 z54 st54 hQ54
      subst l54 y54 z54
      obtain ⟨rfl, N54q, eh54⟩ := hQ54
      have N54 := Fr.app N53 N54q
      refine Goes.st st54 ?_
      show Goes p e below s _ _ _ (T54.setTop (mkF m 137 #[.val (.int p0), .val (.int p1), .val (.long p2), .second, .val (.long p3), .second, .val (.int p4), .val (.int p1), .val (.long p3), .second, .val (.ref b3), .val (.ref b18), .val (.int (rfc p0 p2 p1 p3)), .val (.int (rfc p1 p3 p0 p2)), .val (.int (0 : Int32))] [(.int (rfc p1 p3 p0 p2)), (.int (rfc p1 p3 p0 p2))]))
      refine Goes.st (fun t k => XS.icmpNo X54.here hx rfl (hb hby at_137) rfl (teq (rfl : (rfc p1 p3 p0 p2) = (rfc p1 p3 p0 p2))).2 k) ?_
      show Goes p e below s _ _ _ (T54.setTop (mkF m 140 #[.val (.int p0), .val (.int p1), .val (.long p2), .second, .val (.long p3), .second, .val (.int p4), .val (.int p1), .val (.long p3), .second, .val (.ref b3), .val (.ref b18), .val (.int (rfc p0 p2 p1 p3)), .val (.int (rfc p1 p3 p0 p2)), .val (.int (0 : Int32))] []))
      refine Goes.st (fun t k => XS.iload X54.here hx rfl (hb hby at_140) rfl k) ?_
      show Goes p e below s _ _ _ (T54.setTop (mkF m 142 #[.val (.int p0), .val (.int p1), .val (.long p2), .second, .val (.long p3), .second, .val (.int p4), .val (.int p1), .val (.long p3), .second, .val (.ref b3), .val (.ref b18), .val (.int (rfc p0 p2 p1 p3)), .val (.int (rfc p1 p3 p0 p2)), .val (.int (0 : Int32))] [(.int (0 : Int32))]))
      refine Goes.st (fun t k => XS.ifNo X54.here hx rfl (hb hby at_142) rfl (by decide) k) ?_
      show Goes p e below s _ _ _ (T54.setTop (mkF m 145 #[.val (.int p0), .val (.int p1), .val (.long p2), .second, .val (.long p3), .second, .val (.int p4), .val (.int p1), .val (.long p3), .second, .val (.ref b3), .val (.ref b18), .val (.int (rfc p0 p2 p1 p3)), .val (.int (rfc p1 p3 p0 p2)), .val (.int (0 : Int32))] []))
      refine Goes.st (fun t k => XS.iconst X54.here hx rfl (hb hby at_145) k) ?_
      show Goes p e below s _ _ _ (T54.setTop (mkF m 146 #[.val (.int p0), .val (.int p1), .val (.long p2), .second, .val (.long p3), .second, .val (.int p4), .val (.int p1), .val (.long p3), .second, .val (.ref b3), .val (.ref b18), .val (.int (rfc p0 p2 p1 p3)), .val (.int (rfc p1 p3 p0 p2)), .val (.int (0 : Int32))] [(.int (1 : Int32))]))
      refine Goes.st (fun t k => XS.goto X54.here hx rfl (pc0 := 146) (pc' := 150) rfl (hb hby at_146) (by decide) (by decide) k) ?_
      show Goes p e below s _ _ _ (T54.setTop (mkF m 150 #[.val (.int p0), .val (.int p1), .val (.long p2), .second, .val (.long p3), .second, .val (.int p4), .val (.int p1), .val (.long p3), .second, .val (.ref b3), .val (.ref b18), .val (.int (rfc p0 p2 p1 p3)), .val (.int (rfc p1 p3 p0 p2)), .val (.int (0 : Int32))] [(.int (1 : Int32))]))
      refine Goes.retN X54 hx hlk hret (by simp) (hb hby at_150) (by decide) ?_ (by decide) (by decide)
      rw [eh54]
      exact ⟨rfl, N54⟩
    · refine Goes.st (fun t k => XS.ifNo X0.here hx rfl (hb hby at_18) rfl ((if0 _ _).trans (feq c2).1) k) ?_
      show Goes p e below s _ _ _ (s₁.setTop (mkF m 21 #[.val (.int p0), .val (.int p1), .val (.long p2), .second, .val (.long p3), .second, .val (.int p4), .val (.int p1), .unset, .unset, .unset, .unset, .unset, .unset, .unset] []))
      refine Goes.st (fun t k => XT.lloadN X0.here hx rfl (hb hby at_21) rfl k) ?_
      show Goes p e below s _ _ _ (s₁.setTop (mkF m 22 #[.val (.int p0), .val (.int p1), .val (.long p2), .second, .val (.long p3), .second, .val (.int p4), .val (.int p1), .unset, .unset, .unset, .unset, .unset, .unset, .unset] [(.long p2)]))
      refine Goes.st (fun t k => XS.goto X0.here hx rfl (pc0 := 22) (pc' := 27) rfl (hb hby at_22) (by decide) (by decide) k) ?_
      show Goes p e below s _ _ _ (s₁.setTop (mkF m 27 #[.val (.int p0), .val (.int p1), .val (.long p2), .second, .val (.long p3), .second, .val (.int p4), .val (.int p1), .unset, .unset, .unset, .unset, .unset, .unset, .unset] [(.long p2)]))
      refine Goes.st (fun t k => XT.lstore X0.here hx rfl (hb hby at_27) rfl (l' := #[.val (.int p0), .val (.int p1), .val (.long p2), .second, .val (.long p3), .second, .val (.int p4), .val (.int p1), .val (.long p2), .second, .unset, .unset, .unset, .unset, .unset]) rfl k) ?_
      show Goes p e below s _ _ _ (s₁.setTop (mkF m 29 #[.val (.int p0), .val (.int p1), .val (.long p2), .second, .val (.long p3), .second, .val (.int p4), .val (.int p1), .val (.long p2), .second, .unset, .unset, .unset, .unset, .unset] []))
      obtain ⟨T55, h55, X55, e55, E55, A55, D55, -, st55⟩ := newO X0 hx hZ hown (hw _ (List.mem_of_getElem? (i := 0) rfl)) (hw _ (List.mem_of_getElem? (i := 1) rfl)) (hw _ (List.mem_of_getElem? (i := 2) rfl)) e0 (g := (mkF m 29 #[.val (.int p0), .val (.int p1), .val (.long p2), .second, .val (.long p3), .second, .val (.int p4), .val (.int p1), .val (.long p2), .second, .unset, .unset, .unset, .unset, .unset] [])) rfl (hb hby at_29) (by decide) (by decide)
      obtain ⟨b55, g55⟩ : ∃ z, z = h0.size := ⟨_, rfl⟩
      rw [← g55] at A55 D55 st55
      have lo_b55 : n0 ≤ b55 := by have := Z0; omega
      refine Goes.st st55 ?_
      have Z55 : n0 ≤ h55.size := Nat.le_trans Z0 E55.1
      have F55_procs : Fld Z h55 b55 "com/example/redoubt/redoubt/policies/AttemptCounts$Runs" "procs" "[I" .null := D55 (Or.inr (hw _ (List.mem_of_getElem? (i := 16) rfl))) (ty := (.array .int)) (by decide)
      have F55_attempts : Fld Z h55 b55 "com/example/redoubt/redoubt/policies/AttemptCounts$Runs" "attempts" "[I" .null := D55 (Or.inr (hw _ (List.mem_of_getElem? (i := 18) rfl))) (ty := (.array .int)) (by decide)
      have F55_time : Fld Z h55 b55 "com/example/redoubt/redoubt/policies/AttemptCounts$Runs" "time" "D" (.double (0 : UInt64)) := D55 (Or.inr (hw _ (List.mem_of_getElem? (i := 20) rfl))) (ty := .double) (by decide)
      have F55_area : Fld Z h55 b55 "com/example/redoubt/redoubt/policies/AttemptCounts$Runs" "area" "D" (.double (0 : UInt64)) := D55 (Or.inr (hw _ (List.mem_of_getElem? (i := 22) rfl))) (ty := .double) (by decide)
      have F55_processors : Fld Z h55 b55 "com/example/redoubt/redoubt/policies/AttemptCounts$Runs" "processors" "J" (.long (0 : Int64)) := D55 (Or.inr (hw _ (List.mem_of_getElem? (i := 24) rfl))) (ty := .long) (by decide)
      show Goes p e below s _ _ _ (T55.setTop (mkF m 32 #[.val (.int p0), .val (.int p1), .val (.long p2), .second, .val (.long p3), .second, .val (.int p4), .val (.int p1), .val (.long p2), .second, .unset, .unset, .unset, .unset, .unset] [(.ref b55)]))
      refine Goes.st (fun t k => XS.dup X55.here hx rfl (hb hby at_32) rfl rfl k) ?_
      show Goes p e below s _ _ _ (T55.setTop (mkF m 33 #[.val (.int p0), .val (.int p1), .val (.long p2), .second, .val (.long p3), .second, .val (.int p4), .val (.int p1), .val (.long p2), .second, .unset, .unset, .unset, .unset, .unset] [(.ref b55), (.ref b55)]))
      refine Goes.st (fun t k => XS.iconst X55.here hx rfl (hb hby at_33) k) ?_
      show Goes p e below s _ _ _ (T55.setTop (mkF m 34 #[.val (.int p0), .val (.int p1), .val (.long p2), .second, .val (.long p3), .second, .val (.int p4), .val (.int p1), .val (.long p2), .second, .unset, .unset, .unset, .unset, .unset] [(.int (0 : Int32)), (.ref b55), (.ref b55)]))
      obtain ⟨T57, h57, cA57, X57, e57, E57, A57, st57⟩ := newP X55 hx hZ (hw _ (List.mem_of_getElem? (i := 3) rfl)) e55 (g := (mkF m 34 #[.val (.int p0), .val (.int p1), .val (.long p2), .second, .val (.long p3), .second, .val (.int p4), .val (.int p1), .val (.long p2), .second, .unset, .unset, .unset, .unset, .unset] [(.int (0 : Int32)), (.ref b55), (.ref b55)])) rfl (hb hby at_34) rfl (by decide) (cap := 0) (by decide) (by decide) (by decide) (by decide)
      obtain ⟨b57, g57⟩ : ∃ z, z = h55.size := ⟨_, rfl⟩
      rw [← g57] at A57 st57
      have ne_b55_b57 : b55 ≠ b57 := Nat.ne_of_lt (Nat.lt_of_lt_of_le A55.lt (Nat.le_of_eq g57.symm))
      have lo_b57 : n0 ≤ b57 := by have := Z55; omega
      have V57 : Arv Z h57 b57 cA57 .int (0 : Int32) [] (.int (0 : Int32)) := (Arv.new A57 (by decide)).pad (pad_rep [] _ 0)
      refine Goes.st st57 ?_
      have Z57 : n0 ≤ h57.size := Nat.le_trans Z55 E57.1
      show Goes p e below s _ _ _ (T57.setTop (mkF m 36 #[.val (.int p0), .val (.int p1), .val (.long p2), .second, .val (.long p3), .second, .val (.int p4), .val (.int p1), .val (.long p2), .second, .unset, .unset, .unset, .unset, .unset] [(.ref b57), (.ref b55), (.ref b55)]))
      refine Goes.st (fun t k => XS.iconst X57.here hx rfl (hb hby at_36) k) ?_
      show Goes p e below s _ _ _ (T57.setTop (mkF m 37 #[.val (.int p0), .val (.int p1), .val (.long p2), .second, .val (.long p3), .second, .val (.int p4), .val (.int p1), .val (.long p2), .second, .unset, .unset, .unset, .unset, .unset] [(.int (0 : Int32)), (.ref b57), (.ref b55), (.ref b55)]))
      obtain ⟨T59, h59, cA59, X59, e59, E59, A59, st59⟩ := newP X57 hx hZ (hw _ (List.mem_of_getElem? (i := 3) rfl)) e57 (g := (mkF m 37 #[.val (.int p0), .val (.int p1), .val (.long p2), .second, .val (.long p3), .second, .val (.int p4), .val (.int p1), .val (.long p2), .second, .unset, .unset, .unset, .unset, .unset] [(.int (0 : Int32)), (.ref b57), (.ref b55), (.ref b55)])) rfl (hb hby at_37) rfl (by decide) (cap := 0) (by decide) (by decide) (by decide) (by decide)
      obtain ⟨b59, g59⟩ : ∃ z, z = h57.size := ⟨_, rfl⟩
      rw [← g59] at A59 st59
      have f60 := (A55.ext E57)
      have ne_b55_b59 : b55 ≠ b59 := Nat.ne_of_lt (Nat.lt_of_lt_of_le f60.lt (Nat.le_of_eq g59.symm))
      have ne_b57_b59 : b57 ≠ b59 := Nat.ne_of_lt (Nat.lt_of_lt_of_le V57.lt (Nat.le_of_eq g59.symm))
      have lo_b59 : n0 ≤ b59 := by have := Z57; omega
      have V59 : Arv Z h59 b59 cA59 .int (0 : Int32) [] (.int (0 : Int32)) := (Arv.new A59 (by decide)).pad (pad_rep [] _ 0)
      refine Goes.st st59 ?_
      have Z59 : n0 ≤ h59.size := Nat.le_trans Z57 E59.1
      show Goes p e below s _ _ _ (T59.setTop (mkF m 39 #[.val (.int p0), .val (.int p1), .val (.long p2), .second, .val (.long p3), .second, .val (.int p4), .val (.int p1), .val (.long p2), .second, .unset, .unset, .unset, .unset, .unset] [(.ref b59), (.ref b57), (.ref b55), (.ref b55)]))
      refine Goes.st (fun t k => XS.iload X59.here hx rfl (hb hby at_39) rfl k) ?_
      show Goes p e below s _ _ _ (T59.setTop (mkF m 41 #[.val (.int p0), .val (.int p1), .val (.long p2), .second, .val (.long p3), .second, .val (.int p4), .val (.int p1), .val (.long p2), .second, .unset, .unset, .unset, .unset, .unset] [(.int p4), (.ref b59), (.ref b57), (.ref b55), (.ref b55)]))
      refine Goes.st (fun t k => XS.iconst X59.here hx rfl (hb hby at_41) k) ?_
      show Goes p e below s _ _ _ (T59.setTop (mkF m 42 #[.val (.int p0), .val (.int p1), .val (.long p2), .second, .val (.long p3), .second, .val (.int p4), .val (.int p1), .val (.long p2), .second, .unset, .unset, .unset, .unset, .unset] [(.int (2 : Int32)), (.int p4), (.ref b59), (.ref b57), (.ref b55), (.ref b55)]))
      refine Goes.st (fun t k => XT.ishr X59.here hx rfl (hb hby at_42) rfl k) ?_
      show Goes p e below s _ _ _ (T59.setTop (mkF m 43 #[.val (.int p0), .val (.int p1), .val (.long p2), .second, .val (.long p3), .second, .val (.int p4), .val (.int p1), .val (.long p2), .second, .unset, .unset, .unset, .unset, .unset] [(.int (p4 >>> ((2 : Int32) &&& 31))), (.ref b59), (.ref b57), (.ref b55), (.ref b55)]))
      refine Goes.st (fun t k => XS.i2dS X59.here hx rfl (hb hby at_43) rfl (v := (FP.i2d (p4 >>> ((2 : Int32) &&& 31)))) rfl k) ?_
      show Goes p e below s _ _ _ (T59.setTop (mkF m 44 #[.val (.int p0), .val (.int p1), .val (.long p2), .second, .val (.long p3), .second, .val (.int p4), .val (.int p1), .val (.long p2), .second, .unset, .unset, .unset, .unset, .unset] [(.double (FP.i2d (p4 >>> ((2 : Int32) &&& 31)))), (.ref b59), (.ref b57), (.ref b55), (.ref b55)]))
      refine Goes.st (fun t k => XS.iloadN X59.here hx rfl (hb hby at_44) rfl k) ?_
      show Goes p e below s _ _ _ (T59.setTop (mkF m 45 #[.val (.int p0), .val (.int p1), .val (.long p2), .second, .val (.long p3), .second, .val (.int p4), .val (.int p1), .val (.long p2), .second, .unset, .unset, .unset, .unset, .unset] [(.int p0), (.double (FP.i2d (p4 >>> ((2 : Int32) &&& 31)))), (.ref b59), (.ref b57), (.ref b55), (.ref b55)]))
      refine Goes.st (fun t k => XS.i2dS X59.here hx rfl (hb hby at_45) rfl (v := (FP.i2d p0)) rfl k) ?_
      show Goes p e below s _ _ _ (T59.setTop (mkF m 46 #[.val (.int p0), .val (.int p1), .val (.long p2), .second, .val (.long p3), .second, .val (.int p4), .val (.int p1), .val (.long p2), .second, .unset, .unset, .unset, .unset, .unset] [(.double (FP.i2d p0)), (.double (FP.i2d (p4 >>> ((2 : Int32) &&& 31)))), (.ref b59), (.ref b57), (.ref b55), (.ref b55)]))
      refine Goes.st (fun t k => XT.lloadN X59.here hx rfl (hb hby at_46) rfl k) ?_
      show Goes p e below s _ _ _ (T59.setTop (mkF m 47 #[.val (.int p0), .val (.int p1), .val (.long p2), .second, .val (.long p3), .second, .val (.int p4), .val (.int p1), .val (.long p2), .second, .unset, .unset, .unset, .unset, .unset] [(.long p2), (.double (FP.i2d p0)), (.double (FP.i2d (p4 >>> ((2 : Int32) &&& 31)))), (.ref b59), (.ref b57), (.ref b55), (.ref b55)]))
      have f62 := (f60.ext E59)
      have f63 := ((F55_procs.ext E57).ext E59)
      have f64 := ((F55_attempts.ext E57).ext E59)
      have f65 := ((F55_time.ext E57).ext E59)
      have f66 := ((F55_area.ext E57).ext E59)
      have f67 := ((F55_processors.ext E57).ext E59)
      obtain ⟨_, _, ⟨T68, L68, k68, n68⟩, -, X68, ⟨Lc68, hQ68, l68, y68, z68⟩, st68⟩ := X59.specialBack hx (y := (⟨"com/example/redoubt/redoubt/policies/AttemptCounts$Runs", "<init>", "([I[IDDJ)V"⟩ : MethodName)) rfl hown (mvT hZ (hw _ (List.mem_of_getElem? (i := 4) rfl))) (mvT hZ (hw _ (List.mem_of_getElem? (i := 5) rfl))) (mvT hZ (hw _ (List.mem_of_getElem? (i := 6) rfl))) (by decide) (backOf (W := 1) (rmC l Z a0 hw [] b55 b57 b59 (FP.i2d (p4 >>> ((2 : Int32) &&& 31))) (FP.i2d p0) p2 .null .null (.double (0 : UInt64)) (.double (0 : UInt64)) (.long (0 : Int64)) h59 n0 Z59 f62 lo_b55 f63 f64 f65 f66 f67) hZ (hw _ (List.mem_of_getElem? (i := 6) rfl)) (hw _ (List.mem_of_getElem? (i := 2) rfl)) (by decide) (by decide)) (g := (mkF m 47 #[.val (.int p0), .val (.int p1), .val (.long p2), .second, .val (.long p3), .second, .val (.int p4), .val (.int p1), .val (.long p2), .second, .unset, .unset, .unset, .unset, .unset] [(.long p2), (.double (FP.i2d p0)), (.double (FP.i2d (p4 >>> ((2 : Int32) &&& 31)))), (.ref b59), (.ref b57), (.ref b55), (.ref b55)])) rfl (by rw [hml]; rfl) (Steps.refl _) (a := b55) (argsL := [(.ref b57), (.ref b59), (.double (FP.i2d (p4 >>> ((2 : Int32) &&& 31)))), (.double (FP.i2d p0)), (.long p2)]) (rest := [(.ref b55)]) (lenOf pd___I_IDDJ_V_1fa9 rfl) rfl (by show 2 * 0 + _ ≤ _; exact Nat.le_of_eq rfl) (hb hby at_47) (fun _ _ => ⟨rfl, e59, (by decide : 3 + 0 ≤ 24), (by decide : 5 + 0 ≤ 128)⟩)
      dsimp only [Pt.U, Pt.locs, Pt.cells, Pt.slots] at X68 l68 y68 z68 st68 hQ68
      subst l68 y68 z68
      obtain ⟨rfl, N68q, K68, R68_0, R68_1, R68_2, R68_3, R68_4⟩ := hQ68
      have Z68 : n0 ≤ T68.heap.size := Nat.le_trans Z59 K68.1
      have N68 := Fr.app N0 N68q
      refine Goes.sts st68 ?_
      show Goes p e below s _ _ _ (T68.setTop (mkF m 50 #[.val (.int p0), .val (.int p1), .val (.long p2), .second, .val (.long p3), .second, .val (.int p4), .val (.int p1), .val (.long p2), .second, .unset, .unset, .unset, .unset, .unset] [(.ref b55)]))
      refine Goes.st (fun t k => XS.astore X68.here hx rfl (hb hby at_50) rfl rfl (l' := #[.val (.int p0), .val (.int p1), .val (.long p2), .second, .val (.long p3), .second, .val (.int p4), .val (.int p1), .val (.long p2), .second, .val (.ref b55), .unset, .unset, .unset, .unset]) rfl k) ?_
      show Goes p e below s _ _ _ (T68.setTop (mkF m 52 #[.val (.int p0), .val (.int p1), .val (.long p2), .second, .val (.long p3), .second, .val (.int p4), .val (.int p1), .val (.long p2), .second, .val (.ref b55), .unset, .unset, .unset, .unset] []))
      obtain ⟨T70, h70, X70, e70, E70, A70, D70, -, st70⟩ := newO X68 hx hZ hown (hw _ (List.mem_of_getElem? (i := 0) rfl)) (hw _ (List.mem_of_getElem? (i := 1) rfl)) (hw _ (List.mem_of_getElem? (i := 2) rfl)) rfl (g := (mkF m 52 #[.val (.int p0), .val (.int p1), .val (.long p2), .second, .val (.long p3), .second, .val (.int p4), .val (.int p1), .val (.long p2), .second, .val (.ref b55), .unset, .unset, .unset, .unset] [])) rfl (hb hby at_52) (by decide) (by decide)
      obtain ⟨b70, g70⟩ : ∃ z, z = T68.heap.size := ⟨_, rfl⟩
      rw [← g70] at A70 D70 st70
      have f71 := (f62.keep K68)
      have ne_b55_b70 : b55 ≠ b70 := Nat.ne_of_lt (Nat.lt_of_lt_of_le f71.lt (Nat.le_of_eq g70.symm))
      have f72 := ((V57.ext E59).keep K68 (ninS (Ne.symm ne_b55_b57) nin0))
      have ne_b57_b70 : b57 ≠ b70 := Nat.ne_of_lt (Nat.lt_of_lt_of_le f72.lt (Nat.le_of_eq g70.symm))
      have f73 := (V59.keep K68 (ninS (Ne.symm ne_b55_b59) nin0))
      have ne_b59_b70 : b59 ≠ b70 := Nat.ne_of_lt (Nat.lt_of_lt_of_le f73.lt (Nat.le_of_eq g70.symm))
      have lo_b70 : n0 ≤ b70 := by have := Z68; omega
      refine Goes.st st70 ?_
      have Z70 : n0 ≤ h70.size := Nat.le_trans Z68 E70.1
      have F70_procs : Fld Z h70 b70 "com/example/redoubt/redoubt/policies/AttemptCounts$Runs" "procs" "[I" .null := D70 (Or.inr (hw _ (List.mem_of_getElem? (i := 16) rfl))) (ty := (.array .int)) (by decide)
      have F70_attempts : Fld Z h70 b70 "com/example/redoubt/redoubt/policies/AttemptCounts$Runs" "attempts" "[I" .null := D70 (Or.inr (hw _ (List.mem_of_getElem? (i := 18) rfl))) (ty := (.array .int)) (by decide)
      have F70_time : Fld Z h70 b70 "com/example/redoubt/redoubt/policies/AttemptCounts$Runs" "time" "D" (.double (0 : UInt64)) := D70 (Or.inr (hw _ (List.mem_of_getElem? (i := 20) rfl))) (ty := .double) (by decide)
      have F70_area : Fld Z h70 b70 "com/example/redoubt/redoubt/policies/AttemptCounts$Runs" "area" "D" (.double (0 : UInt64)) := D70 (Or.inr (hw _ (List.mem_of_getElem? (i := 22) rfl))) (ty := .double) (by decide)
      have F70_processors : Fld Z h70 b70 "com/example/redoubt/redoubt/policies/AttemptCounts$Runs" "processors" "J" (.long (0 : Int64)) := D70 (Or.inr (hw _ (List.mem_of_getElem? (i := 24) rfl))) (ty := .long) (by decide)
      show Goes p e below s _ _ _ (T70.setTop (mkF m 55 #[.val (.int p0), .val (.int p1), .val (.long p2), .second, .val (.long p3), .second, .val (.int p4), .val (.int p1), .val (.long p2), .second, .val (.ref b55), .unset, .unset, .unset, .unset] [(.ref b70)]))
      refine Goes.st (fun t k => XS.dup X70.here hx rfl (hb hby at_55) rfl rfl k) ?_
      show Goes p e below s _ _ _ (T70.setTop (mkF m 56 #[.val (.int p0), .val (.int p1), .val (.long p2), .second, .val (.long p3), .second, .val (.int p4), .val (.int p1), .val (.long p2), .second, .val (.ref b55), .unset, .unset, .unset, .unset] [(.ref b70), (.ref b70)]))
      refine Goes.st (fun t k => XS.iconst X70.here hx rfl (hb hby at_56) k) ?_
      show Goes p e below s _ _ _ (T70.setTop (mkF m 57 #[.val (.int p0), .val (.int p1), .val (.long p2), .second, .val (.long p3), .second, .val (.int p4), .val (.int p1), .val (.long p2), .second, .val (.ref b55), .unset, .unset, .unset, .unset] [(.int (1 : Int32)), (.ref b70), (.ref b70)]))
      obtain ⟨T75, h75, cA75, X75, e75, E75, A75, st75⟩ := newP X70 hx hZ (hw _ (List.mem_of_getElem? (i := 3) rfl)) e70 (g := (mkF m 57 #[.val (.int p0), .val (.int p1), .val (.long p2), .second, .val (.long p3), .second, .val (.int p4), .val (.int p1), .val (.long p2), .second, .val (.ref b55), .unset, .unset, .unset, .unset] [(.int (1 : Int32)), (.ref b70), (.ref b70)])) rfl (hb hby at_57) rfl (by decide) (cap := 1) (by decide) (by decide) (by decide) (by decide)
      obtain ⟨b75, g75⟩ : ∃ z, z = h70.size := ⟨_, rfl⟩
      rw [← g75] at A75 st75
      have f76 := (f71.ext E70)
      have ne_b55_b75 : b55 ≠ b75 := Nat.ne_of_lt (Nat.lt_of_lt_of_le f76.lt (Nat.le_of_eq g75.symm))
      have f77 := (f72.ext E70)
      have ne_b57_b75 : b57 ≠ b75 := Nat.ne_of_lt (Nat.lt_of_lt_of_le f77.lt (Nat.le_of_eq g75.symm))
      have f78 := (f73.ext E70)
      have ne_b59_b75 : b59 ≠ b75 := Nat.ne_of_lt (Nat.lt_of_lt_of_le f78.lt (Nat.le_of_eq g75.symm))
      have ne_b70_b75 : b70 ≠ b75 := Nat.ne_of_lt (Nat.lt_of_lt_of_le A70.lt (Nat.le_of_eq g75.symm))
      have lo_b75 : n0 ≤ b75 := by have := Z70; omega
      have V75 : Arv Z h75 b75 cA75 .int (1 : Int32) [(.int (0 : Int32))] (.int (0 : Int32)) := (Arv.new A75 (by decide)).pad (pad_rep [] _ 1)
      refine Goes.st st75 ?_
      have Z75 : n0 ≤ h75.size := Nat.le_trans Z70 E75.1
      show Goes p e below s _ _ _ (T75.setTop (mkF m 59 #[.val (.int p0), .val (.int p1), .val (.long p2), .second, .val (.long p3), .second, .val (.int p4), .val (.int p1), .val (.long p2), .second, .val (.ref b55), .unset, .unset, .unset, .unset] [(.ref b75), (.ref b70), (.ref b70)]))
      refine Goes.st (fun t k => XS.dup X75.here hx rfl (hb hby at_59) rfl rfl k) ?_
      show Goes p e below s _ _ _ (T75.setTop (mkF m 60 #[.val (.int p0), .val (.int p1), .val (.long p2), .second, .val (.long p3), .second, .val (.int p4), .val (.int p1), .val (.long p2), .second, .val (.ref b55), .unset, .unset, .unset, .unset] [(.ref b75), (.ref b75), (.ref b70), (.ref b70)]))
      refine Goes.st (fun t k => XS.iconst X75.here hx rfl (hb hby at_60) k) ?_
      show Goes p e below s _ _ _ (T75.setTop (mkF m 61 #[.val (.int p0), .val (.int p1), .val (.long p2), .second, .val (.long p3), .second, .val (.int p4), .val (.int p1), .val (.long p2), .second, .val (.ref b55), .unset, .unset, .unset, .unset] [(.int (0 : Int32)), (.ref b75), (.ref b75), (.ref b70), (.ref b70)]))
      refine Goes.st (fun t k => XS.iconst X75.here hx rfl (hb hby at_61) k) ?_
      show Goes p e below s _ _ _ (T75.setTop (mkF m 62 #[.val (.int p0), .val (.int p1), .val (.long p2), .second, .val (.long p3), .second, .val (.int p4), .val (.int p1), .val (.long p2), .second, .val (.ref b55), .unset, .unset, .unset, .unset] [(.int (1 : Int32)), (.int (0 : Int32)), (.ref b75), (.ref b75), (.ref b70), (.ref b70)]))
      obtain ⟨cl80, Ar80, qk80, Sz80, qz80, Ha80, Gf80⟩ := V75
      obtain ⟨T80, h80, X80, e80, W80, st80⟩ := stI X75 hx hZ e75 Ar80 (inb_of Sz80 ⟨by decide, by decide⟩) (g := (mkF m 62 #[.val (.int p0), .val (.int p1), .val (.long p2), .second, .val (.long p3), .second, .val (.int p4), .val (.int p1), .val (.long p2), .second, .val (.ref b55), .unset, .unset, .unset, .unset] [(.int (1 : Int32)), (.int (0 : Int32)), (.ref b75), (.ref b75), (.ref b70), (.ref b70)])) rfl rfl (hb hby at_62)
      have N80 := Fr.snoc X80 N68 lo_b75
      have V80 : Arv Z h80 b75 cA75 .int (1 : Int32) [(.int (1 : Int32))] (.int (0 : Int32)) := Arv.set Ar80 qk80 Sz80 qz80 Ha80 Gf80 rfl W80 0 (by decide) (by simp)
      refine Goes.st st80 ?_
      have Z80 : n0 ≤ h80.size := by have := W80.size; have := Z75; omega
      show Goes p e below s _ _ _ (T80.setTop (mkF m 63 #[.val (.int p0), .val (.int p1), .val (.long p2), .second, .val (.long p3), .second, .val (.int p4), .val (.int p1), .val (.long p2), .second, .val (.ref b55), .unset, .unset, .unset, .unset] [(.ref b75), (.ref b70), (.ref b70)]))
      refine Goes.st (fun t k => XS.iconst X80.here hx rfl (hb hby at_63) k) ?_
      show Goes p e below s _ _ _ (T80.setTop (mkF m 64 #[.val (.int p0), .val (.int p1), .val (.long p2), .second, .val (.long p3), .second, .val (.int p4), .val (.int p1), .val (.long p2), .second, .val (.ref b55), .unset, .unset, .unset, .unset] [(.int (1 : Int32)), (.ref b75), (.ref b70), (.ref b70)]))
      obtain ⟨T82, h82, cA82, X82, e82, E82, A82, st82⟩ := newP X80 hx hZ (hw _ (List.mem_of_getElem? (i := 3) rfl)) e80 (g := (mkF m 64 #[.val (.int p0), .val (.int p1), .val (.long p2), .second, .val (.long p3), .second, .val (.int p4), .val (.int p1), .val (.long p2), .second, .val (.ref b55), .unset, .unset, .unset, .unset] [(.int (1 : Int32)), (.ref b75), (.ref b70), (.ref b70)])) rfl (hb hby at_64) rfl (by decide) (cap := 1) (by decide) (by decide) (by decide) (by decide)
      obtain ⟨b82, g82⟩ : ∃ z, z = h80.size := ⟨_, rfl⟩
      rw [← g82] at A82 st82
      have f83 := ((f76.ext E75).wr W80)
      have ne_b55_b82 : b55 ≠ b82 := Nat.ne_of_lt (Nat.lt_of_lt_of_le f83.lt (Nat.le_of_eq g82.symm))
      have f84 := ((f77.ext E75).other W80 ne_b57_b75)
      have ne_b57_b82 : b57 ≠ b82 := Nat.ne_of_lt (Nat.lt_of_lt_of_le f84.lt (Nat.le_of_eq g82.symm))
      have f85 := ((f78.ext E75).other W80 ne_b59_b75)
      have ne_b59_b82 : b59 ≠ b82 := Nat.ne_of_lt (Nat.lt_of_lt_of_le f85.lt (Nat.le_of_eq g82.symm))
      have f86 := ((A70.ext E75).wr W80)
      have ne_b70_b82 : b70 ≠ b82 := Nat.ne_of_lt (Nat.lt_of_lt_of_le f86.lt (Nat.le_of_eq g82.symm))
      have ne_b75_b82 : b75 ≠ b82 := Nat.ne_of_lt (Nat.lt_of_lt_of_le V80.lt (Nat.le_of_eq g82.symm))
      have lo_b82 : n0 ≤ b82 := by have := Z80; omega
      have V82 : Arv Z h82 b82 cA82 .int (1 : Int32) [(.int (0 : Int32))] (.int (0 : Int32)) := (Arv.new A82 (by decide)).pad (pad_rep [] _ 1)
      refine Goes.st st82 ?_
      have Z82 : n0 ≤ h82.size := Nat.le_trans Z80 E82.1
      show Goes p e below s _ _ _ (T82.setTop (mkF m 66 #[.val (.int p0), .val (.int p1), .val (.long p2), .second, .val (.long p3), .second, .val (.int p4), .val (.int p1), .val (.long p2), .second, .val (.ref b55), .unset, .unset, .unset, .unset] [(.ref b82), (.ref b75), (.ref b70), (.ref b70)]))
      refine Goes.st (fun t k => XS.dup X82.here hx rfl (hb hby at_66) rfl rfl k) ?_
      show Goes p e below s _ _ _ (T82.setTop (mkF m 67 #[.val (.int p0), .val (.int p1), .val (.long p2), .second, .val (.long p3), .second, .val (.int p4), .val (.int p1), .val (.long p2), .second, .val (.ref b55), .unset, .unset, .unset, .unset] [(.ref b82), (.ref b82), (.ref b75), (.ref b70), (.ref b70)]))
      refine Goes.st (fun t k => XS.iconst X82.here hx rfl (hb hby at_67) k) ?_
      show Goes p e below s _ _ _ (T82.setTop (mkF m 68 #[.val (.int p0), .val (.int p1), .val (.long p2), .second, .val (.long p3), .second, .val (.int p4), .val (.int p1), .val (.long p2), .second, .val (.ref b55), .unset, .unset, .unset, .unset] [(.int (0 : Int32)), (.ref b82), (.ref b82), (.ref b75), (.ref b70), (.ref b70)]))
      refine Goes.st (fun t k => XS.iconst X82.here hx rfl (hb hby at_68) k) ?_
      show Goes p e below s _ _ _ (T82.setTop (mkF m 69 #[.val (.int p0), .val (.int p1), .val (.long p2), .second, .val (.long p3), .second, .val (.int p4), .val (.int p1), .val (.long p2), .second, .val (.ref b55), .unset, .unset, .unset, .unset] [(.int (1 : Int32)), (.int (0 : Int32)), (.ref b82), (.ref b82), (.ref b75), (.ref b70), (.ref b70)]))
      obtain ⟨cl88, Ar88, qk88, Sz88, qz88, Ha88, Gf88⟩ := V82
      obtain ⟨T88, h88, X88, e88, W88, st88⟩ := stI X82 hx hZ e82 Ar88 (inb_of Sz88 ⟨by decide, by decide⟩) (g := (mkF m 69 #[.val (.int p0), .val (.int p1), .val (.long p2), .second, .val (.long p3), .second, .val (.int p4), .val (.int p1), .val (.long p2), .second, .val (.ref b55), .unset, .unset, .unset, .unset] [(.int (1 : Int32)), (.int (0 : Int32)), (.ref b82), (.ref b82), (.ref b75), (.ref b70), (.ref b70)])) rfl rfl (hb hby at_69)
      have N88 := Fr.snoc X88 N80 lo_b82
      have V88 : Arv Z h88 b82 cA82 .int (1 : Int32) [(.int (1 : Int32))] (.int (0 : Int32)) := Arv.set Ar88 qk88 Sz88 qz88 Ha88 Gf88 rfl W88 0 (by decide) (by simp)
      refine Goes.st st88 ?_
      have Z88 : n0 ≤ h88.size := by have := W88.size; have := Z82; omega
      show Goes p e below s _ _ _ (T88.setTop (mkF m 70 #[.val (.int p0), .val (.int p1), .val (.long p2), .second, .val (.long p3), .second, .val (.int p4), .val (.int p1), .val (.long p2), .second, .val (.ref b55), .unset, .unset, .unset, .unset] [(.ref b82), (.ref b75), (.ref b70), (.ref b70)]))
      refine Goes.st (fun t k => XS.iload X88.here hx rfl (hb hby at_70) rfl k) ?_
      show Goes p e below s _ _ _ (T88.setTop (mkF m 72 #[.val (.int p0), .val (.int p1), .val (.long p2), .second, .val (.long p3), .second, .val (.int p4), .val (.int p1), .val (.long p2), .second, .val (.ref b55), .unset, .unset, .unset, .unset] [(.int p4), (.ref b82), (.ref b75), (.ref b70), (.ref b70)]))
      refine Goes.st (fun t k => XS.iconst X88.here hx rfl (hb hby at_72) k) ?_
      show Goes p e below s _ _ _ (T88.setTop (mkF m 73 #[.val (.int p0), .val (.int p1), .val (.long p2), .second, .val (.long p3), .second, .val (.int p4), .val (.int p1), .val (.long p2), .second, .val (.ref b55), .unset, .unset, .unset, .unset] [(.int (3 : Int32)), (.int p4), (.ref b82), (.ref b75), (.ref b70), (.ref b70)]))
      refine Goes.st (fun t k => XT.ishr X88.here hx rfl (hb hby at_73) rfl k) ?_
      show Goes p e below s _ _ _ (T88.setTop (mkF m 74 #[.val (.int p0), .val (.int p1), .val (.long p2), .second, .val (.long p3), .second, .val (.int p4), .val (.int p1), .val (.long p2), .second, .val (.ref b55), .unset, .unset, .unset, .unset] [(.int (p4 >>> ((3 : Int32) &&& 31))), (.ref b82), (.ref b75), (.ref b70), (.ref b70)]))
      refine Goes.st (fun t k => XS.i2dS X88.here hx rfl (hb hby at_74) rfl (v := (FP.i2d (p4 >>> ((3 : Int32) &&& 31)))) rfl k) ?_
      show Goes p e below s _ _ _ (T88.setTop (mkF m 75 #[.val (.int p0), .val (.int p1), .val (.long p2), .second, .val (.long p3), .second, .val (.int p4), .val (.int p1), .val (.long p2), .second, .val (.ref b55), .unset, .unset, .unset, .unset] [(.double (FP.i2d (p4 >>> ((3 : Int32) &&& 31)))), (.ref b82), (.ref b75), (.ref b70), (.ref b70)]))
      refine Goes.st (fun t k => XS.iload X88.here hx rfl (hb hby at_75) rfl k) ?_
      show Goes p e below s _ _ _ (T88.setTop (mkF m 77 #[.val (.int p0), .val (.int p1), .val (.long p2), .second, .val (.long p3), .second, .val (.int p4), .val (.int p1), .val (.long p2), .second, .val (.ref b55), .unset, .unset, .unset, .unset] [(.int p1), (.double (FP.i2d (p4 >>> ((3 : Int32) &&& 31)))), (.ref b82), (.ref b75), (.ref b70), (.ref b70)]))
      refine Goes.st (fun t k => XS.i2dS X88.here hx rfl (hb hby at_77) rfl (v := (FP.i2d p1)) rfl k) ?_
      show Goes p e below s _ _ _ (T88.setTop (mkF m 78 #[.val (.int p0), .val (.int p1), .val (.long p2), .second, .val (.long p3), .second, .val (.int p4), .val (.int p1), .val (.long p2), .second, .val (.ref b55), .unset, .unset, .unset, .unset] [(.double (FP.i2d p1)), (.double (FP.i2d (p4 >>> ((3 : Int32) &&& 31)))), (.ref b82), (.ref b75), (.ref b70), (.ref b70)]))
      refine Goes.st (fun t k => XT.lload X88.here hx rfl (hb hby at_78) rfl k) ?_
      show Goes p e below s _ _ _ (T88.setTop (mkF m 80 #[.val (.int p0), .val (.int p1), .val (.long p2), .second, .val (.long p3), .second, .val (.int p4), .val (.int p1), .val (.long p2), .second, .val (.ref b55), .unset, .unset, .unset, .unset] [(.long p2), (.double (FP.i2d p1)), (.double (FP.i2d (p4 >>> ((3 : Int32) &&& 31)))), (.ref b82), (.ref b75), (.ref b70), (.ref b70)]))
      have f90 := ((f86.ext E82).wr W88)
      have f91 := ((((F70_procs.ext E75).other W80 (Or.inl ne_b70_b75)).ext E82).other W88 (Or.inl ne_b70_b82))
      have f92 := ((((F70_attempts.ext E75).other W80 (Or.inl ne_b70_b75)).ext E82).other W88 (Or.inl ne_b70_b82))
      have f93 := ((((F70_time.ext E75).other W80 (Or.inl ne_b70_b75)).ext E82).other W88 (Or.inl ne_b70_b82))
      have f94 := ((((F70_area.ext E75).other W80 (Or.inl ne_b70_b75)).ext E82).other W88 (Or.inl ne_b70_b82))
      have f95 := ((((F70_processors.ext E75).other W80 (Or.inl ne_b70_b75)).ext E82).other W88 (Or.inl ne_b70_b82))
      obtain ⟨_, _, ⟨T96, L96, k96, n96⟩, -, X96, ⟨Lc96, hQ96, l96, y96, z96⟩, st96⟩ := X88.specialBack hx (y := (⟨"com/example/redoubt/redoubt/policies/AttemptCounts$Runs", "<init>", "([I[IDDJ)V"⟩ : MethodName)) rfl hown (mvT hZ (hw _ (List.mem_of_getElem? (i := 4) rfl))) (mvT hZ (hw _ (List.mem_of_getElem? (i := 5) rfl))) (mvT hZ (hw _ (List.mem_of_getElem? (i := 6) rfl))) (by decide) (backOf (W := 1) (rmC l Z a0 hw [] b70 b75 b82 (FP.i2d (p4 >>> ((3 : Int32) &&& 31))) (FP.i2d p1) p2 .null .null (.double (0 : UInt64)) (.double (0 : UInt64)) (.long (0 : Int64)) h88 n0 Z88 f90 lo_b70 f91 f92 f93 f94 f95) hZ (hw _ (List.mem_of_getElem? (i := 6) rfl)) (hw _ (List.mem_of_getElem? (i := 2) rfl)) (by decide) (by decide)) (g := (mkF m 80 #[.val (.int p0), .val (.int p1), .val (.long p2), .second, .val (.long p3), .second, .val (.int p4), .val (.int p1), .val (.long p2), .second, .val (.ref b55), .unset, .unset, .unset, .unset] [(.long p2), (.double (FP.i2d p1)), (.double (FP.i2d (p4 >>> ((3 : Int32) &&& 31)))), (.ref b82), (.ref b75), (.ref b70), (.ref b70)])) rfl (by rw [hml]; rfl) (Steps.refl _) (a := b70) (argsL := [(.ref b75), (.ref b82), (.double (FP.i2d (p4 >>> ((3 : Int32) &&& 31)))), (.double (FP.i2d p1)), (.long p2)]) (rest := [(.ref b70)]) (lenOf pd___I_IDDJ_V_1fa9 rfl) rfl (by show 2 * 0 + _ ≤ _; exact Nat.le_of_eq rfl) (hb hby at_80) (fun _ _ => ⟨rfl, e88, (by decide : 6 + 0 ≤ 24), (by decide : 12 + 0 ≤ 128)⟩)
      dsimp only [Pt.U, Pt.locs, Pt.cells, Pt.slots] at X96 l96 y96 z96 st96 hQ96
      subst l96 y96 z96
      obtain ⟨rfl, N96q, K96, R96_0, R96_1, R96_2, R96_3, R96_4⟩ := hQ96
      have Z96 : n0 ≤ T96.heap.size := Nat.le_trans Z88 K96.1
      have N96 := Fr.app N88 N96q
      refine Goes.sts st96 ?_
      show Goes p e below s _ _ _ (T96.setTop (mkF m 83 #[.val (.int p0), .val (.int p1), .val (.long p2), .second, .val (.long p3), .second, .val (.int p4), .val (.int p1), .val (.long p2), .second, .val (.ref b55), .unset, .unset, .unset, .unset] [(.ref b70)]))
      refine Goes.st (fun t k => XS.astore X96.here hx rfl (hb hby at_83) rfl rfl (l' := #[.val (.int p0), .val (.int p1), .val (.long p2), .second, .val (.long p3), .second, .val (.int p4), .val (.int p1), .val (.long p2), .second, .val (.ref b55), .val (.ref b70), .unset, .unset, .unset]) rfl k) ?_
      show Goes p e below s _ _ _ (T96.setTop (mkF m 85 #[.val (.int p0), .val (.int p1), .val (.long p2), .second, .val (.long p3), .second, .val (.int p4), .val (.int p1), .val (.long p2), .second, .val (.ref b55), .val (.ref b70), .unset, .unset, .unset] []))
      refine Goes.st (fun t k => XS.aload X96.here hx rfl (hb hby at_85) rfl rfl k) ?_
      show Goes p e below s _ _ _ (T96.setTop (mkF m 87 #[.val (.int p0), .val (.int p1), .val (.long p2), .second, .val (.long p3), .second, .val (.int p4), .val (.int p1), .val (.long p2), .second, .val (.ref b55), .val (.ref b70), .unset, .unset, .unset] [(.ref b55)]))
      refine Goes.st (fun t k => XS.aload X96.here hx rfl (hb hby at_87) rfl rfl k) ?_
      show Goes p e below s _ _ _ (T96.setTop (mkF m 89 #[.val (.int p0), .val (.int p1), .val (.long p2), .second, .val (.long p3), .second, .val (.int p4), .val (.int p1), .val (.long p2), .second, .val (.ref b55), .val (.ref b70), .unset, .unset, .unset] [(.ref b70), (.ref b55)]))
      have f98 := ((((((R68_3.ext E70).ext E75).other W80 (Or.inl ne_b55_b75)).ext E82).other W88 (Or.inl ne_b55_b82)).keep K96 (ninS ne_b55_b70 nin0))
      have f99 := ((((((R68_4.ext E70).ext E75).other W80 (Or.inl ne_b55_b75)).ext E82).other W88 (Or.inl ne_b55_b82)).keep K96 (ninS ne_b55_b70 nin0))
      have f101 := (((f83.ext E82).wr W88).keep K96)
      obtain ⟨cq100, kq100, qa100, qb100, qc100⟩ := isOf hZ rfl f101
      obtain ⟨_, _, ⟨T100, L100, k100, n100⟩, -, X100, ⟨Lc100, hQ100, l100, y100, z100⟩, st100⟩ := X96.virtualBack hx (y := (⟨"com/example/redoubt/redoubt/policies/AttemptCounts$Runs", "cheaperThan", "(Lcom/example/redoubt/redoubt/policies/AttemptCounts$Runs;)Z"⟩ : MethodName)) (z := (⟨"com/example/redoubt/redoubt/policies/AttemptCounts$Runs", "cheaperThan", "(Lcom/example/redoubt/redoubt/policies/AttemptCounts$Runs;)Z"⟩ : MethodName)) hown (mvT hZ (hw _ (List.mem_of_getElem? (i := 25) rfl))) (mvT hZ (hw _ (List.mem_of_getElem? (i := 26) rfl))) (notFace_of_selects (args := #[]) (mvT hZ (hw _ (List.mem_of_getElem? (i := 28) rfl)))) (mvT hZ (hw _ (List.mem_of_getElem? (i := 28) rfl))) (mvT hZ (hw _ (List.mem_of_getElem? (i := 27) rfl))) (by decide) (backOf (W := 0) (rmL l Z a0 hw [] b55 b70 (FP.i2d p0) (FP.i2d p1) p2 p2 T96.heap n0 Z96 f98 f99 R96_3 R96_4) hZ (hw _ (List.mem_of_getElem? (i := 29) rfl)) (hw _ (List.mem_of_getElem? (i := 2) rfl)) (by decide) (by decide)) qa100 qc100 (g := (mkF m 89 #[.val (.int p0), .val (.int p1), .val (.long p2), .second, .val (.long p3), .second, .val (.int p4), .val (.int p1), .val (.long p2), .second, .val (.ref b55), .val (.ref b70), .unset, .unset, .unset] [(.ref b70), (.ref b55)])) rfl (by rw [hml]; rfl) (Steps.refl _) (argsL := [(.ref b70)]) (rest := []) (lenOf pd__Lcom_example_redoubt_redoubt_policies_AttemptCounts_Runs__Z_3c19 rfl) rfl (by show 2 * 0 + _ ≤ _; exact Nat.le_of_eq rfl) (hb hby at_89) (fun _ _ => ⟨rfl, rfl, (by decide : 6 + 0 ≤ 24), (by decide : 12 + 0 ≤ 128)⟩)
      dsimp only [Pt.U, Pt.locs, Pt.cells, Pt.slots] at X100 l100 y100 z100 st100 hQ100
      subst l100 y100 z100
      obtain ⟨rfl, N100q, eh100⟩ := hQ100
      rw [own_same] at st100
      have N100 := Fr.app N96 N100q
      refine Goes.sts st100 ?_
      show Goes p e below s _ _ _ (T100.setTop (mkF m 92 #[.val (.int p0), .val (.int p1), .val (.long p2), .second, .val (.long p3), .second, .val (.int p4), .val (.int p1), .val (.long p2), .second, .val (.ref b55), .val (.ref b70), .unset, .unset, .unset] [(.int (rfc p0 p2 p1 p2))]))
      refine Goes.st (fun t k => XS.istore X100.here hx rfl (hb hby at_92) rfl (l' := #[.val (.int p0), .val (.int p1), .val (.long p2), .second, .val (.long p3), .second, .val (.int p4), .val (.int p1), .val (.long p2), .second, .val (.ref b55), .val (.ref b70), .val (.int (rfc p0 p2 p1 p2)), .unset, .unset]) rfl k) ?_
      show Goes p e below s _ _ _ (T100.setTop (mkF m 94 #[.val (.int p0), .val (.int p1), .val (.long p2), .second, .val (.long p3), .second, .val (.int p4), .val (.int p1), .val (.long p2), .second, .val (.ref b55), .val (.ref b70), .val (.int (rfc p0 p2 p1 p2)), .unset, .unset] []))
      refine Goes.st (fun t k => XS.aload X100.here hx rfl (hb hby at_94) rfl rfl k) ?_
      show Goes p e below s _ _ _ (T100.setTop (mkF m 96 #[.val (.int p0), .val (.int p1), .val (.long p2), .second, .val (.long p3), .second, .val (.int p4), .val (.int p1), .val (.long p2), .second, .val (.ref b55), .val (.ref b70), .val (.int (rfc p0 p2 p1 p2)), .unset, .unset] [(.ref b70)]))
      refine Goes.st (fun t k => XS.aload X100.here hx rfl (hb hby at_96) rfl rfl k) ?_
      show Goes p e below s _ _ _ (T100.setTop (mkF m 98 #[.val (.int p0), .val (.int p1), .val (.long p2), .second, .val (.long p3), .second, .val (.int p4), .val (.int p1), .val (.long p2), .second, .val (.ref b55), .val (.ref b70), .val (.int (rfc p0 p2 p1 p2)), .unset, .unset] [(.ref b55), (.ref b70)]))
      have f103 := (f90.keep K96)
      obtain ⟨cq102, kq102, qa102, qb102, qc102⟩ := isOf hZ eh100 f103
      obtain ⟨_, _, ⟨T102, L102, k102, n102⟩, -, X102, ⟨Lc102, hQ102, l102, y102, z102⟩, st102⟩ := X100.virtualBack hx (y := (⟨"com/example/redoubt/redoubt/policies/AttemptCounts$Runs", "cheaperThan", "(Lcom/example/redoubt/redoubt/policies/AttemptCounts$Runs;)Z"⟩ : MethodName)) (z := (⟨"com/example/redoubt/redoubt/policies/AttemptCounts$Runs", "cheaperThan", "(Lcom/example/redoubt/redoubt/policies/AttemptCounts$Runs;)Z"⟩ : MethodName)) hown (mvT hZ (hw _ (List.mem_of_getElem? (i := 25) rfl))) (mvT hZ (hw _ (List.mem_of_getElem? (i := 26) rfl))) (notFace_of_selects (args := #[]) (mvT hZ (hw _ (List.mem_of_getElem? (i := 28) rfl)))) (mvT hZ (hw _ (List.mem_of_getElem? (i := 28) rfl))) (mvT hZ (hw _ (List.mem_of_getElem? (i := 27) rfl))) (by decide) (backOf (W := 0) (rmL l Z a0 hw [] b70 b55 (FP.i2d p1) (FP.i2d p0) p2 p2 T96.heap n0 Z96 R96_3 R96_4 f98 f99) hZ (hw _ (List.mem_of_getElem? (i := 29) rfl)) (hw _ (List.mem_of_getElem? (i := 2) rfl)) (by decide) (by decide)) qa102 qc102 (g := (mkF m 98 #[.val (.int p0), .val (.int p1), .val (.long p2), .second, .val (.long p3), .second, .val (.int p4), .val (.int p1), .val (.long p2), .second, .val (.ref b55), .val (.ref b70), .val (.int (rfc p0 p2 p1 p2)), .unset, .unset] [(.ref b55), (.ref b70)])) rfl (by rw [hml]; rfl) (Steps.refl _) (argsL := [(.ref b55)]) (rest := []) (lenOf pd__Lcom_example_redoubt_redoubt_policies_AttemptCounts_Runs__Z_3c19 rfl) rfl (by show 2 * 0 + _ ≤ _; exact Nat.le_of_eq rfl) (hb hby at_98) (fun _ _ => ⟨rfl, eh100, (by decide : 6 + 0 ≤ 24), (by decide : 12 + 0 ≤ 128)⟩)
      dsimp only [Pt.U, Pt.locs, Pt.cells, Pt.slots] at X102 l102 y102 z102 st102 hQ102
      subst l102 y102 z102
      obtain ⟨rfl, N102q, eh102⟩ := hQ102
      rw [own_same] at st102
      have N102 := Fr.app N100 N102q
      refine Goes.sts st102 ?_
      show Goes p e below s _ _ _ (T102.setTop (mkF m 101 #[.val (.int p0), .val (.int p1), .val (.long p2), .second, .val (.long p3), .second, .val (.int p4), .val (.int p1), .val (.long p2), .second, .val (.ref b55), .val (.ref b70), .val (.int (rfc p0 p2 p1 p2)), .unset, .unset] [(.int (rfc p1 p2 p0 p2))]))
      refine Goes.st (fun t k => XS.istore X102.here hx rfl (hb hby at_101) rfl (l' := #[.val (.int p0), .val (.int p1), .val (.long p2), .second, .val (.long p3), .second, .val (.int p4), .val (.int p1), .val (.long p2), .second, .val (.ref b55), .val (.ref b70), .val (.int (rfc p0 p2 p1 p2)), .val (.int (rfc p1 p2 p0 p2)), .unset]) rfl k) ?_
      show Goes p e below s _ _ _ (T102.setTop (mkF m 103 #[.val (.int p0), .val (.int p1), .val (.long p2), .second, .val (.long p3), .second, .val (.int p4), .val (.int p1), .val (.long p2), .second, .val (.ref b55), .val (.ref b70), .val (.int (rfc p0 p2 p1 p2)), .val (.int (rfc p1 p2 p0 p2)), .unset] []))
      refine Goes.st (fun t k => XS.aload X102.here hx rfl (hb hby at_103) rfl rfl k) ?_
      show Goes p e below s _ _ _ (T102.setTop (mkF m 105 #[.val (.int p0), .val (.int p1), .val (.long p2), .second, .val (.long p3), .second, .val (.int p4), .val (.int p1), .val (.long p2), .second, .val (.ref b55), .val (.ref b70), .val (.int (rfc p0 p2 p1 p2)), .val (.int (rfc p1 p2 p0 p2)), .unset] [(.ref b55)]))
      refine Goes.st (fun t k => XS.aload X102.here hx rfl (hb hby at_105) rfl rfl k) ?_
      show Goes p e below s _ _ _ (T102.setTop (mkF m 107 #[.val (.int p0), .val (.int p1), .val (.long p2), .second, .val (.long p3), .second, .val (.int p4), .val (.int p1), .val (.long p2), .second, .val (.ref b55), .val (.ref b70), .val (.int (rfc p0 p2 p1 p2)), .val (.int (rfc p1 p2 p0 p2)), .unset] [(.ref b55), (.ref b55)]))
      obtain ⟨cq104, kq104, qa104, qb104, qc104⟩ := isOf hZ eh102 f101
      obtain ⟨_, _, ⟨T104, L104, k104, n104⟩, -, X104, ⟨Lc104, hQ104, l104, y104, z104⟩, st104⟩ := X102.virtualBack hx (y := (⟨"com/example/redoubt/redoubt/policies/AttemptCounts$Runs", "cheaperThan", "(Lcom/example/redoubt/redoubt/policies/AttemptCounts$Runs;)Z"⟩ : MethodName)) (z := (⟨"com/example/redoubt/redoubt/policies/AttemptCounts$Runs", "cheaperThan", "(Lcom/example/redoubt/redoubt/policies/AttemptCounts$Runs;)Z"⟩ : MethodName)) hown (mvT hZ (hw _ (List.mem_of_getElem? (i := 25) rfl))) (mvT hZ (hw _ (List.mem_of_getElem? (i := 26) rfl))) (notFace_of_selects (args := #[]) (mvT hZ (hw _ (List.mem_of_getElem? (i := 28) rfl)))) (mvT hZ (hw _ (List.mem_of_getElem? (i := 28) rfl))) (mvT hZ (hw _ (List.mem_of_getElem? (i := 27) rfl))) (by decide) (backOf (W := 0) (rmL l Z a0 hw [] b55 b55 (FP.i2d p0) (FP.i2d p0) p2 p2 T96.heap n0 Z96 f98 f99 f98 f99) hZ (hw _ (List.mem_of_getElem? (i := 29) rfl)) (hw _ (List.mem_of_getElem? (i := 2) rfl)) (by decide) (by decide)) qa104 qc104 (g := (mkF m 107 #[.val (.int p0), .val (.int p1), .val (.long p2), .second, .val (.long p3), .second, .val (.int p4), .val (.int p1), .val (.long p2), .second, .val (.ref b55), .val (.ref b70), .val (.int (rfc p0 p2 p1 p2)), .val (.int (rfc p1 p2 p0 p2)), .unset] [(.ref b55), (.ref b55)])) rfl (by rw [hml]; rfl) (Steps.refl _) (argsL := [(.ref b55)]) (rest := []) (lenOf pd__Lcom_example_redoubt_redoubt_policies_AttemptCounts_Runs__Z_3c19 rfl) rfl (by show 2 * 0 + _ ≤ _; exact Nat.le_of_eq rfl) (hb hby at_107) (fun _ _ => ⟨rfl, eh102, (by decide : 6 + 0 ≤ 24), (by decide : 12 + 0 ≤ 128)⟩)
      dsimp only [Pt.U, Pt.locs, Pt.cells, Pt.slots] at X104 l104 y104 z104 st104 hQ104
      subst l104 y104 z104
      obtain ⟨rfl, N104q, eh104⟩ := hQ104
      rw [show chp (FP.i2d p0) (FP.i2d p0) p2 p2 = 0 from (own_same _ _ _ _).trans (own_self _ _)] at st104
      have N104 := Fr.app N102 N104q
      refine Goes.sts st104 ?_
      show Goes p e below s _ _ _ (T104.setTop (mkF m 110 #[.val (.int p0), .val (.int p1), .val (.long p2), .second, .val (.long p3), .second, .val (.int p4), .val (.int p1), .val (.long p2), .second, .val (.ref b55), .val (.ref b70), .val (.int (rfc p0 p2 p1 p2)), .val (.int (rfc p1 p2 p0 p2)), .unset] [(.int (0 : Int32))]))
      refine Goes.st (fun t k => XS.istore X104.here hx rfl (hb hby at_110) rfl (l' := #[.val (.int p0), .val (.int p1), .val (.long p2), .second, .val (.long p3), .second, .val (.int p4), .val (.int p1), .val (.long p2), .second, .val (.ref b55), .val (.ref b70), .val (.int (rfc p0 p2 p1 p2)), .val (.int (rfc p1 p2 p0 p2)), .val (.int (0 : Int32))]) rfl k) ?_
      show Goes p e below s _ _ _ (T104.setTop (mkF m 112 #[.val (.int p0), .val (.int p1), .val (.long p2), .second, .val (.long p3), .second, .val (.int p4), .val (.int p1), .val (.long p2), .second, .val (.ref b55), .val (.ref b70), .val (.int (rfc p0 p2 p1 p2)), .val (.int (rfc p1 p2 p0 p2)), .val (.int (0 : Int32))] []))
      refine Goes.st (fun t k => XS.iload X104.here hx rfl (hb hby at_112) rfl k) ?_
      show Goes p e below s _ _ _ (T104.setTop (mkF m 114 #[.val (.int p0), .val (.int p1), .val (.long p2), .second, .val (.long p3), .second, .val (.int p4), .val (.int p1), .val (.long p2), .second, .val (.ref b55), .val (.ref b70), .val (.int (rfc p0 p2 p1 p2)), .val (.int (rfc p1 p2 p0 p2)), .val (.int (0 : Int32))] [(.int (rfc p0 p2 p1 p2))]))
      refine Goes.st (fun t k => XS.iloadN X104.here hx rfl (hb hby at_114) rfl k) ?_
      show Goes p e below s _ _ _ (T104.setTop (mkF m 115 #[.val (.int p0), .val (.int p1), .val (.long p2), .second, .val (.long p3), .second, .val (.int p4), .val (.int p1), .val (.long p2), .second, .val (.ref b55), .val (.ref b70), .val (.int (rfc p0 p2 p1 p2)), .val (.int (rfc p1 p2 p0 p2)), .val (.int (0 : Int32))] [(.int p0), (.int (rfc p0 p2 p1 p2))]))
      refine Goes.st (fun t k => XT.lloadN X104.here hx rfl (hb hby at_115) rfl k) ?_
      show Goes p e below s _ _ _ (T104.setTop (mkF m 116 #[.val (.int p0), .val (.int p1), .val (.long p2), .second, .val (.long p3), .second, .val (.int p4), .val (.int p1), .val (.long p2), .second, .val (.ref b55), .val (.ref b70), .val (.int (rfc p0 p2 p1 p2)), .val (.int (rfc p1 p2 p0 p2)), .val (.int (0 : Int32))] [(.long p2), (.int p0), (.int (rfc p0 p2 p1 p2))]))
      refine Goes.st (fun t k => XS.iload X104.here hx rfl (hb hby at_116) rfl k) ?_
      show Goes p e below s _ _ _ (T104.setTop (mkF m 118 #[.val (.int p0), .val (.int p1), .val (.long p2), .second, .val (.long p3), .second, .val (.int p4), .val (.int p1), .val (.long p2), .second, .val (.ref b55), .val (.ref b70), .val (.int (rfc p0 p2 p1 p2)), .val (.int (rfc p1 p2 p0 p2)), .val (.int (0 : Int32))] [(.int p1), (.long p2), (.int p0), (.int (rfc p0 p2 p1 p2))]))
      refine Goes.st (fun t k => XT.lload X104.here hx rfl (hb hby at_118) rfl k) ?_
      show Goes p e below s _ _ _ (T104.setTop (mkF m 120 #[.val (.int p0), .val (.int p1), .val (.long p2), .second, .val (.long p3), .second, .val (.int p4), .val (.int p1), .val (.long p2), .second, .val (.ref b55), .val (.ref b70), .val (.int (rfc p0 p2 p1 p2)), .val (.int (rfc p1 p2 p0 p2)), .val (.int (0 : Int32))] [(.long p2), (.int p1), (.long p2), (.int p0), (.int (rfc p0 p2 p1 p2))]))
      obtain ⟨_, _, ⟨T105, L105, k105, n105⟩, -, X105, ⟨Lc105, hQ105, l105, y105, z105⟩, st105⟩ := Jvm.LawKit.callS X104 hx (y := (⟨"com/example/redoubt/redoubt/policies/RunsCheaperThanPinLaw", "reference", "(IJIJ)Z"⟩ : MethodName)) hown (mvT hZ (hw _ (List.mem_of_getElem? (i := 30) rfl))) (mvT hZ (hw _ (List.mem_of_getElem? (i := 31) rfl))) (mvT hZ (hw _ (List.mem_of_getElem? (i := 32) rfl))) (mvT hZ (hw _ (List.mem_of_getElem? (i := 33) rfl))) (by decide) (backOf (W := 1) (rmE l Z a0 hw [] p0 p2 p1 p2 T96.heap n0 Z96 ) hZ (hw _ (List.mem_of_getElem? (i := 33) rfl)) (hw _ (List.mem_of_getElem? (i := 32) rfl)) (by decide) (by decide)) (g := (mkF m 120 #[.val (.int p0), .val (.int p1), .val (.long p2), .second, .val (.long p3), .second, .val (.int p4), .val (.int p1), .val (.long p2), .second, .val (.ref b55), .val (.ref b70), .val (.int (rfc p0 p2 p1 p2)), .val (.int (rfc p1 p2 p0 p2)), .val (.int (0 : Int32))] [(.long p2), (.int p1), (.long p2), (.int p0), (.int (rfc p0 p2 p1 p2))])) rfl (by rw [hml]; rfl) (argsL := [(.int p0), (.long p2), (.int p1), (.long p2)]) (rest := [(.int (rfc p0 p2 p1 p2))]) (lenOf pd__IJIJ_Z_1280 rfl) rfl (by show 2 * 0 + _ ≤ _; exact Nat.le_of_eq rfl) (hb hby at_120) (fun _ _ => ⟨rfl, eh104, (by decide : 6 + 0 ≤ 24), (by decide : 12 + 0 ≤ 128)⟩)
      dsimp only [Pt.U, Pt.locs, Pt.cells, Pt.slots] at X105 l105 y105 z105 st105 hQ105
      subst l105 y105 z105
      obtain ⟨rfl, N105q, eh105⟩ := hQ105
      have N105 := Fr.app N104 N105q
      refine Goes.st st105 ?_
      show Goes p e below s _ _ _ (T105.setTop (mkF m 123 #[.val (.int p0), .val (.int p1), .val (.long p2), .second, .val (.long p3), .second, .val (.int p4), .val (.int p1), .val (.long p2), .second, .val (.ref b55), .val (.ref b70), .val (.int (rfc p0 p2 p1 p2)), .val (.int (rfc p1 p2 p0 p2)), .val (.int (0 : Int32))] [(.int (rfc p0 p2 p1 p2)), (.int (rfc p0 p2 p1 p2))]))
      refine Goes.st (fun t k => XS.icmpNo X105.here hx rfl (hb hby at_123) rfl (teq (rfl : (rfc p0 p2 p1 p2) = (rfc p0 p2 p1 p2))).2 k) ?_
      show Goes p e below s _ _ _ (T105.setTop (mkF m 126 #[.val (.int p0), .val (.int p1), .val (.long p2), .second, .val (.long p3), .second, .val (.int p4), .val (.int p1), .val (.long p2), .second, .val (.ref b55), .val (.ref b70), .val (.int (rfc p0 p2 p1 p2)), .val (.int (rfc p1 p2 p0 p2)), .val (.int (0 : Int32))] []))
      refine Goes.st (fun t k => XS.iload X105.here hx rfl (hb hby at_126) rfl k) ?_
      show Goes p e below s _ _ _ (T105.setTop (mkF m 128 #[.val (.int p0), .val (.int p1), .val (.long p2), .second, .val (.long p3), .second, .val (.int p4), .val (.int p1), .val (.long p2), .second, .val (.ref b55), .val (.ref b70), .val (.int (rfc p0 p2 p1 p2)), .val (.int (rfc p1 p2 p0 p2)), .val (.int (0 : Int32))] [(.int (rfc p1 p2 p0 p2))]))
      refine Goes.st (fun t k => XS.iload X105.here hx rfl (hb hby at_128) rfl k) ?_
      show Goes p e below s _ _ _ (T105.setTop (mkF m 130 #[.val (.int p0), .val (.int p1), .val (.long p2), .second, .val (.long p3), .second, .val (.int p4), .val (.int p1), .val (.long p2), .second, .val (.ref b55), .val (.ref b70), .val (.int (rfc p0 p2 p1 p2)), .val (.int (rfc p1 p2 p0 p2)), .val (.int (0 : Int32))] [(.int p1), (.int (rfc p1 p2 p0 p2))]))
      refine Goes.st (fun t k => XT.lload X105.here hx rfl (hb hby at_130) rfl k) ?_
      show Goes p e below s _ _ _ (T105.setTop (mkF m 132 #[.val (.int p0), .val (.int p1), .val (.long p2), .second, .val (.long p3), .second, .val (.int p4), .val (.int p1), .val (.long p2), .second, .val (.ref b55), .val (.ref b70), .val (.int (rfc p0 p2 p1 p2)), .val (.int (rfc p1 p2 p0 p2)), .val (.int (0 : Int32))] [(.long p2), (.int p1), (.int (rfc p1 p2 p0 p2))]))
      refine Goes.st (fun t k => XS.iloadN X105.here hx rfl (hb hby at_132) rfl k) ?_
      show Goes p e below s _ _ _ (T105.setTop (mkF m 133 #[.val (.int p0), .val (.int p1), .val (.long p2), .second, .val (.long p3), .second, .val (.int p4), .val (.int p1), .val (.long p2), .second, .val (.ref b55), .val (.ref b70), .val (.int (rfc p0 p2 p1 p2)), .val (.int (rfc p1 p2 p0 p2)), .val (.int (0 : Int32))] [(.int p0), (.long p2), (.int p1), (.int (rfc p1 p2 p0 p2))]))
      refine Goes.st (fun t k => XT.lloadN X105.here hx rfl (hb hby at_133) rfl k) ?_
      show Goes p e below s _ _ _ (T105.setTop (mkF m 134 #[.val (.int p0), .val (.int p1), .val (.long p2), .second, .val (.long p3), .second, .val (.int p4), .val (.int p1), .val (.long p2), .second, .val (.ref b55), .val (.ref b70), .val (.int (rfc p0 p2 p1 p2)), .val (.int (rfc p1 p2 p0 p2)), .val (.int (0 : Int32))] [(.long p2), (.int p0), (.long p2), (.int p1), (.int (rfc p1 p2 p0 p2))]))
      obtain ⟨_, _, ⟨T106, L106, k106, n106⟩, -, X106, ⟨Lc106, hQ106, l106, y106, z106⟩, st106⟩ := Jvm.LawKit.callS X105 hx (y := (⟨"com/example/redoubt/redoubt/policies/RunsCheaperThanPinLaw", "reference", "(IJIJ)Z"⟩ : MethodName)) hown (mvT hZ (hw _ (List.mem_of_getElem? (i := 30) rfl))) (mvT hZ (hw _ (List.mem_of_getElem? (i := 31) rfl))) (mvT hZ (hw _ (List.mem_of_getElem? (i := 32) rfl))) (mvT hZ (hw _ (List.mem_of_getElem? (i := 33) rfl))) (by decide) (backOf (W := 1) (rmE l Z a0 hw [] p1 p2 p0 p2 T96.heap n0 Z96 ) hZ (hw _ (List.mem_of_getElem? (i := 33) rfl)) (hw _ (List.mem_of_getElem? (i := 32) rfl)) (by decide) (by decide)) (g := (mkF m 134 #[.val (.int p0), .val (.int p1), .val (.long p2), .second, .val (.long p3), .second, .val (.int p4), .val (.int p1), .val (.long p2), .second, .val (.ref b55), .val (.ref b70), .val (.int (rfc p0 p2 p1 p2)), .val (.int (rfc p1 p2 p0 p2)), .val (.int (0 : Int32))] [(.long p2), (.int p0), (.long p2), (.int p1), (.int (rfc p1 p2 p0 p2))])) rfl (by rw [hml]; rfl) (argsL := [(.int p1), (.long p2), (.int p0), (.long p2)]) (rest := [(.int (rfc p1 p2 p0 p2))]) (lenOf pd__IJIJ_Z_1280 rfl) rfl (by show 2 * 0 + _ ≤ _; exact Nat.le_of_eq rfl) (hb hby at_134) (fun _ _ => ⟨rfl, eh105, (by decide : 6 + 0 ≤ 24), (by decide : 12 + 0 ≤ 128)⟩)
      dsimp only [Pt.U, Pt.locs, Pt.cells, Pt.slots] at X106 l106 y106 z106 st106 hQ106
      subst l106 y106 z106
      obtain ⟨rfl, N106q, eh106⟩ := hQ106
      have N106 := Fr.app N105 N106q
      refine Goes.st st106 ?_
      show Goes p e below s _ _ _ (T106.setTop (mkF m 137 #[.val (.int p0), .val (.int p1), .val (.long p2), .second, .val (.long p3), .second, .val (.int p4), .val (.int p1), .val (.long p2), .second, .val (.ref b55), .val (.ref b70), .val (.int (rfc p0 p2 p1 p2)), .val (.int (rfc p1 p2 p0 p2)), .val (.int (0 : Int32))] [(.int (rfc p1 p2 p0 p2)), (.int (rfc p1 p2 p0 p2))]))
      refine Goes.st (fun t k => XS.icmpNo X106.here hx rfl (hb hby at_137) rfl (teq (rfl : (rfc p1 p2 p0 p2) = (rfc p1 p2 p0 p2))).2 k) ?_
      show Goes p e below s _ _ _ (T106.setTop (mkF m 140 #[.val (.int p0), .val (.int p1), .val (.long p2), .second, .val (.long p3), .second, .val (.int p4), .val (.int p1), .val (.long p2), .second, .val (.ref b55), .val (.ref b70), .val (.int (rfc p0 p2 p1 p2)), .val (.int (rfc p1 p2 p0 p2)), .val (.int (0 : Int32))] []))
      refine Goes.st (fun t k => XS.iload X106.here hx rfl (hb hby at_140) rfl k) ?_
      show Goes p e below s _ _ _ (T106.setTop (mkF m 142 #[.val (.int p0), .val (.int p1), .val (.long p2), .second, .val (.long p3), .second, .val (.int p4), .val (.int p1), .val (.long p2), .second, .val (.ref b55), .val (.ref b70), .val (.int (rfc p0 p2 p1 p2)), .val (.int (rfc p1 p2 p0 p2)), .val (.int (0 : Int32))] [(.int (0 : Int32))]))
      refine Goes.st (fun t k => XS.ifNo X106.here hx rfl (hb hby at_142) rfl (by decide) k) ?_
      show Goes p e below s _ _ _ (T106.setTop (mkF m 145 #[.val (.int p0), .val (.int p1), .val (.long p2), .second, .val (.long p3), .second, .val (.int p4), .val (.int p1), .val (.long p2), .second, .val (.ref b55), .val (.ref b70), .val (.int (rfc p0 p2 p1 p2)), .val (.int (rfc p1 p2 p0 p2)), .val (.int (0 : Int32))] []))
      refine Goes.st (fun t k => XS.iconst X106.here hx rfl (hb hby at_145) k) ?_
      show Goes p e below s _ _ _ (T106.setTop (mkF m 146 #[.val (.int p0), .val (.int p1), .val (.long p2), .second, .val (.long p3), .second, .val (.int p4), .val (.int p1), .val (.long p2), .second, .val (.ref b55), .val (.ref b70), .val (.int (rfc p0 p2 p1 p2)), .val (.int (rfc p1 p2 p0 p2)), .val (.int (0 : Int32))] [(.int (1 : Int32))]))
      refine Goes.st (fun t k => XS.goto X106.here hx rfl (pc0 := 146) (pc' := 150) rfl (hb hby at_146) (by decide) (by decide) k) ?_
      show Goes p e below s _ _ _ (T106.setTop (mkF m 150 #[.val (.int p0), .val (.int p1), .val (.long p2), .second, .val (.long p3), .second, .val (.int p4), .val (.int p1), .val (.long p2), .second, .val (.ref b55), .val (.ref b70), .val (.int (rfc p0 p2 p1 p2)), .val (.int (rfc p1 p2 p0 p2)), .val (.int (0 : Int32))] [(.int (1 : Int32))]))
      refine Goes.retN X106 hx hlk hret (by simp) (hb hby at_150) (by decide) ?_ (by decide) (by decide)
      rw [eh106]
      exact ⟨rfl, N106⟩
  · refine Goes.st (fun t k => XS.ifNo X0.here hx rfl (hb hby at_4) rfl ((if0 _ _).trans (feq c1).1) k) ?_
    show Goes p e below s _ _ _ (s₁.setTop (mkF m 7 #[.val (.int p0), .val (.int p1), .val (.long p2), .second, .val (.long p3), .second, .val (.int p4), .unset, .unset, .unset, .unset, .unset, .unset, .unset, .unset] []))
    refine Goes.st (fun t k => XS.iloadN X0.here hx rfl (hb hby at_7) rfl k) ?_
    show Goes p e below s _ _ _ (s₁.setTop (mkF m 8 #[.val (.int p0), .val (.int p1), .val (.long p2), .second, .val (.long p3), .second, .val (.int p4), .unset, .unset, .unset, .unset, .unset, .unset, .unset, .unset] [(.int p0)]))
    refine Goes.st (fun t k => XS.goto X0.here hx rfl (pc0 := 8) (pc' := 12) rfl (hb hby at_8) (by decide) (by decide) k) ?_
    show Goes p e below s _ _ _ (s₁.setTop (mkF m 12 #[.val (.int p0), .val (.int p1), .val (.long p2), .second, .val (.long p3), .second, .val (.int p4), .unset, .unset, .unset, .unset, .unset, .unset, .unset, .unset] [(.int p0)]))
    refine Goes.st (fun t k => XS.istore X0.here hx rfl (hb hby at_12) rfl (l' := #[.val (.int p0), .val (.int p1), .val (.long p2), .second, .val (.long p3), .second, .val (.int p4), .val (.int p0), .unset, .unset, .unset, .unset, .unset, .unset, .unset]) rfl k) ?_
    show Goes p e below s _ _ _ (s₁.setTop (mkF m 14 #[.val (.int p0), .val (.int p1), .val (.long p2), .second, .val (.long p3), .second, .val (.int p4), .val (.int p0), .unset, .unset, .unset, .unset, .unset, .unset, .unset] []))
    refine Goes.st (fun t k => XS.iload X0.here hx rfl (hb hby at_14) rfl k) ?_
    show Goes p e below s _ _ _ (s₁.setTop (mkF m 16 #[.val (.int p0), .val (.int p1), .val (.long p2), .second, .val (.long p3), .second, .val (.int p4), .val (.int p0), .unset, .unset, .unset, .unset, .unset, .unset, .unset] [(.int p4)]))
    refine Goes.st (fun t k => XS.iconst X0.here hx rfl (hb hby at_16) k) ?_
    show Goes p e below s _ _ _ (s₁.setTop (mkF m 17 #[.val (.int p0), .val (.int p1), .val (.long p2), .second, .val (.long p3), .second, .val (.int p4), .val (.int p0), .unset, .unset, .unset, .unset, .unset, .unset, .unset] [(.int (2 : Int32)), (.int p4)]))
    refine Goes.st (fun t k => XS.iand X0.here hx rfl (hb hby at_17) rfl k) ?_
    show Goes p e below s _ _ _ (s₁.setTop (mkF m 18 #[.val (.int p0), .val (.int p1), .val (.long p2), .second, .val (.long p3), .second, .val (.int p4), .val (.int p0), .unset, .unset, .unset, .unset, .unset, .unset, .unset] [(.int (p4 &&& (2 : Int32)))]))
    by_cases c107 : (p4 &&& (2 : Int32)) = (0 : Int32)
    · refine Goes.st (fun t k => XS.ifYes X0.here hx rfl (pc0 := 18) (pc' := 25) rfl (hb hby at_18) rfl ((if0 _ _).trans (teq c107).1) (by decide) (by decide) k) ?_
      show Goes p e below s _ _ _ (s₁.setTop (mkF m 25 #[.val (.int p0), .val (.int p1), .val (.long p2), .second, .val (.long p3), .second, .val (.int p4), .val (.int p0), .unset, .unset, .unset, .unset, .unset, .unset, .unset] []))
      refine Goes.st (fun t k => XT.lload X0.here hx rfl (hb hby at_25) rfl k) ?_
      show Goes p e below s _ _ _ (s₁.setTop (mkF m 27 #[.val (.int p0), .val (.int p1), .val (.long p2), .second, .val (.long p3), .second, .val (.int p4), .val (.int p0), .unset, .unset, .unset, .unset, .unset, .unset, .unset] [(.long p3)]))
      refine Goes.st (fun t k => XT.lstore X0.here hx rfl (hb hby at_27) rfl (l' := #[.val (.int p0), .val (.int p1), .val (.long p2), .second, .val (.long p3), .second, .val (.int p4), .val (.int p0), .val (.long p3), .second, .unset, .unset, .unset, .unset, .unset]) rfl k) ?_
      show Goes p e below s _ _ _ (s₁.setTop (mkF m 29 #[.val (.int p0), .val (.int p1), .val (.long p2), .second, .val (.long p3), .second, .val (.int p4), .val (.int p0), .val (.long p3), .second, .unset, .unset, .unset, .unset, .unset] []))
      obtain ⟨T108, h108, X108, e108, E108, A108, D108, -, st108⟩ := newO X0 hx hZ hown (hw _ (List.mem_of_getElem? (i := 0) rfl)) (hw _ (List.mem_of_getElem? (i := 1) rfl)) (hw _ (List.mem_of_getElem? (i := 2) rfl)) e0 (g := (mkF m 29 #[.val (.int p0), .val (.int p1), .val (.long p2), .second, .val (.long p3), .second, .val (.int p4), .val (.int p0), .val (.long p3), .second, .unset, .unset, .unset, .unset, .unset] [])) rfl (hb hby at_29) (by decide) (by decide)
      obtain ⟨b108, g108⟩ : ∃ z, z = h0.size := ⟨_, rfl⟩
      rw [← g108] at A108 D108 st108
      have lo_b108 : n0 ≤ b108 := by have := Z0; omega
      refine Goes.st st108 ?_
      have Z108 : n0 ≤ h108.size := Nat.le_trans Z0 E108.1
      have F108_procs : Fld Z h108 b108 "com/example/redoubt/redoubt/policies/AttemptCounts$Runs" "procs" "[I" .null := D108 (Or.inr (hw _ (List.mem_of_getElem? (i := 16) rfl))) (ty := (.array .int)) (by decide)
      have F108_attempts : Fld Z h108 b108 "com/example/redoubt/redoubt/policies/AttemptCounts$Runs" "attempts" "[I" .null := D108 (Or.inr (hw _ (List.mem_of_getElem? (i := 18) rfl))) (ty := (.array .int)) (by decide)
      have F108_time : Fld Z h108 b108 "com/example/redoubt/redoubt/policies/AttemptCounts$Runs" "time" "D" (.double (0 : UInt64)) := D108 (Or.inr (hw _ (List.mem_of_getElem? (i := 20) rfl))) (ty := .double) (by decide)
      have F108_area : Fld Z h108 b108 "com/example/redoubt/redoubt/policies/AttemptCounts$Runs" "area" "D" (.double (0 : UInt64)) := D108 (Or.inr (hw _ (List.mem_of_getElem? (i := 22) rfl))) (ty := .double) (by decide)
      have F108_processors : Fld Z h108 b108 "com/example/redoubt/redoubt/policies/AttemptCounts$Runs" "processors" "J" (.long (0 : Int64)) := D108 (Or.inr (hw _ (List.mem_of_getElem? (i := 24) rfl))) (ty := .long) (by decide)
      show Goes p e below s _ _ _ (T108.setTop (mkF m 32 #[.val (.int p0), .val (.int p1), .val (.long p2), .second, .val (.long p3), .second, .val (.int p4), .val (.int p0), .val (.long p3), .second, .unset, .unset, .unset, .unset, .unset] [(.ref b108)]))
      refine Goes.st (fun t k => XS.dup X108.here hx rfl (hb hby at_32) rfl rfl k) ?_
      show Goes p e below s _ _ _ (T108.setTop (mkF m 33 #[.val (.int p0), .val (.int p1), .val (.long p2), .second, .val (.long p3), .second, .val (.int p4), .val (.int p0), .val (.long p3), .second, .unset, .unset, .unset, .unset, .unset] [(.ref b108), (.ref b108)]))
      refine Goes.st (fun t k => XS.iconst X108.here hx rfl (hb hby at_33) k) ?_
      show Goes p e below s _ _ _ (T108.setTop (mkF m 34 #[.val (.int p0), .val (.int p1), .val (.long p2), .second, .val (.long p3), .second, .val (.int p4), .val (.int p0), .val (.long p3), .second, .unset, .unset, .unset, .unset, .unset] [(.int (0 : Int32)), (.ref b108), (.ref b108)]))
      obtain ⟨T110, h110, cA110, X110, e110, E110, A110, st110⟩ := newP X108 hx hZ (hw _ (List.mem_of_getElem? (i := 3) rfl)) e108 (g := (mkF m 34 #[.val (.int p0), .val (.int p1), .val (.long p2), .second, .val (.long p3), .second, .val (.int p4), .val (.int p0), .val (.long p3), .second, .unset, .unset, .unset, .unset, .unset] [(.int (0 : Int32)), (.ref b108), (.ref b108)])) rfl (hb hby at_34) rfl (by decide) (cap := 0) (by decide) (by decide) (by decide) (by decide)
      obtain ⟨b110, g110⟩ : ∃ z, z = h108.size := ⟨_, rfl⟩
      rw [← g110] at A110 st110
      have ne_b108_b110 : b108 ≠ b110 := Nat.ne_of_lt (Nat.lt_of_lt_of_le A108.lt (Nat.le_of_eq g110.symm))
      have lo_b110 : n0 ≤ b110 := by have := Z108; omega
      have V110 : Arv Z h110 b110 cA110 .int (0 : Int32) [] (.int (0 : Int32)) := (Arv.new A110 (by decide)).pad (pad_rep [] _ 0)
      refine Goes.st st110 ?_
      have Z110 : n0 ≤ h110.size := Nat.le_trans Z108 E110.1
      show Goes p e below s _ _ _ (T110.setTop (mkF m 36 #[.val (.int p0), .val (.int p1), .val (.long p2), .second, .val (.long p3), .second, .val (.int p4), .val (.int p0), .val (.long p3), .second, .unset, .unset, .unset, .unset, .unset] [(.ref b110), (.ref b108), (.ref b108)]))
      refine Goes.st (fun t k => XS.iconst X110.here hx rfl (hb hby at_36) k) ?_
      show Goes p e below s _ _ _ (T110.setTop (mkF m 37 #[.val (.int p0), .val (.int p1), .val (.long p2), .second, .val (.long p3), .second, .val (.int p4), .val (.int p0), .val (.long p3), .second, .unset, .unset, .unset, .unset, .unset] [(.int (0 : Int32)), (.ref b110), (.ref b108), (.ref b108)]))
      obtain ⟨T112, h112, cA112, X112, e112, E112, A112, st112⟩ := newP X110 hx hZ (hw _ (List.mem_of_getElem? (i := 3) rfl)) e110 (g := (mkF m 37 #[.val (.int p0), .val (.int p1), .val (.long p2), .second, .val (.long p3), .second, .val (.int p4), .val (.int p0), .val (.long p3), .second, .unset, .unset, .unset, .unset, .unset] [(.int (0 : Int32)), (.ref b110), (.ref b108), (.ref b108)])) rfl (hb hby at_37) rfl (by decide) (cap := 0) (by decide) (by decide) (by decide) (by decide)
      obtain ⟨b112, g112⟩ : ∃ z, z = h110.size := ⟨_, rfl⟩
      rw [← g112] at A112 st112
      have f113 := (A108.ext E110)
      have ne_b108_b112 : b108 ≠ b112 := Nat.ne_of_lt (Nat.lt_of_lt_of_le f113.lt (Nat.le_of_eq g112.symm))
      have ne_b110_b112 : b110 ≠ b112 := Nat.ne_of_lt (Nat.lt_of_lt_of_le V110.lt (Nat.le_of_eq g112.symm))
      have lo_b112 : n0 ≤ b112 := by have := Z110; omega
      have V112 : Arv Z h112 b112 cA112 .int (0 : Int32) [] (.int (0 : Int32)) := (Arv.new A112 (by decide)).pad (pad_rep [] _ 0)
      refine Goes.st st112 ?_
      have Z112 : n0 ≤ h112.size := Nat.le_trans Z110 E112.1
      show Goes p e below s _ _ _ (T112.setTop (mkF m 39 #[.val (.int p0), .val (.int p1), .val (.long p2), .second, .val (.long p3), .second, .val (.int p4), .val (.int p0), .val (.long p3), .second, .unset, .unset, .unset, .unset, .unset] [(.ref b112), (.ref b110), (.ref b108), (.ref b108)]))
      refine Goes.st (fun t k => XS.iload X112.here hx rfl (hb hby at_39) rfl k) ?_
      show Goes p e below s _ _ _ (T112.setTop (mkF m 41 #[.val (.int p0), .val (.int p1), .val (.long p2), .second, .val (.long p3), .second, .val (.int p4), .val (.int p0), .val (.long p3), .second, .unset, .unset, .unset, .unset, .unset] [(.int p4), (.ref b112), (.ref b110), (.ref b108), (.ref b108)]))
      refine Goes.st (fun t k => XS.iconst X112.here hx rfl (hb hby at_41) k) ?_
      show Goes p e below s _ _ _ (T112.setTop (mkF m 42 #[.val (.int p0), .val (.int p1), .val (.long p2), .second, .val (.long p3), .second, .val (.int p4), .val (.int p0), .val (.long p3), .second, .unset, .unset, .unset, .unset, .unset] [(.int (2 : Int32)), (.int p4), (.ref b112), (.ref b110), (.ref b108), (.ref b108)]))
      refine Goes.st (fun t k => XT.ishr X112.here hx rfl (hb hby at_42) rfl k) ?_
      show Goes p e below s _ _ _ (T112.setTop (mkF m 43 #[.val (.int p0), .val (.int p1), .val (.long p2), .second, .val (.long p3), .second, .val (.int p4), .val (.int p0), .val (.long p3), .second, .unset, .unset, .unset, .unset, .unset] [(.int (p4 >>> ((2 : Int32) &&& 31))), (.ref b112), (.ref b110), (.ref b108), (.ref b108)]))
      refine Goes.st (fun t k => XS.i2dS X112.here hx rfl (hb hby at_43) rfl (v := (FP.i2d (p4 >>> ((2 : Int32) &&& 31)))) rfl k) ?_
      show Goes p e below s _ _ _ (T112.setTop (mkF m 44 #[.val (.int p0), .val (.int p1), .val (.long p2), .second, .val (.long p3), .second, .val (.int p4), .val (.int p0), .val (.long p3), .second, .unset, .unset, .unset, .unset, .unset] [(.double (FP.i2d (p4 >>> ((2 : Int32) &&& 31)))), (.ref b112), (.ref b110), (.ref b108), (.ref b108)]))
      refine Goes.st (fun t k => XS.iloadN X112.here hx rfl (hb hby at_44) rfl k) ?_
      show Goes p e below s _ _ _ (T112.setTop (mkF m 45 #[.val (.int p0), .val (.int p1), .val (.long p2), .second, .val (.long p3), .second, .val (.int p4), .val (.int p0), .val (.long p3), .second, .unset, .unset, .unset, .unset, .unset] [(.int p0), (.double (FP.i2d (p4 >>> ((2 : Int32) &&& 31)))), (.ref b112), (.ref b110), (.ref b108), (.ref b108)]))
      refine Goes.st (fun t k => XS.i2dS X112.here hx rfl (hb hby at_45) rfl (v := (FP.i2d p0)) rfl k) ?_
      show Goes p e below s _ _ _ (T112.setTop (mkF m 46 #[.val (.int p0), .val (.int p1), .val (.long p2), .second, .val (.long p3), .second, .val (.int p4), .val (.int p0), .val (.long p3), .second, .unset, .unset, .unset, .unset, .unset] [(.double (FP.i2d p0)), (.double (FP.i2d (p4 >>> ((2 : Int32) &&& 31)))), (.ref b112), (.ref b110), (.ref b108), (.ref b108)]))
      refine Goes.st (fun t k => XT.lloadN X112.here hx rfl (hb hby at_46) rfl k) ?_
      show Goes p e below s _ _ _ (T112.setTop (mkF m 47 #[.val (.int p0), .val (.int p1), .val (.long p2), .second, .val (.long p3), .second, .val (.int p4), .val (.int p0), .val (.long p3), .second, .unset, .unset, .unset, .unset, .unset] [(.long p2), (.double (FP.i2d p0)), (.double (FP.i2d (p4 >>> ((2 : Int32) &&& 31)))), (.ref b112), (.ref b110), (.ref b108), (.ref b108)]))
      have f115 := (f113.ext E112)
      have f116 := ((F108_procs.ext E110).ext E112)
      have f117 := ((F108_attempts.ext E110).ext E112)
      have f118 := ((F108_time.ext E110).ext E112)
      have f119 := ((F108_area.ext E110).ext E112)
      have f120 := ((F108_processors.ext E110).ext E112)
      obtain ⟨_, _, ⟨T121, L121, k121, n121⟩, -, X121, ⟨Lc121, hQ121, l121, y121, z121⟩, st121⟩ := X112.specialBack hx (y := (⟨"com/example/redoubt/redoubt/policies/AttemptCounts$Runs", "<init>", "([I[IDDJ)V"⟩ : MethodName)) rfl hown (mvT hZ (hw _ (List.mem_of_getElem? (i := 4) rfl))) (mvT hZ (hw _ (List.mem_of_getElem? (i := 5) rfl))) (mvT hZ (hw _ (List.mem_of_getElem? (i := 6) rfl))) (by decide) (backOf (W := 1) (rmC l Z a0 hw [] b108 b110 b112 (FP.i2d (p4 >>> ((2 : Int32) &&& 31))) (FP.i2d p0) p2 .null .null (.double (0 : UInt64)) (.double (0 : UInt64)) (.long (0 : Int64)) h112 n0 Z112 f115 lo_b108 f116 f117 f118 f119 f120) hZ (hw _ (List.mem_of_getElem? (i := 6) rfl)) (hw _ (List.mem_of_getElem? (i := 2) rfl)) (by decide) (by decide)) (g := (mkF m 47 #[.val (.int p0), .val (.int p1), .val (.long p2), .second, .val (.long p3), .second, .val (.int p4), .val (.int p0), .val (.long p3), .second, .unset, .unset, .unset, .unset, .unset] [(.long p2), (.double (FP.i2d p0)), (.double (FP.i2d (p4 >>> ((2 : Int32) &&& 31)))), (.ref b112), (.ref b110), (.ref b108), (.ref b108)])) rfl (by rw [hml]; rfl) (Steps.refl _) (a := b108) (argsL := [(.ref b110), (.ref b112), (.double (FP.i2d (p4 >>> ((2 : Int32) &&& 31)))), (.double (FP.i2d p0)), (.long p2)]) (rest := [(.ref b108)]) (lenOf pd___I_IDDJ_V_1fa9 rfl) rfl (by show 2 * 0 + _ ≤ _; exact Nat.le_of_eq rfl) (hb hby at_47) (fun _ _ => ⟨rfl, e112, (by decide : 3 + 0 ≤ 24), (by decide : 5 + 0 ≤ 128)⟩)
      dsimp only [Pt.U, Pt.locs, Pt.cells, Pt.slots] at X121 l121 y121 z121 st121 hQ121
      subst l121 y121 z121
      obtain ⟨rfl, N121q, K121, R121_0, R121_1, R121_2, R121_3, R121_4⟩ := hQ121
      have Z121 : n0 ≤ T121.heap.size := Nat.le_trans Z112 K121.1
      have N121 := Fr.app N0 N121q
      refine Goes.sts st121 ?_
      show Goes p e below s _ _ _ (T121.setTop (mkF m 50 #[.val (.int p0), .val (.int p1), .val (.long p2), .second, .val (.long p3), .second, .val (.int p4), .val (.int p0), .val (.long p3), .second, .unset, .unset, .unset, .unset, .unset] [(.ref b108)]))
      refine Goes.st (fun t k => XS.astore X121.here hx rfl (hb hby at_50) rfl rfl (l' := #[.val (.int p0), .val (.int p1), .val (.long p2), .second, .val (.long p3), .second, .val (.int p4), .val (.int p0), .val (.long p3), .second, .val (.ref b108), .unset, .unset, .unset, .unset]) rfl k) ?_
      show Goes p e below s _ _ _ (T121.setTop (mkF m 52 #[.val (.int p0), .val (.int p1), .val (.long p2), .second, .val (.long p3), .second, .val (.int p4), .val (.int p0), .val (.long p3), .second, .val (.ref b108), .unset, .unset, .unset, .unset] []))
      obtain ⟨T123, h123, X123, e123, E123, A123, D123, -, st123⟩ := newO X121 hx hZ hown (hw _ (List.mem_of_getElem? (i := 0) rfl)) (hw _ (List.mem_of_getElem? (i := 1) rfl)) (hw _ (List.mem_of_getElem? (i := 2) rfl)) rfl (g := (mkF m 52 #[.val (.int p0), .val (.int p1), .val (.long p2), .second, .val (.long p3), .second, .val (.int p4), .val (.int p0), .val (.long p3), .second, .val (.ref b108), .unset, .unset, .unset, .unset] [])) rfl (hb hby at_52) (by decide) (by decide)
      obtain ⟨b123, g123⟩ : ∃ z, z = T121.heap.size := ⟨_, rfl⟩
      rw [← g123] at A123 D123 st123
      have f124 := (f115.keep K121)
      have ne_b108_b123 : b108 ≠ b123 := Nat.ne_of_lt (Nat.lt_of_lt_of_le f124.lt (Nat.le_of_eq g123.symm))
      have f125 := ((V110.ext E112).keep K121 (ninS (Ne.symm ne_b108_b110) nin0))
      have ne_b110_b123 : b110 ≠ b123 := Nat.ne_of_lt (Nat.lt_of_lt_of_le f125.lt (Nat.le_of_eq g123.symm))
      have f126 := (V112.keep K121 (ninS (Ne.symm ne_b108_b112) nin0))
      have ne_b112_b123 : b112 ≠ b123 := Nat.ne_of_lt (Nat.lt_of_lt_of_le f126.lt (Nat.le_of_eq g123.symm))
      have lo_b123 : n0 ≤ b123 := by have := Z121; omega
      refine Goes.st st123 ?_
      have Z123 : n0 ≤ h123.size := Nat.le_trans Z121 E123.1
      have F123_procs : Fld Z h123 b123 "com/example/redoubt/redoubt/policies/AttemptCounts$Runs" "procs" "[I" .null := D123 (Or.inr (hw _ (List.mem_of_getElem? (i := 16) rfl))) (ty := (.array .int)) (by decide)
      have F123_attempts : Fld Z h123 b123 "com/example/redoubt/redoubt/policies/AttemptCounts$Runs" "attempts" "[I" .null := D123 (Or.inr (hw _ (List.mem_of_getElem? (i := 18) rfl))) (ty := (.array .int)) (by decide)
      have F123_time : Fld Z h123 b123 "com/example/redoubt/redoubt/policies/AttemptCounts$Runs" "time" "D" (.double (0 : UInt64)) := D123 (Or.inr (hw _ (List.mem_of_getElem? (i := 20) rfl))) (ty := .double) (by decide)
      have F123_area : Fld Z h123 b123 "com/example/redoubt/redoubt/policies/AttemptCounts$Runs" "area" "D" (.double (0 : UInt64)) := D123 (Or.inr (hw _ (List.mem_of_getElem? (i := 22) rfl))) (ty := .double) (by decide)
      have F123_processors : Fld Z h123 b123 "com/example/redoubt/redoubt/policies/AttemptCounts$Runs" "processors" "J" (.long (0 : Int64)) := D123 (Or.inr (hw _ (List.mem_of_getElem? (i := 24) rfl))) (ty := .long) (by decide)
      show Goes p e below s _ _ _ (T123.setTop (mkF m 55 #[.val (.int p0), .val (.int p1), .val (.long p2), .second, .val (.long p3), .second, .val (.int p4), .val (.int p0), .val (.long p3), .second, .val (.ref b108), .unset, .unset, .unset, .unset] [(.ref b123)]))
      refine Goes.st (fun t k => XS.dup X123.here hx rfl (hb hby at_55) rfl rfl k) ?_
      show Goes p e below s _ _ _ (T123.setTop (mkF m 56 #[.val (.int p0), .val (.int p1), .val (.long p2), .second, .val (.long p3), .second, .val (.int p4), .val (.int p0), .val (.long p3), .second, .val (.ref b108), .unset, .unset, .unset, .unset] [(.ref b123), (.ref b123)]))
      refine Goes.st (fun t k => XS.iconst X123.here hx rfl (hb hby at_56) k) ?_
      show Goes p e below s _ _ _ (T123.setTop (mkF m 57 #[.val (.int p0), .val (.int p1), .val (.long p2), .second, .val (.long p3), .second, .val (.int p4), .val (.int p0), .val (.long p3), .second, .val (.ref b108), .unset, .unset, .unset, .unset] [(.int (1 : Int32)), (.ref b123), (.ref b123)]))
      obtain ⟨T128, h128, cA128, X128, e128, E128, A128, st128⟩ := newP X123 hx hZ (hw _ (List.mem_of_getElem? (i := 3) rfl)) e123 (g := (mkF m 57 #[.val (.int p0), .val (.int p1), .val (.long p2), .second, .val (.long p3), .second, .val (.int p4), .val (.int p0), .val (.long p3), .second, .val (.ref b108), .unset, .unset, .unset, .unset] [(.int (1 : Int32)), (.ref b123), (.ref b123)])) rfl (hb hby at_57) rfl (by decide) (cap := 1) (by decide) (by decide) (by decide) (by decide)
      obtain ⟨b128, g128⟩ : ∃ z, z = h123.size := ⟨_, rfl⟩
      rw [← g128] at A128 st128
      have f129 := (f124.ext E123)
      have ne_b108_b128 : b108 ≠ b128 := Nat.ne_of_lt (Nat.lt_of_lt_of_le f129.lt (Nat.le_of_eq g128.symm))
      have f130 := (f125.ext E123)
      have ne_b110_b128 : b110 ≠ b128 := Nat.ne_of_lt (Nat.lt_of_lt_of_le f130.lt (Nat.le_of_eq g128.symm))
      have f131 := (f126.ext E123)
      have ne_b112_b128 : b112 ≠ b128 := Nat.ne_of_lt (Nat.lt_of_lt_of_le f131.lt (Nat.le_of_eq g128.symm))
      have ne_b123_b128 : b123 ≠ b128 := Nat.ne_of_lt (Nat.lt_of_lt_of_le A123.lt (Nat.le_of_eq g128.symm))
      have lo_b128 : n0 ≤ b128 := by have := Z123; omega
      have V128 : Arv Z h128 b128 cA128 .int (1 : Int32) [(.int (0 : Int32))] (.int (0 : Int32)) := (Arv.new A128 (by decide)).pad (pad_rep [] _ 1)
      refine Goes.st st128 ?_
      have Z128 : n0 ≤ h128.size := Nat.le_trans Z123 E128.1
      show Goes p e below s _ _ _ (T128.setTop (mkF m 59 #[.val (.int p0), .val (.int p1), .val (.long p2), .second, .val (.long p3), .second, .val (.int p4), .val (.int p0), .val (.long p3), .second, .val (.ref b108), .unset, .unset, .unset, .unset] [(.ref b128), (.ref b123), (.ref b123)]))
      refine Goes.st (fun t k => XS.dup X128.here hx rfl (hb hby at_59) rfl rfl k) ?_
      show Goes p e below s _ _ _ (T128.setTop (mkF m 60 #[.val (.int p0), .val (.int p1), .val (.long p2), .second, .val (.long p3), .second, .val (.int p4), .val (.int p0), .val (.long p3), .second, .val (.ref b108), .unset, .unset, .unset, .unset] [(.ref b128), (.ref b128), (.ref b123), (.ref b123)]))
      refine Goes.st (fun t k => XS.iconst X128.here hx rfl (hb hby at_60) k) ?_
      show Goes p e below s _ _ _ (T128.setTop (mkF m 61 #[.val (.int p0), .val (.int p1), .val (.long p2), .second, .val (.long p3), .second, .val (.int p4), .val (.int p0), .val (.long p3), .second, .val (.ref b108), .unset, .unset, .unset, .unset] [(.int (0 : Int32)), (.ref b128), (.ref b128), (.ref b123), (.ref b123)]))
      refine Goes.st (fun t k => XS.iconst X128.here hx rfl (hb hby at_61) k) ?_
      show Goes p e below s _ _ _ (T128.setTop (mkF m 62 #[.val (.int p0), .val (.int p1), .val (.long p2), .second, .val (.long p3), .second, .val (.int p4), .val (.int p0), .val (.long p3), .second, .val (.ref b108), .unset, .unset, .unset, .unset] [(.int (1 : Int32)), (.int (0 : Int32)), (.ref b128), (.ref b128), (.ref b123), (.ref b123)]))
      obtain ⟨cl133, Ar133, qk133, Sz133, qz133, Ha133, Gf133⟩ := V128
      obtain ⟨T133, h133, X133, e133, W133, st133⟩ := stI X128 hx hZ e128 Ar133 (inb_of Sz133 ⟨by decide, by decide⟩) (g := (mkF m 62 #[.val (.int p0), .val (.int p1), .val (.long p2), .second, .val (.long p3), .second, .val (.int p4), .val (.int p0), .val (.long p3), .second, .val (.ref b108), .unset, .unset, .unset, .unset] [(.int (1 : Int32)), (.int (0 : Int32)), (.ref b128), (.ref b128), (.ref b123), (.ref b123)])) rfl rfl (hb hby at_62)
      have N133 := Fr.snoc X133 N121 lo_b128
      have V133 : Arv Z h133 b128 cA128 .int (1 : Int32) [(.int (1 : Int32))] (.int (0 : Int32)) := Arv.set Ar133 qk133 Sz133 qz133 Ha133 Gf133 rfl W133 0 (by decide) (by simp)
      refine Goes.st st133 ?_
      have Z133 : n0 ≤ h133.size := by have := W133.size; have := Z128; omega
      show Goes p e below s _ _ _ (T133.setTop (mkF m 63 #[.val (.int p0), .val (.int p1), .val (.long p2), .second, .val (.long p3), .second, .val (.int p4), .val (.int p0), .val (.long p3), .second, .val (.ref b108), .unset, .unset, .unset, .unset] [(.ref b128), (.ref b123), (.ref b123)]))
      refine Goes.st (fun t k => XS.iconst X133.here hx rfl (hb hby at_63) k) ?_
      show Goes p e below s _ _ _ (T133.setTop (mkF m 64 #[.val (.int p0), .val (.int p1), .val (.long p2), .second, .val (.long p3), .second, .val (.int p4), .val (.int p0), .val (.long p3), .second, .val (.ref b108), .unset, .unset, .unset, .unset] [(.int (1 : Int32)), (.ref b128), (.ref b123), (.ref b123)]))
      obtain ⟨T135, h135, cA135, X135, e135, E135, A135, st135⟩ := newP X133 hx hZ (hw _ (List.mem_of_getElem? (i := 3) rfl)) e133 (g := (mkF m 64 #[.val (.int p0), .val (.int p1), .val (.long p2), .second, .val (.long p3), .second, .val (.int p4), .val (.int p0), .val (.long p3), .second, .val (.ref b108), .unset, .unset, .unset, .unset] [(.int (1 : Int32)), (.ref b128), (.ref b123), (.ref b123)])) rfl (hb hby at_64) rfl (by decide) (cap := 1) (by decide) (by decide) (by decide) (by decide)
      obtain ⟨b135, g135⟩ : ∃ z, z = h133.size := ⟨_, rfl⟩
      rw [← g135] at A135 st135
      have f136 := ((f129.ext E128).wr W133)
      have ne_b108_b135 : b108 ≠ b135 := Nat.ne_of_lt (Nat.lt_of_lt_of_le f136.lt (Nat.le_of_eq g135.symm))
      have f137 := ((f130.ext E128).other W133 ne_b110_b128)
      have ne_b110_b135 : b110 ≠ b135 := Nat.ne_of_lt (Nat.lt_of_lt_of_le f137.lt (Nat.le_of_eq g135.symm))
      have f138 := ((f131.ext E128).other W133 ne_b112_b128)
      have ne_b112_b135 : b112 ≠ b135 := Nat.ne_of_lt (Nat.lt_of_lt_of_le f138.lt (Nat.le_of_eq g135.symm))
      have f139 := ((A123.ext E128).wr W133)
      have ne_b123_b135 : b123 ≠ b135 := Nat.ne_of_lt (Nat.lt_of_lt_of_le f139.lt (Nat.le_of_eq g135.symm))
      have ne_b128_b135 : b128 ≠ b135 := Nat.ne_of_lt (Nat.lt_of_lt_of_le V133.lt (Nat.le_of_eq g135.symm))
      have lo_b135 : n0 ≤ b135 := by have := Z133; omega
      have V135 : Arv Z h135 b135 cA135 .int (1 : Int32) [(.int (0 : Int32))] (.int (0 : Int32)) := (Arv.new A135 (by decide)).pad (pad_rep [] _ 1)
      refine Goes.st st135 ?_
      have Z135 : n0 ≤ h135.size := Nat.le_trans Z133 E135.1
      show Goes p e below s _ _ _ (T135.setTop (mkF m 66 #[.val (.int p0), .val (.int p1), .val (.long p2), .second, .val (.long p3), .second, .val (.int p4), .val (.int p0), .val (.long p3), .second, .val (.ref b108), .unset, .unset, .unset, .unset] [(.ref b135), (.ref b128), (.ref b123), (.ref b123)]))
      refine Goes.st (fun t k => XS.dup X135.here hx rfl (hb hby at_66) rfl rfl k) ?_
      show Goes p e below s _ _ _ (T135.setTop (mkF m 67 #[.val (.int p0), .val (.int p1), .val (.long p2), .second, .val (.long p3), .second, .val (.int p4), .val (.int p0), .val (.long p3), .second, .val (.ref b108), .unset, .unset, .unset, .unset] [(.ref b135), (.ref b135), (.ref b128), (.ref b123), (.ref b123)]))
      refine Goes.st (fun t k => XS.iconst X135.here hx rfl (hb hby at_67) k) ?_
      show Goes p e below s _ _ _ (T135.setTop (mkF m 68 #[.val (.int p0), .val (.int p1), .val (.long p2), .second, .val (.long p3), .second, .val (.int p4), .val (.int p0), .val (.long p3), .second, .val (.ref b108), .unset, .unset, .unset, .unset] [(.int (0 : Int32)), (.ref b135), (.ref b135), (.ref b128), (.ref b123), (.ref b123)]))
      refine Goes.st (fun t k => XS.iconst X135.here hx rfl (hb hby at_68) k) ?_
      show Goes p e below s _ _ _ (T135.setTop (mkF m 69 #[.val (.int p0), .val (.int p1), .val (.long p2), .second, .val (.long p3), .second, .val (.int p4), .val (.int p0), .val (.long p3), .second, .val (.ref b108), .unset, .unset, .unset, .unset] [(.int (1 : Int32)), (.int (0 : Int32)), (.ref b135), (.ref b135), (.ref b128), (.ref b123), (.ref b123)]))
      obtain ⟨cl141, Ar141, qk141, Sz141, qz141, Ha141, Gf141⟩ := V135
      obtain ⟨T141, h141, X141, e141, W141, st141⟩ := stI X135 hx hZ e135 Ar141 (inb_of Sz141 ⟨by decide, by decide⟩) (g := (mkF m 69 #[.val (.int p0), .val (.int p1), .val (.long p2), .second, .val (.long p3), .second, .val (.int p4), .val (.int p0), .val (.long p3), .second, .val (.ref b108), .unset, .unset, .unset, .unset] [(.int (1 : Int32)), (.int (0 : Int32)), (.ref b135), (.ref b135), (.ref b128), (.ref b123), (.ref b123)])) rfl rfl (hb hby at_69)
      have N141 := Fr.snoc X141 N133 lo_b135
      have V141 : Arv Z h141 b135 cA135 .int (1 : Int32) [(.int (1 : Int32))] (.int (0 : Int32)) := Arv.set Ar141 qk141 Sz141 qz141 Ha141 Gf141 rfl W141 0 (by decide) (by simp)
      refine Goes.st st141 ?_
      have Z141 : n0 ≤ h141.size := by have := W141.size; have := Z135; omega
      show Goes p e below s _ _ _ (T141.setTop (mkF m 70 #[.val (.int p0), .val (.int p1), .val (.long p2), .second, .val (.long p3), .second, .val (.int p4), .val (.int p0), .val (.long p3), .second, .val (.ref b108), .unset, .unset, .unset, .unset] [(.ref b135), (.ref b128), (.ref b123), (.ref b123)]))
      refine Goes.st (fun t k => XS.iload X141.here hx rfl (hb hby at_70) rfl k) ?_
      show Goes p e below s _ _ _ (T141.setTop (mkF m 72 #[.val (.int p0), .val (.int p1), .val (.long p2), .second, .val (.long p3), .second, .val (.int p4), .val (.int p0), .val (.long p3), .second, .val (.ref b108), .unset, .unset, .unset, .unset] [(.int p4), (.ref b135), (.ref b128), (.ref b123), (.ref b123)]))
      refine Goes.st (fun t k => XS.iconst X141.here hx rfl (hb hby at_72) k) ?_
      show Goes p e below s _ _ _ (T141.setTop (mkF m 73 #[.val (.int p0), .val (.int p1), .val (.long p2), .second, .val (.long p3), .second, .val (.int p4), .val (.int p0), .val (.long p3), .second, .val (.ref b108), .unset, .unset, .unset, .unset] [(.int (3 : Int32)), (.int p4), (.ref b135), (.ref b128), (.ref b123), (.ref b123)]))
      refine Goes.st (fun t k => XT.ishr X141.here hx rfl (hb hby at_73) rfl k) ?_
      show Goes p e below s _ _ _ (T141.setTop (mkF m 74 #[.val (.int p0), .val (.int p1), .val (.long p2), .second, .val (.long p3), .second, .val (.int p4), .val (.int p0), .val (.long p3), .second, .val (.ref b108), .unset, .unset, .unset, .unset] [(.int (p4 >>> ((3 : Int32) &&& 31))), (.ref b135), (.ref b128), (.ref b123), (.ref b123)]))
      refine Goes.st (fun t k => XS.i2dS X141.here hx rfl (hb hby at_74) rfl (v := (FP.i2d (p4 >>> ((3 : Int32) &&& 31)))) rfl k) ?_
      show Goes p e below s _ _ _ (T141.setTop (mkF m 75 #[.val (.int p0), .val (.int p1), .val (.long p2), .second, .val (.long p3), .second, .val (.int p4), .val (.int p0), .val (.long p3), .second, .val (.ref b108), .unset, .unset, .unset, .unset] [(.double (FP.i2d (p4 >>> ((3 : Int32) &&& 31)))), (.ref b135), (.ref b128), (.ref b123), (.ref b123)]))
      refine Goes.st (fun t k => XS.iload X141.here hx rfl (hb hby at_75) rfl k) ?_
      show Goes p e below s _ _ _ (T141.setTop (mkF m 77 #[.val (.int p0), .val (.int p1), .val (.long p2), .second, .val (.long p3), .second, .val (.int p4), .val (.int p0), .val (.long p3), .second, .val (.ref b108), .unset, .unset, .unset, .unset] [(.int p0), (.double (FP.i2d (p4 >>> ((3 : Int32) &&& 31)))), (.ref b135), (.ref b128), (.ref b123), (.ref b123)]))
      refine Goes.st (fun t k => XS.i2dS X141.here hx rfl (hb hby at_77) rfl (v := (FP.i2d p0)) rfl k) ?_
      show Goes p e below s _ _ _ (T141.setTop (mkF m 78 #[.val (.int p0), .val (.int p1), .val (.long p2), .second, .val (.long p3), .second, .val (.int p4), .val (.int p0), .val (.long p3), .second, .val (.ref b108), .unset, .unset, .unset, .unset] [(.double (FP.i2d p0)), (.double (FP.i2d (p4 >>> ((3 : Int32) &&& 31)))), (.ref b135), (.ref b128), (.ref b123), (.ref b123)]))
      refine Goes.st (fun t k => XT.lload X141.here hx rfl (hb hby at_78) rfl k) ?_
      show Goes p e below s _ _ _ (T141.setTop (mkF m 80 #[.val (.int p0), .val (.int p1), .val (.long p2), .second, .val (.long p3), .second, .val (.int p4), .val (.int p0), .val (.long p3), .second, .val (.ref b108), .unset, .unset, .unset, .unset] [(.long p3), (.double (FP.i2d p0)), (.double (FP.i2d (p4 >>> ((3 : Int32) &&& 31)))), (.ref b135), (.ref b128), (.ref b123), (.ref b123)]))
      have f143 := ((f139.ext E135).wr W141)
      have f144 := ((((F123_procs.ext E128).other W133 (Or.inl ne_b123_b128)).ext E135).other W141 (Or.inl ne_b123_b135))
      have f145 := ((((F123_attempts.ext E128).other W133 (Or.inl ne_b123_b128)).ext E135).other W141 (Or.inl ne_b123_b135))
      have f146 := ((((F123_time.ext E128).other W133 (Or.inl ne_b123_b128)).ext E135).other W141 (Or.inl ne_b123_b135))
      have f147 := ((((F123_area.ext E128).other W133 (Or.inl ne_b123_b128)).ext E135).other W141 (Or.inl ne_b123_b135))
      have f148 := ((((F123_processors.ext E128).other W133 (Or.inl ne_b123_b128)).ext E135).other W141 (Or.inl ne_b123_b135))
      obtain ⟨_, _, ⟨T149, L149, k149, n149⟩, -, X149, ⟨Lc149, hQ149, l149, y149, z149⟩, st149⟩ := X141.specialBack hx (y := (⟨"com/example/redoubt/redoubt/policies/AttemptCounts$Runs", "<init>", "([I[IDDJ)V"⟩ : MethodName)) rfl hown (mvT hZ (hw _ (List.mem_of_getElem? (i := 4) rfl))) (mvT hZ (hw _ (List.mem_of_getElem? (i := 5) rfl))) (mvT hZ (hw _ (List.mem_of_getElem? (i := 6) rfl))) (by decide) (backOf (W := 1) (rmC l Z a0 hw [] b123 b128 b135 (FP.i2d (p4 >>> ((3 : Int32) &&& 31))) (FP.i2d p0) p3 .null .null (.double (0 : UInt64)) (.double (0 : UInt64)) (.long (0 : Int64)) h141 n0 Z141 f143 lo_b123 f144 f145 f146 f147 f148) hZ (hw _ (List.mem_of_getElem? (i := 6) rfl)) (hw _ (List.mem_of_getElem? (i := 2) rfl)) (by decide) (by decide)) (g := (mkF m 80 #[.val (.int p0), .val (.int p1), .val (.long p2), .second, .val (.long p3), .second, .val (.int p4), .val (.int p0), .val (.long p3), .second, .val (.ref b108), .unset, .unset, .unset, .unset] [(.long p3), (.double (FP.i2d p0)), (.double (FP.i2d (p4 >>> ((3 : Int32) &&& 31)))), (.ref b135), (.ref b128), (.ref b123), (.ref b123)])) rfl (by rw [hml]; rfl) (Steps.refl _) (a := b123) (argsL := [(.ref b128), (.ref b135), (.double (FP.i2d (p4 >>> ((3 : Int32) &&& 31)))), (.double (FP.i2d p0)), (.long p3)]) (rest := [(.ref b123)]) (lenOf pd___I_IDDJ_V_1fa9 rfl) rfl (by show 2 * 0 + _ ≤ _; exact Nat.le_of_eq rfl) (hb hby at_80) (fun _ _ => ⟨rfl, e141, (by decide : 6 + 0 ≤ 24), (by decide : 12 + 0 ≤ 128)⟩)
      dsimp only [Pt.U, Pt.locs, Pt.cells, Pt.slots] at X149 l149 y149 z149 st149 hQ149
      subst l149 y149 z149
      obtain ⟨rfl, N149q, K149, R149_0, R149_1, R149_2, R149_3, R149_4⟩ := hQ149
      have Z149 : n0 ≤ T149.heap.size := Nat.le_trans Z141 K149.1
      have N149 := Fr.app N141 N149q
      refine Goes.sts st149 ?_
      show Goes p e below s _ _ _ (T149.setTop (mkF m 83 #[.val (.int p0), .val (.int p1), .val (.long p2), .second, .val (.long p3), .second, .val (.int p4), .val (.int p0), .val (.long p3), .second, .val (.ref b108), .unset, .unset, .unset, .unset] [(.ref b123)]))
      refine Goes.st (fun t k => XS.astore X149.here hx rfl (hb hby at_83) rfl rfl (l' := #[.val (.int p0), .val (.int p1), .val (.long p2), .second, .val (.long p3), .second, .val (.int p4), .val (.int p0), .val (.long p3), .second, .val (.ref b108), .val (.ref b123), .unset, .unset, .unset]) rfl k) ?_
      show Goes p e below s _ _ _ (T149.setTop (mkF m 85 #[.val (.int p0), .val (.int p1), .val (.long p2), .second, .val (.long p3), .second, .val (.int p4), .val (.int p0), .val (.long p3), .second, .val (.ref b108), .val (.ref b123), .unset, .unset, .unset] []))
      refine Goes.st (fun t k => XS.aload X149.here hx rfl (hb hby at_85) rfl rfl k) ?_
      show Goes p e below s _ _ _ (T149.setTop (mkF m 87 #[.val (.int p0), .val (.int p1), .val (.long p2), .second, .val (.long p3), .second, .val (.int p4), .val (.int p0), .val (.long p3), .second, .val (.ref b108), .val (.ref b123), .unset, .unset, .unset] [(.ref b108)]))
      refine Goes.st (fun t k => XS.aload X149.here hx rfl (hb hby at_87) rfl rfl k) ?_
      show Goes p e below s _ _ _ (T149.setTop (mkF m 89 #[.val (.int p0), .val (.int p1), .val (.long p2), .second, .val (.long p3), .second, .val (.int p4), .val (.int p0), .val (.long p3), .second, .val (.ref b108), .val (.ref b123), .unset, .unset, .unset] [(.ref b123), (.ref b108)]))
      have f151 := ((((((R121_3.ext E123).ext E128).other W133 (Or.inl ne_b108_b128)).ext E135).other W141 (Or.inl ne_b108_b135)).keep K149 (ninS ne_b108_b123 nin0))
      have f152 := ((((((R121_4.ext E123).ext E128).other W133 (Or.inl ne_b108_b128)).ext E135).other W141 (Or.inl ne_b108_b135)).keep K149 (ninS ne_b108_b123 nin0))
      have f154 := (((f136.ext E135).wr W141).keep K149)
      obtain ⟨cq153, kq153, qa153, qb153, qc153⟩ := isOf hZ rfl f154
      obtain ⟨_, _, ⟨T153, L153, k153, n153⟩, -, X153, ⟨Lc153, hQ153, l153, y153, z153⟩, st153⟩ := X149.virtualBack hx (y := (⟨"com/example/redoubt/redoubt/policies/AttemptCounts$Runs", "cheaperThan", "(Lcom/example/redoubt/redoubt/policies/AttemptCounts$Runs;)Z"⟩ : MethodName)) (z := (⟨"com/example/redoubt/redoubt/policies/AttemptCounts$Runs", "cheaperThan", "(Lcom/example/redoubt/redoubt/policies/AttemptCounts$Runs;)Z"⟩ : MethodName)) hown (mvT hZ (hw _ (List.mem_of_getElem? (i := 25) rfl))) (mvT hZ (hw _ (List.mem_of_getElem? (i := 26) rfl))) (notFace_of_selects (args := #[]) (mvT hZ (hw _ (List.mem_of_getElem? (i := 28) rfl)))) (mvT hZ (hw _ (List.mem_of_getElem? (i := 28) rfl))) (mvT hZ (hw _ (List.mem_of_getElem? (i := 27) rfl))) (by decide) (backOf (W := 0) (rmL l Z a0 hw [] b108 b123 (FP.i2d p0) (FP.i2d p0) p2 p3 T149.heap n0 Z149 f151 f152 R149_3 R149_4) hZ (hw _ (List.mem_of_getElem? (i := 29) rfl)) (hw _ (List.mem_of_getElem? (i := 2) rfl)) (by decide) (by decide)) qa153 qc153 (g := (mkF m 89 #[.val (.int p0), .val (.int p1), .val (.long p2), .second, .val (.long p3), .second, .val (.int p4), .val (.int p0), .val (.long p3), .second, .val (.ref b108), .val (.ref b123), .unset, .unset, .unset] [(.ref b123), (.ref b108)])) rfl (by rw [hml]; rfl) (Steps.refl _) (argsL := [(.ref b123)]) (rest := []) (lenOf pd__Lcom_example_redoubt_redoubt_policies_AttemptCounts_Runs__Z_3c19 rfl) rfl (by show 2 * 0 + _ ≤ _; exact Nat.le_of_eq rfl) (hb hby at_89) (fun _ _ => ⟨rfl, rfl, (by decide : 6 + 0 ≤ 24), (by decide : 12 + 0 ≤ 128)⟩)
      dsimp only [Pt.U, Pt.locs, Pt.cells, Pt.slots] at X153 l153 y153 z153 st153 hQ153
      subst l153 y153 z153
      obtain ⟨rfl, N153q, eh153⟩ := hQ153
      rw [own_same] at st153
      have N153 := Fr.app N149 N153q
      refine Goes.sts st153 ?_
      show Goes p e below s _ _ _ (T153.setTop (mkF m 92 #[.val (.int p0), .val (.int p1), .val (.long p2), .second, .val (.long p3), .second, .val (.int p4), .val (.int p0), .val (.long p3), .second, .val (.ref b108), .val (.ref b123), .unset, .unset, .unset] [(.int (rfc p0 p2 p0 p3))]))
      refine Goes.st (fun t k => XS.istore X153.here hx rfl (hb hby at_92) rfl (l' := #[.val (.int p0), .val (.int p1), .val (.long p2), .second, .val (.long p3), .second, .val (.int p4), .val (.int p0), .val (.long p3), .second, .val (.ref b108), .val (.ref b123), .val (.int (rfc p0 p2 p0 p3)), .unset, .unset]) rfl k) ?_
      show Goes p e below s _ _ _ (T153.setTop (mkF m 94 #[.val (.int p0), .val (.int p1), .val (.long p2), .second, .val (.long p3), .second, .val (.int p4), .val (.int p0), .val (.long p3), .second, .val (.ref b108), .val (.ref b123), .val (.int (rfc p0 p2 p0 p3)), .unset, .unset] []))
      refine Goes.st (fun t k => XS.aload X153.here hx rfl (hb hby at_94) rfl rfl k) ?_
      show Goes p e below s _ _ _ (T153.setTop (mkF m 96 #[.val (.int p0), .val (.int p1), .val (.long p2), .second, .val (.long p3), .second, .val (.int p4), .val (.int p0), .val (.long p3), .second, .val (.ref b108), .val (.ref b123), .val (.int (rfc p0 p2 p0 p3)), .unset, .unset] [(.ref b123)]))
      refine Goes.st (fun t k => XS.aload X153.here hx rfl (hb hby at_96) rfl rfl k) ?_
      show Goes p e below s _ _ _ (T153.setTop (mkF m 98 #[.val (.int p0), .val (.int p1), .val (.long p2), .second, .val (.long p3), .second, .val (.int p4), .val (.int p0), .val (.long p3), .second, .val (.ref b108), .val (.ref b123), .val (.int (rfc p0 p2 p0 p3)), .unset, .unset] [(.ref b108), (.ref b123)]))
      have f156 := (f143.keep K149)
      obtain ⟨cq155, kq155, qa155, qb155, qc155⟩ := isOf hZ eh153 f156
      obtain ⟨_, _, ⟨T155, L155, k155, n155⟩, -, X155, ⟨Lc155, hQ155, l155, y155, z155⟩, st155⟩ := X153.virtualBack hx (y := (⟨"com/example/redoubt/redoubt/policies/AttemptCounts$Runs", "cheaperThan", "(Lcom/example/redoubt/redoubt/policies/AttemptCounts$Runs;)Z"⟩ : MethodName)) (z := (⟨"com/example/redoubt/redoubt/policies/AttemptCounts$Runs", "cheaperThan", "(Lcom/example/redoubt/redoubt/policies/AttemptCounts$Runs;)Z"⟩ : MethodName)) hown (mvT hZ (hw _ (List.mem_of_getElem? (i := 25) rfl))) (mvT hZ (hw _ (List.mem_of_getElem? (i := 26) rfl))) (notFace_of_selects (args := #[]) (mvT hZ (hw _ (List.mem_of_getElem? (i := 28) rfl)))) (mvT hZ (hw _ (List.mem_of_getElem? (i := 28) rfl))) (mvT hZ (hw _ (List.mem_of_getElem? (i := 27) rfl))) (by decide) (backOf (W := 0) (rmL l Z a0 hw [] b123 b108 (FP.i2d p0) (FP.i2d p0) p3 p2 T149.heap n0 Z149 R149_3 R149_4 f151 f152) hZ (hw _ (List.mem_of_getElem? (i := 29) rfl)) (hw _ (List.mem_of_getElem? (i := 2) rfl)) (by decide) (by decide)) qa155 qc155 (g := (mkF m 98 #[.val (.int p0), .val (.int p1), .val (.long p2), .second, .val (.long p3), .second, .val (.int p4), .val (.int p0), .val (.long p3), .second, .val (.ref b108), .val (.ref b123), .val (.int (rfc p0 p2 p0 p3)), .unset, .unset] [(.ref b108), (.ref b123)])) rfl (by rw [hml]; rfl) (Steps.refl _) (argsL := [(.ref b108)]) (rest := []) (lenOf pd__Lcom_example_redoubt_redoubt_policies_AttemptCounts_Runs__Z_3c19 rfl) rfl (by show 2 * 0 + _ ≤ _; exact Nat.le_of_eq rfl) (hb hby at_98) (fun _ _ => ⟨rfl, eh153, (by decide : 6 + 0 ≤ 24), (by decide : 12 + 0 ≤ 128)⟩)
      dsimp only [Pt.U, Pt.locs, Pt.cells, Pt.slots] at X155 l155 y155 z155 st155 hQ155
      subst l155 y155 z155
      obtain ⟨rfl, N155q, eh155⟩ := hQ155
      rw [own_same] at st155
      have N155 := Fr.app N153 N155q
      refine Goes.sts st155 ?_
      show Goes p e below s _ _ _ (T155.setTop (mkF m 101 #[.val (.int p0), .val (.int p1), .val (.long p2), .second, .val (.long p3), .second, .val (.int p4), .val (.int p0), .val (.long p3), .second, .val (.ref b108), .val (.ref b123), .val (.int (rfc p0 p2 p0 p3)), .unset, .unset] [(.int (rfc p0 p3 p0 p2))]))
      refine Goes.st (fun t k => XS.istore X155.here hx rfl (hb hby at_101) rfl (l' := #[.val (.int p0), .val (.int p1), .val (.long p2), .second, .val (.long p3), .second, .val (.int p4), .val (.int p0), .val (.long p3), .second, .val (.ref b108), .val (.ref b123), .val (.int (rfc p0 p2 p0 p3)), .val (.int (rfc p0 p3 p0 p2)), .unset]) rfl k) ?_
      show Goes p e below s _ _ _ (T155.setTop (mkF m 103 #[.val (.int p0), .val (.int p1), .val (.long p2), .second, .val (.long p3), .second, .val (.int p4), .val (.int p0), .val (.long p3), .second, .val (.ref b108), .val (.ref b123), .val (.int (rfc p0 p2 p0 p3)), .val (.int (rfc p0 p3 p0 p2)), .unset] []))
      refine Goes.st (fun t k => XS.aload X155.here hx rfl (hb hby at_103) rfl rfl k) ?_
      show Goes p e below s _ _ _ (T155.setTop (mkF m 105 #[.val (.int p0), .val (.int p1), .val (.long p2), .second, .val (.long p3), .second, .val (.int p4), .val (.int p0), .val (.long p3), .second, .val (.ref b108), .val (.ref b123), .val (.int (rfc p0 p2 p0 p3)), .val (.int (rfc p0 p3 p0 p2)), .unset] [(.ref b108)]))
      refine Goes.st (fun t k => XS.aload X155.here hx rfl (hb hby at_105) rfl rfl k) ?_
      show Goes p e below s _ _ _ (T155.setTop (mkF m 107 #[.val (.int p0), .val (.int p1), .val (.long p2), .second, .val (.long p3), .second, .val (.int p4), .val (.int p0), .val (.long p3), .second, .val (.ref b108), .val (.ref b123), .val (.int (rfc p0 p2 p0 p3)), .val (.int (rfc p0 p3 p0 p2)), .unset] [(.ref b108), (.ref b108)]))
      obtain ⟨cq157, kq157, qa157, qb157, qc157⟩ := isOf hZ eh155 f154
      obtain ⟨_, _, ⟨T157, L157, k157, n157⟩, -, X157, ⟨Lc157, hQ157, l157, y157, z157⟩, st157⟩ := X155.virtualBack hx (y := (⟨"com/example/redoubt/redoubt/policies/AttemptCounts$Runs", "cheaperThan", "(Lcom/example/redoubt/redoubt/policies/AttemptCounts$Runs;)Z"⟩ : MethodName)) (z := (⟨"com/example/redoubt/redoubt/policies/AttemptCounts$Runs", "cheaperThan", "(Lcom/example/redoubt/redoubt/policies/AttemptCounts$Runs;)Z"⟩ : MethodName)) hown (mvT hZ (hw _ (List.mem_of_getElem? (i := 25) rfl))) (mvT hZ (hw _ (List.mem_of_getElem? (i := 26) rfl))) (notFace_of_selects (args := #[]) (mvT hZ (hw _ (List.mem_of_getElem? (i := 28) rfl)))) (mvT hZ (hw _ (List.mem_of_getElem? (i := 28) rfl))) (mvT hZ (hw _ (List.mem_of_getElem? (i := 27) rfl))) (by decide) (backOf (W := 0) (rmL l Z a0 hw [] b108 b108 (FP.i2d p0) (FP.i2d p0) p2 p2 T149.heap n0 Z149 f151 f152 f151 f152) hZ (hw _ (List.mem_of_getElem? (i := 29) rfl)) (hw _ (List.mem_of_getElem? (i := 2) rfl)) (by decide) (by decide)) qa157 qc157 (g := (mkF m 107 #[.val (.int p0), .val (.int p1), .val (.long p2), .second, .val (.long p3), .second, .val (.int p4), .val (.int p0), .val (.long p3), .second, .val (.ref b108), .val (.ref b123), .val (.int (rfc p0 p2 p0 p3)), .val (.int (rfc p0 p3 p0 p2)), .unset] [(.ref b108), (.ref b108)])) rfl (by rw [hml]; rfl) (Steps.refl _) (argsL := [(.ref b108)]) (rest := []) (lenOf pd__Lcom_example_redoubt_redoubt_policies_AttemptCounts_Runs__Z_3c19 rfl) rfl (by show 2 * 0 + _ ≤ _; exact Nat.le_of_eq rfl) (hb hby at_107) (fun _ _ => ⟨rfl, eh155, (by decide : 6 + 0 ≤ 24), (by decide : 12 + 0 ≤ 128)⟩)
      dsimp only [Pt.U, Pt.locs, Pt.cells, Pt.slots] at X157 l157 y157 z157 st157 hQ157
      subst l157 y157 z157
      obtain ⟨rfl, N157q, eh157⟩ := hQ157
      rw [show chp (FP.i2d p0) (FP.i2d p0) p2 p2 = 0 from (own_same _ _ _ _).trans (own_self _ _)] at st157
      have N157 := Fr.app N155 N157q
      refine Goes.sts st157 ?_
      show Goes p e below s _ _ _ (T157.setTop (mkF m 110 #[.val (.int p0), .val (.int p1), .val (.long p2), .second, .val (.long p3), .second, .val (.int p4), .val (.int p0), .val (.long p3), .second, .val (.ref b108), .val (.ref b123), .val (.int (rfc p0 p2 p0 p3)), .val (.int (rfc p0 p3 p0 p2)), .unset] [(.int (0 : Int32))]))
      refine Goes.st (fun t k => XS.istore X157.here hx rfl (hb hby at_110) rfl (l' := #[.val (.int p0), .val (.int p1), .val (.long p2), .second, .val (.long p3), .second, .val (.int p4), .val (.int p0), .val (.long p3), .second, .val (.ref b108), .val (.ref b123), .val (.int (rfc p0 p2 p0 p3)), .val (.int (rfc p0 p3 p0 p2)), .val (.int (0 : Int32))]) rfl k) ?_
      show Goes p e below s _ _ _ (T157.setTop (mkF m 112 #[.val (.int p0), .val (.int p1), .val (.long p2), .second, .val (.long p3), .second, .val (.int p4), .val (.int p0), .val (.long p3), .second, .val (.ref b108), .val (.ref b123), .val (.int (rfc p0 p2 p0 p3)), .val (.int (rfc p0 p3 p0 p2)), .val (.int (0 : Int32))] []))
      refine Goes.st (fun t k => XS.iload X157.here hx rfl (hb hby at_112) rfl k) ?_
      show Goes p e below s _ _ _ (T157.setTop (mkF m 114 #[.val (.int p0), .val (.int p1), .val (.long p2), .second, .val (.long p3), .second, .val (.int p4), .val (.int p0), .val (.long p3), .second, .val (.ref b108), .val (.ref b123), .val (.int (rfc p0 p2 p0 p3)), .val (.int (rfc p0 p3 p0 p2)), .val (.int (0 : Int32))] [(.int (rfc p0 p2 p0 p3))]))
      refine Goes.st (fun t k => XS.iloadN X157.here hx rfl (hb hby at_114) rfl k) ?_
      show Goes p e below s _ _ _ (T157.setTop (mkF m 115 #[.val (.int p0), .val (.int p1), .val (.long p2), .second, .val (.long p3), .second, .val (.int p4), .val (.int p0), .val (.long p3), .second, .val (.ref b108), .val (.ref b123), .val (.int (rfc p0 p2 p0 p3)), .val (.int (rfc p0 p3 p0 p2)), .val (.int (0 : Int32))] [(.int p0), (.int (rfc p0 p2 p0 p3))]))
      refine Goes.st (fun t k => XT.lloadN X157.here hx rfl (hb hby at_115) rfl k) ?_
      show Goes p e below s _ _ _ (T157.setTop (mkF m 116 #[.val (.int p0), .val (.int p1), .val (.long p2), .second, .val (.long p3), .second, .val (.int p4), .val (.int p0), .val (.long p3), .second, .val (.ref b108), .val (.ref b123), .val (.int (rfc p0 p2 p0 p3)), .val (.int (rfc p0 p3 p0 p2)), .val (.int (0 : Int32))] [(.long p2), (.int p0), (.int (rfc p0 p2 p0 p3))]))
      refine Goes.st (fun t k => XS.iload X157.here hx rfl (hb hby at_116) rfl k) ?_
      show Goes p e below s _ _ _ (T157.setTop (mkF m 118 #[.val (.int p0), .val (.int p1), .val (.long p2), .second, .val (.long p3), .second, .val (.int p4), .val (.int p0), .val (.long p3), .second, .val (.ref b108), .val (.ref b123), .val (.int (rfc p0 p2 p0 p3)), .val (.int (rfc p0 p3 p0 p2)), .val (.int (0 : Int32))] [(.int p0), (.long p2), (.int p0), (.int (rfc p0 p2 p0 p3))]))
      refine Goes.st (fun t k => XT.lload X157.here hx rfl (hb hby at_118) rfl k) ?_
      show Goes p e below s _ _ _ (T157.setTop (mkF m 120 #[.val (.int p0), .val (.int p1), .val (.long p2), .second, .val (.long p3), .second, .val (.int p4), .val (.int p0), .val (.long p3), .second, .val (.ref b108), .val (.ref b123), .val (.int (rfc p0 p2 p0 p3)), .val (.int (rfc p0 p3 p0 p2)), .val (.int (0 : Int32))] [(.long p3), (.int p0), (.long p2), (.int p0), (.int (rfc p0 p2 p0 p3))]))
      obtain ⟨_, _, ⟨T158, L158, k158, n158⟩, -, X158, ⟨Lc158, hQ158, l158, y158, z158⟩, st158⟩ := Jvm.LawKit.callS X157 hx (y := (⟨"com/example/redoubt/redoubt/policies/RunsCheaperThanPinLaw", "reference", "(IJIJ)Z"⟩ : MethodName)) hown (mvT hZ (hw _ (List.mem_of_getElem? (i := 30) rfl))) (mvT hZ (hw _ (List.mem_of_getElem? (i := 31) rfl))) (mvT hZ (hw _ (List.mem_of_getElem? (i := 32) rfl))) (mvT hZ (hw _ (List.mem_of_getElem? (i := 33) rfl))) (by decide) (backOf (W := 1) (rmE l Z a0 hw [] p0 p2 p0 p3 T149.heap n0 Z149 ) hZ (hw _ (List.mem_of_getElem? (i := 33) rfl)) (hw _ (List.mem_of_getElem? (i := 32) rfl)) (by decide) (by decide)) (g := (mkF m 120 #[.val (.int p0), .val (.int p1), .val (.long p2), .second, .val (.long p3), .second, .val (.int p4), .val (.int p0), .val (.long p3), .second, .val (.ref b108), .val (.ref b123), .val (.int (rfc p0 p2 p0 p3)), .val (.int (rfc p0 p3 p0 p2)), .val (.int (0 : Int32))] [(.long p3), (.int p0), (.long p2), (.int p0), (.int (rfc p0 p2 p0 p3))])) rfl (by rw [hml]; rfl) (argsL := [(.int p0), (.long p2), (.int p0), (.long p3)]) (rest := [(.int (rfc p0 p2 p0 p3))]) (lenOf pd__IJIJ_Z_1280 rfl) rfl (by show 2 * 0 + _ ≤ _; exact Nat.le_of_eq rfl) (hb hby at_120) (fun _ _ => ⟨rfl, eh157, (by decide : 6 + 0 ≤ 24), (by decide : 12 + 0 ≤ 128)⟩)
      dsimp only [Pt.U, Pt.locs, Pt.cells, Pt.slots] at X158 l158 y158 z158 st158 hQ158
      subst l158 y158 z158
      obtain ⟨rfl, N158q, eh158⟩ := hQ158
      have N158 := Fr.app N157 N158q
      refine Goes.st st158 ?_
      show Goes p e below s _ _ _ (T158.setTop (mkF m 123 #[.val (.int p0), .val (.int p1), .val (.long p2), .second, .val (.long p3), .second, .val (.int p4), .val (.int p0), .val (.long p3), .second, .val (.ref b108), .val (.ref b123), .val (.int (rfc p0 p2 p0 p3)), .val (.int (rfc p0 p3 p0 p2)), .val (.int (0 : Int32))] [(.int (rfc p0 p2 p0 p3)), (.int (rfc p0 p2 p0 p3))]))
      refine Goes.st (fun t k => XS.icmpNo X158.here hx rfl (hb hby at_123) rfl (teq (rfl : (rfc p0 p2 p0 p3) = (rfc p0 p2 p0 p3))).2 k) ?_
      show Goes p e below s _ _ _ (T158.setTop (mkF m 126 #[.val (.int p0), .val (.int p1), .val (.long p2), .second, .val (.long p3), .second, .val (.int p4), .val (.int p0), .val (.long p3), .second, .val (.ref b108), .val (.ref b123), .val (.int (rfc p0 p2 p0 p3)), .val (.int (rfc p0 p3 p0 p2)), .val (.int (0 : Int32))] []))
      refine Goes.st (fun t k => XS.iload X158.here hx rfl (hb hby at_126) rfl k) ?_
      show Goes p e below s _ _ _ (T158.setTop (mkF m 128 #[.val (.int p0), .val (.int p1), .val (.long p2), .second, .val (.long p3), .second, .val (.int p4), .val (.int p0), .val (.long p3), .second, .val (.ref b108), .val (.ref b123), .val (.int (rfc p0 p2 p0 p3)), .val (.int (rfc p0 p3 p0 p2)), .val (.int (0 : Int32))] [(.int (rfc p0 p3 p0 p2))]))
      refine Goes.st (fun t k => XS.iload X158.here hx rfl (hb hby at_128) rfl k) ?_
      show Goes p e below s _ _ _ (T158.setTop (mkF m 130 #[.val (.int p0), .val (.int p1), .val (.long p2), .second, .val (.long p3), .second, .val (.int p4), .val (.int p0), .val (.long p3), .second, .val (.ref b108), .val (.ref b123), .val (.int (rfc p0 p2 p0 p3)), .val (.int (rfc p0 p3 p0 p2)), .val (.int (0 : Int32))] [(.int p0), (.int (rfc p0 p3 p0 p2))]))
      refine Goes.st (fun t k => XT.lload X158.here hx rfl (hb hby at_130) rfl k) ?_
      show Goes p e below s _ _ _ (T158.setTop (mkF m 132 #[.val (.int p0), .val (.int p1), .val (.long p2), .second, .val (.long p3), .second, .val (.int p4), .val (.int p0), .val (.long p3), .second, .val (.ref b108), .val (.ref b123), .val (.int (rfc p0 p2 p0 p3)), .val (.int (rfc p0 p3 p0 p2)), .val (.int (0 : Int32))] [(.long p3), (.int p0), (.int (rfc p0 p3 p0 p2))]))
      refine Goes.st (fun t k => XS.iloadN X158.here hx rfl (hb hby at_132) rfl k) ?_
      show Goes p e below s _ _ _ (T158.setTop (mkF m 133 #[.val (.int p0), .val (.int p1), .val (.long p2), .second, .val (.long p3), .second, .val (.int p4), .val (.int p0), .val (.long p3), .second, .val (.ref b108), .val (.ref b123), .val (.int (rfc p0 p2 p0 p3)), .val (.int (rfc p0 p3 p0 p2)), .val (.int (0 : Int32))] [(.int p0), (.long p3), (.int p0), (.int (rfc p0 p3 p0 p2))]))
      refine Goes.st (fun t k => XT.lloadN X158.here hx rfl (hb hby at_133) rfl k) ?_
      show Goes p e below s _ _ _ (T158.setTop (mkF m 134 #[.val (.int p0), .val (.int p1), .val (.long p2), .second, .val (.long p3), .second, .val (.int p4), .val (.int p0), .val (.long p3), .second, .val (.ref b108), .val (.ref b123), .val (.int (rfc p0 p2 p0 p3)), .val (.int (rfc p0 p3 p0 p2)), .val (.int (0 : Int32))] [(.long p2), (.int p0), (.long p3), (.int p0), (.int (rfc p0 p3 p0 p2))]))
      obtain ⟨_, _, ⟨T159, L159, k159, n159⟩, -, X159, ⟨Lc159, hQ159, l159, y159, z159⟩, st159⟩ := Jvm.LawKit.callS X158 hx (y := (⟨"com/example/redoubt/redoubt/policies/RunsCheaperThanPinLaw", "reference", "(IJIJ)Z"⟩ : MethodName)) hown (mvT hZ (hw _ (List.mem_of_getElem? (i := 30) rfl))) (mvT hZ (hw _ (List.mem_of_getElem? (i := 31) rfl))) (mvT hZ (hw _ (List.mem_of_getElem? (i := 32) rfl))) (mvT hZ (hw _ (List.mem_of_getElem? (i := 33) rfl))) (by decide) (backOf (W := 1) (rmE l Z a0 hw [] p0 p3 p0 p2 T149.heap n0 Z149 ) hZ (hw _ (List.mem_of_getElem? (i := 33) rfl)) (hw _ (List.mem_of_getElem? (i := 32) rfl)) (by decide) (by decide)) (g := (mkF m 134 #[.val (.int p0), .val (.int p1), .val (.long p2), .second, .val (.long p3), .second, .val (.int p4), .val (.int p0), .val (.long p3), .second, .val (.ref b108), .val (.ref b123), .val (.int (rfc p0 p2 p0 p3)), .val (.int (rfc p0 p3 p0 p2)), .val (.int (0 : Int32))] [(.long p2), (.int p0), (.long p3), (.int p0), (.int (rfc p0 p3 p0 p2))])) rfl (by rw [hml]; rfl) (argsL := [(.int p0), (.long p3), (.int p0), (.long p2)]) (rest := [(.int (rfc p0 p3 p0 p2))]) (lenOf pd__IJIJ_Z_1280 rfl) rfl (by show 2 * 0 + _ ≤ _; exact Nat.le_of_eq rfl) (hb hby at_134) (fun _ _ => ⟨rfl, eh158, (by decide : 6 + 0 ≤ 24), (by decide : 12 + 0 ≤ 128)⟩)
      dsimp only [Pt.U, Pt.locs, Pt.cells, Pt.slots] at X159 l159 y159 z159 st159 hQ159
      subst l159 y159 z159
      obtain ⟨rfl, N159q, eh159⟩ := hQ159
      have N159 := Fr.app N158 N159q
      refine Goes.st st159 ?_
      show Goes p e below s _ _ _ (T159.setTop (mkF m 137 #[.val (.int p0), .val (.int p1), .val (.long p2), .second, .val (.long p3), .second, .val (.int p4), .val (.int p0), .val (.long p3), .second, .val (.ref b108), .val (.ref b123), .val (.int (rfc p0 p2 p0 p3)), .val (.int (rfc p0 p3 p0 p2)), .val (.int (0 : Int32))] [(.int (rfc p0 p3 p0 p2)), (.int (rfc p0 p3 p0 p2))]))
      refine Goes.st (fun t k => XS.icmpNo X159.here hx rfl (hb hby at_137) rfl (teq (rfl : (rfc p0 p3 p0 p2) = (rfc p0 p3 p0 p2))).2 k) ?_
      show Goes p e below s _ _ _ (T159.setTop (mkF m 140 #[.val (.int p0), .val (.int p1), .val (.long p2), .second, .val (.long p3), .second, .val (.int p4), .val (.int p0), .val (.long p3), .second, .val (.ref b108), .val (.ref b123), .val (.int (rfc p0 p2 p0 p3)), .val (.int (rfc p0 p3 p0 p2)), .val (.int (0 : Int32))] []))
      refine Goes.st (fun t k => XS.iload X159.here hx rfl (hb hby at_140) rfl k) ?_
      show Goes p e below s _ _ _ (T159.setTop (mkF m 142 #[.val (.int p0), .val (.int p1), .val (.long p2), .second, .val (.long p3), .second, .val (.int p4), .val (.int p0), .val (.long p3), .second, .val (.ref b108), .val (.ref b123), .val (.int (rfc p0 p2 p0 p3)), .val (.int (rfc p0 p3 p0 p2)), .val (.int (0 : Int32))] [(.int (0 : Int32))]))
      refine Goes.st (fun t k => XS.ifNo X159.here hx rfl (hb hby at_142) rfl (by decide) k) ?_
      show Goes p e below s _ _ _ (T159.setTop (mkF m 145 #[.val (.int p0), .val (.int p1), .val (.long p2), .second, .val (.long p3), .second, .val (.int p4), .val (.int p0), .val (.long p3), .second, .val (.ref b108), .val (.ref b123), .val (.int (rfc p0 p2 p0 p3)), .val (.int (rfc p0 p3 p0 p2)), .val (.int (0 : Int32))] []))
      refine Goes.st (fun t k => XS.iconst X159.here hx rfl (hb hby at_145) k) ?_
      show Goes p e below s _ _ _ (T159.setTop (mkF m 146 #[.val (.int p0), .val (.int p1), .val (.long p2), .second, .val (.long p3), .second, .val (.int p4), .val (.int p0), .val (.long p3), .second, .val (.ref b108), .val (.ref b123), .val (.int (rfc p0 p2 p0 p3)), .val (.int (rfc p0 p3 p0 p2)), .val (.int (0 : Int32))] [(.int (1 : Int32))]))
      refine Goes.st (fun t k => XS.goto X159.here hx rfl (pc0 := 146) (pc' := 150) rfl (hb hby at_146) (by decide) (by decide) k) ?_
      show Goes p e below s _ _ _ (T159.setTop (mkF m 150 #[.val (.int p0), .val (.int p1), .val (.long p2), .second, .val (.long p3), .second, .val (.int p4), .val (.int p0), .val (.long p3), .second, .val (.ref b108), .val (.ref b123), .val (.int (rfc p0 p2 p0 p3)), .val (.int (rfc p0 p3 p0 p2)), .val (.int (0 : Int32))] [(.int (1 : Int32))]))
      refine Goes.retN X159 hx hlk hret (by simp) (hb hby at_150) (by decide) ?_ (by decide) (by decide)
      rw [eh159]
      exact ⟨rfl, N159⟩
    · refine Goes.st (fun t k => XS.ifNo X0.here hx rfl (hb hby at_18) rfl ((if0 _ _).trans (feq c107).1) k) ?_
      show Goes p e below s _ _ _ (s₁.setTop (mkF m 21 #[.val (.int p0), .val (.int p1), .val (.long p2), .second, .val (.long p3), .second, .val (.int p4), .val (.int p0), .unset, .unset, .unset, .unset, .unset, .unset, .unset] []))
      refine Goes.st (fun t k => XT.lloadN X0.here hx rfl (hb hby at_21) rfl k) ?_
      show Goes p e below s _ _ _ (s₁.setTop (mkF m 22 #[.val (.int p0), .val (.int p1), .val (.long p2), .second, .val (.long p3), .second, .val (.int p4), .val (.int p0), .unset, .unset, .unset, .unset, .unset, .unset, .unset] [(.long p2)]))
      refine Goes.st (fun t k => XS.goto X0.here hx rfl (pc0 := 22) (pc' := 27) rfl (hb hby at_22) (by decide) (by decide) k) ?_
      show Goes p e below s _ _ _ (s₁.setTop (mkF m 27 #[.val (.int p0), .val (.int p1), .val (.long p2), .second, .val (.long p3), .second, .val (.int p4), .val (.int p0), .unset, .unset, .unset, .unset, .unset, .unset, .unset] [(.long p2)]))
      refine Goes.st (fun t k => XT.lstore X0.here hx rfl (hb hby at_27) rfl (l' := #[.val (.int p0), .val (.int p1), .val (.long p2), .second, .val (.long p3), .second, .val (.int p4), .val (.int p0), .val (.long p2), .second, .unset, .unset, .unset, .unset, .unset]) rfl k) ?_
      show Goes p e below s _ _ _ (s₁.setTop (mkF m 29 #[.val (.int p0), .val (.int p1), .val (.long p2), .second, .val (.long p3), .second, .val (.int p4), .val (.int p0), .val (.long p2), .second, .unset, .unset, .unset, .unset, .unset] []))
      obtain ⟨T160, h160, X160, e160, E160, A160, D160, -, st160⟩ := newO X0 hx hZ hown (hw _ (List.mem_of_getElem? (i := 0) rfl)) (hw _ (List.mem_of_getElem? (i := 1) rfl)) (hw _ (List.mem_of_getElem? (i := 2) rfl)) e0 (g := (mkF m 29 #[.val (.int p0), .val (.int p1), .val (.long p2), .second, .val (.long p3), .second, .val (.int p4), .val (.int p0), .val (.long p2), .second, .unset, .unset, .unset, .unset, .unset] [])) rfl (hb hby at_29) (by decide) (by decide)
      obtain ⟨b160, g160⟩ : ∃ z, z = h0.size := ⟨_, rfl⟩
      rw [← g160] at A160 D160 st160
      have lo_b160 : n0 ≤ b160 := by have := Z0; omega
      refine Goes.st st160 ?_
      have Z160 : n0 ≤ h160.size := Nat.le_trans Z0 E160.1
      have F160_procs : Fld Z h160 b160 "com/example/redoubt/redoubt/policies/AttemptCounts$Runs" "procs" "[I" .null := D160 (Or.inr (hw _ (List.mem_of_getElem? (i := 16) rfl))) (ty := (.array .int)) (by decide)
      have F160_attempts : Fld Z h160 b160 "com/example/redoubt/redoubt/policies/AttemptCounts$Runs" "attempts" "[I" .null := D160 (Or.inr (hw _ (List.mem_of_getElem? (i := 18) rfl))) (ty := (.array .int)) (by decide)
      have F160_time : Fld Z h160 b160 "com/example/redoubt/redoubt/policies/AttemptCounts$Runs" "time" "D" (.double (0 : UInt64)) := D160 (Or.inr (hw _ (List.mem_of_getElem? (i := 20) rfl))) (ty := .double) (by decide)
      have F160_area : Fld Z h160 b160 "com/example/redoubt/redoubt/policies/AttemptCounts$Runs" "area" "D" (.double (0 : UInt64)) := D160 (Or.inr (hw _ (List.mem_of_getElem? (i := 22) rfl))) (ty := .double) (by decide)
      have F160_processors : Fld Z h160 b160 "com/example/redoubt/redoubt/policies/AttemptCounts$Runs" "processors" "J" (.long (0 : Int64)) := D160 (Or.inr (hw _ (List.mem_of_getElem? (i := 24) rfl))) (ty := .long) (by decide)
      show Goes p e below s _ _ _ (T160.setTop (mkF m 32 #[.val (.int p0), .val (.int p1), .val (.long p2), .second, .val (.long p3), .second, .val (.int p4), .val (.int p0), .val (.long p2), .second, .unset, .unset, .unset, .unset, .unset] [(.ref b160)]))
      refine Goes.st (fun t k => XS.dup X160.here hx rfl (hb hby at_32) rfl rfl k) ?_
      show Goes p e below s _ _ _ (T160.setTop (mkF m 33 #[.val (.int p0), .val (.int p1), .val (.long p2), .second, .val (.long p3), .second, .val (.int p4), .val (.int p0), .val (.long p2), .second, .unset, .unset, .unset, .unset, .unset] [(.ref b160), (.ref b160)]))
      refine Goes.st (fun t k => XS.iconst X160.here hx rfl (hb hby at_33) k) ?_
      show Goes p e below s _ _ _ (T160.setTop (mkF m 34 #[.val (.int p0), .val (.int p1), .val (.long p2), .second, .val (.long p3), .second, .val (.int p4), .val (.int p0), .val (.long p2), .second, .unset, .unset, .unset, .unset, .unset] [(.int (0 : Int32)), (.ref b160), (.ref b160)]))
      obtain ⟨T162, h162, cA162, X162, e162, E162, A162, st162⟩ := newP X160 hx hZ (hw _ (List.mem_of_getElem? (i := 3) rfl)) e160 (g := (mkF m 34 #[.val (.int p0), .val (.int p1), .val (.long p2), .second, .val (.long p3), .second, .val (.int p4), .val (.int p0), .val (.long p2), .second, .unset, .unset, .unset, .unset, .unset] [(.int (0 : Int32)), (.ref b160), (.ref b160)])) rfl (hb hby at_34) rfl (by decide) (cap := 0) (by decide) (by decide) (by decide) (by decide)
      obtain ⟨b162, g162⟩ : ∃ z, z = h160.size := ⟨_, rfl⟩
      rw [← g162] at A162 st162
      have ne_b160_b162 : b160 ≠ b162 := Nat.ne_of_lt (Nat.lt_of_lt_of_le A160.lt (Nat.le_of_eq g162.symm))
      have lo_b162 : n0 ≤ b162 := by have := Z160; omega
      have V162 : Arv Z h162 b162 cA162 .int (0 : Int32) [] (.int (0 : Int32)) := (Arv.new A162 (by decide)).pad (pad_rep [] _ 0)
      refine Goes.st st162 ?_
      have Z162 : n0 ≤ h162.size := Nat.le_trans Z160 E162.1
      show Goes p e below s _ _ _ (T162.setTop (mkF m 36 #[.val (.int p0), .val (.int p1), .val (.long p2), .second, .val (.long p3), .second, .val (.int p4), .val (.int p0), .val (.long p2), .second, .unset, .unset, .unset, .unset, .unset] [(.ref b162), (.ref b160), (.ref b160)]))
      refine Goes.st (fun t k => XS.iconst X162.here hx rfl (hb hby at_36) k) ?_
      show Goes p e below s _ _ _ (T162.setTop (mkF m 37 #[.val (.int p0), .val (.int p1), .val (.long p2), .second, .val (.long p3), .second, .val (.int p4), .val (.int p0), .val (.long p2), .second, .unset, .unset, .unset, .unset, .unset] [(.int (0 : Int32)), (.ref b162), (.ref b160), (.ref b160)]))
      obtain ⟨T164, h164, cA164, X164, e164, E164, A164, st164⟩ := newP X162 hx hZ (hw _ (List.mem_of_getElem? (i := 3) rfl)) e162 (g := (mkF m 37 #[.val (.int p0), .val (.int p1), .val (.long p2), .second, .val (.long p3), .second, .val (.int p4), .val (.int p0), .val (.long p2), .second, .unset, .unset, .unset, .unset, .unset] [(.int (0 : Int32)), (.ref b162), (.ref b160), (.ref b160)])) rfl (hb hby at_37) rfl (by decide) (cap := 0) (by decide) (by decide) (by decide) (by decide)
      obtain ⟨b164, g164⟩ : ∃ z, z = h162.size := ⟨_, rfl⟩
      rw [← g164] at A164 st164
      have f165 := (A160.ext E162)
      have ne_b160_b164 : b160 ≠ b164 := Nat.ne_of_lt (Nat.lt_of_lt_of_le f165.lt (Nat.le_of_eq g164.symm))
      have ne_b162_b164 : b162 ≠ b164 := Nat.ne_of_lt (Nat.lt_of_lt_of_le V162.lt (Nat.le_of_eq g164.symm))
      have lo_b164 : n0 ≤ b164 := by have := Z162; omega
      have V164 : Arv Z h164 b164 cA164 .int (0 : Int32) [] (.int (0 : Int32)) := (Arv.new A164 (by decide)).pad (pad_rep [] _ 0)
      refine Goes.st st164 ?_
      have Z164 : n0 ≤ h164.size := Nat.le_trans Z162 E164.1
      show Goes p e below s _ _ _ (T164.setTop (mkF m 39 #[.val (.int p0), .val (.int p1), .val (.long p2), .second, .val (.long p3), .second, .val (.int p4), .val (.int p0), .val (.long p2), .second, .unset, .unset, .unset, .unset, .unset] [(.ref b164), (.ref b162), (.ref b160), (.ref b160)]))
      refine Goes.st (fun t k => XS.iload X164.here hx rfl (hb hby at_39) rfl k) ?_
      show Goes p e below s _ _ _ (T164.setTop (mkF m 41 #[.val (.int p0), .val (.int p1), .val (.long p2), .second, .val (.long p3), .second, .val (.int p4), .val (.int p0), .val (.long p2), .second, .unset, .unset, .unset, .unset, .unset] [(.int p4), (.ref b164), (.ref b162), (.ref b160), (.ref b160)]))
      refine Goes.st (fun t k => XS.iconst X164.here hx rfl (hb hby at_41) k) ?_
      show Goes p e below s _ _ _ (T164.setTop (mkF m 42 #[.val (.int p0), .val (.int p1), .val (.long p2), .second, .val (.long p3), .second, .val (.int p4), .val (.int p0), .val (.long p2), .second, .unset, .unset, .unset, .unset, .unset] [(.int (2 : Int32)), (.int p4), (.ref b164), (.ref b162), (.ref b160), (.ref b160)]))
      refine Goes.st (fun t k => XT.ishr X164.here hx rfl (hb hby at_42) rfl k) ?_
      show Goes p e below s _ _ _ (T164.setTop (mkF m 43 #[.val (.int p0), .val (.int p1), .val (.long p2), .second, .val (.long p3), .second, .val (.int p4), .val (.int p0), .val (.long p2), .second, .unset, .unset, .unset, .unset, .unset] [(.int (p4 >>> ((2 : Int32) &&& 31))), (.ref b164), (.ref b162), (.ref b160), (.ref b160)]))
      refine Goes.st (fun t k => XS.i2dS X164.here hx rfl (hb hby at_43) rfl (v := (FP.i2d (p4 >>> ((2 : Int32) &&& 31)))) rfl k) ?_
      show Goes p e below s _ _ _ (T164.setTop (mkF m 44 #[.val (.int p0), .val (.int p1), .val (.long p2), .second, .val (.long p3), .second, .val (.int p4), .val (.int p0), .val (.long p2), .second, .unset, .unset, .unset, .unset, .unset] [(.double (FP.i2d (p4 >>> ((2 : Int32) &&& 31)))), (.ref b164), (.ref b162), (.ref b160), (.ref b160)]))
      refine Goes.st (fun t k => XS.iloadN X164.here hx rfl (hb hby at_44) rfl k) ?_
      show Goes p e below s _ _ _ (T164.setTop (mkF m 45 #[.val (.int p0), .val (.int p1), .val (.long p2), .second, .val (.long p3), .second, .val (.int p4), .val (.int p0), .val (.long p2), .second, .unset, .unset, .unset, .unset, .unset] [(.int p0), (.double (FP.i2d (p4 >>> ((2 : Int32) &&& 31)))), (.ref b164), (.ref b162), (.ref b160), (.ref b160)]))
      refine Goes.st (fun t k => XS.i2dS X164.here hx rfl (hb hby at_45) rfl (v := (FP.i2d p0)) rfl k) ?_
      show Goes p e below s _ _ _ (T164.setTop (mkF m 46 #[.val (.int p0), .val (.int p1), .val (.long p2), .second, .val (.long p3), .second, .val (.int p4), .val (.int p0), .val (.long p2), .second, .unset, .unset, .unset, .unset, .unset] [(.double (FP.i2d p0)), (.double (FP.i2d (p4 >>> ((2 : Int32) &&& 31)))), (.ref b164), (.ref b162), (.ref b160), (.ref b160)]))
      refine Goes.st (fun t k => XT.lloadN X164.here hx rfl (hb hby at_46) rfl k) ?_
      show Goes p e below s _ _ _ (T164.setTop (mkF m 47 #[.val (.int p0), .val (.int p1), .val (.long p2), .second, .val (.long p3), .second, .val (.int p4), .val (.int p0), .val (.long p2), .second, .unset, .unset, .unset, .unset, .unset] [(.long p2), (.double (FP.i2d p0)), (.double (FP.i2d (p4 >>> ((2 : Int32) &&& 31)))), (.ref b164), (.ref b162), (.ref b160), (.ref b160)]))
      have f167 := (f165.ext E164)
      have f168 := ((F160_procs.ext E162).ext E164)
      have f169 := ((F160_attempts.ext E162).ext E164)
      have f170 := ((F160_time.ext E162).ext E164)
      have f171 := ((F160_area.ext E162).ext E164)
      have f172 := ((F160_processors.ext E162).ext E164)
      obtain ⟨_, _, ⟨T173, L173, k173, n173⟩, -, X173, ⟨Lc173, hQ173, l173, y173, z173⟩, st173⟩ := X164.specialBack hx (y := (⟨"com/example/redoubt/redoubt/policies/AttemptCounts$Runs", "<init>", "([I[IDDJ)V"⟩ : MethodName)) rfl hown (mvT hZ (hw _ (List.mem_of_getElem? (i := 4) rfl))) (mvT hZ (hw _ (List.mem_of_getElem? (i := 5) rfl))) (mvT hZ (hw _ (List.mem_of_getElem? (i := 6) rfl))) (by decide) (backOf (W := 1) (rmC l Z a0 hw [] b160 b162 b164 (FP.i2d (p4 >>> ((2 : Int32) &&& 31))) (FP.i2d p0) p2 .null .null (.double (0 : UInt64)) (.double (0 : UInt64)) (.long (0 : Int64)) h164 n0 Z164 f167 lo_b160 f168 f169 f170 f171 f172) hZ (hw _ (List.mem_of_getElem? (i := 6) rfl)) (hw _ (List.mem_of_getElem? (i := 2) rfl)) (by decide) (by decide)) (g := (mkF m 47 #[.val (.int p0), .val (.int p1), .val (.long p2), .second, .val (.long p3), .second, .val (.int p4), .val (.int p0), .val (.long p2), .second, .unset, .unset, .unset, .unset, .unset] [(.long p2), (.double (FP.i2d p0)), (.double (FP.i2d (p4 >>> ((2 : Int32) &&& 31)))), (.ref b164), (.ref b162), (.ref b160), (.ref b160)])) rfl (by rw [hml]; rfl) (Steps.refl _) (a := b160) (argsL := [(.ref b162), (.ref b164), (.double (FP.i2d (p4 >>> ((2 : Int32) &&& 31)))), (.double (FP.i2d p0)), (.long p2)]) (rest := [(.ref b160)]) (lenOf pd___I_IDDJ_V_1fa9 rfl) rfl (by show 2 * 0 + _ ≤ _; exact Nat.le_of_eq rfl) (hb hby at_47) (fun _ _ => ⟨rfl, e164, (by decide : 3 + 0 ≤ 24), (by decide : 5 + 0 ≤ 128)⟩)
      dsimp only [Pt.U, Pt.locs, Pt.cells, Pt.slots] at X173 l173 y173 z173 st173 hQ173
      subst l173 y173 z173
      obtain ⟨rfl, N173q, K173, R173_0, R173_1, R173_2, R173_3, R173_4⟩ := hQ173
      have Z173 : n0 ≤ T173.heap.size := Nat.le_trans Z164 K173.1
      have N173 := Fr.app N0 N173q
      refine Goes.sts st173 ?_
      show Goes p e below s _ _ _ (T173.setTop (mkF m 50 #[.val (.int p0), .val (.int p1), .val (.long p2), .second, .val (.long p3), .second, .val (.int p4), .val (.int p0), .val (.long p2), .second, .unset, .unset, .unset, .unset, .unset] [(.ref b160)]))
      refine Goes.st (fun t k => XS.astore X173.here hx rfl (hb hby at_50) rfl rfl (l' := #[.val (.int p0), .val (.int p1), .val (.long p2), .second, .val (.long p3), .second, .val (.int p4), .val (.int p0), .val (.long p2), .second, .val (.ref b160), .unset, .unset, .unset, .unset]) rfl k) ?_
      show Goes p e below s _ _ _ (T173.setTop (mkF m 52 #[.val (.int p0), .val (.int p1), .val (.long p2), .second, .val (.long p3), .second, .val (.int p4), .val (.int p0), .val (.long p2), .second, .val (.ref b160), .unset, .unset, .unset, .unset] []))
      obtain ⟨T175, h175, X175, e175, E175, A175, D175, -, st175⟩ := newO X173 hx hZ hown (hw _ (List.mem_of_getElem? (i := 0) rfl)) (hw _ (List.mem_of_getElem? (i := 1) rfl)) (hw _ (List.mem_of_getElem? (i := 2) rfl)) rfl (g := (mkF m 52 #[.val (.int p0), .val (.int p1), .val (.long p2), .second, .val (.long p3), .second, .val (.int p4), .val (.int p0), .val (.long p2), .second, .val (.ref b160), .unset, .unset, .unset, .unset] [])) rfl (hb hby at_52) (by decide) (by decide)
      obtain ⟨b175, g175⟩ : ∃ z, z = T173.heap.size := ⟨_, rfl⟩
      rw [← g175] at A175 D175 st175
      have f176 := (f167.keep K173)
      have ne_b160_b175 : b160 ≠ b175 := Nat.ne_of_lt (Nat.lt_of_lt_of_le f176.lt (Nat.le_of_eq g175.symm))
      have f177 := ((V162.ext E164).keep K173 (ninS (Ne.symm ne_b160_b162) nin0))
      have ne_b162_b175 : b162 ≠ b175 := Nat.ne_of_lt (Nat.lt_of_lt_of_le f177.lt (Nat.le_of_eq g175.symm))
      have f178 := (V164.keep K173 (ninS (Ne.symm ne_b160_b164) nin0))
      have ne_b164_b175 : b164 ≠ b175 := Nat.ne_of_lt (Nat.lt_of_lt_of_le f178.lt (Nat.le_of_eq g175.symm))
      have lo_b175 : n0 ≤ b175 := by have := Z173; omega
      refine Goes.st st175 ?_
      have Z175 : n0 ≤ h175.size := Nat.le_trans Z173 E175.1
      have F175_procs : Fld Z h175 b175 "com/example/redoubt/redoubt/policies/AttemptCounts$Runs" "procs" "[I" .null := D175 (Or.inr (hw _ (List.mem_of_getElem? (i := 16) rfl))) (ty := (.array .int)) (by decide)
      have F175_attempts : Fld Z h175 b175 "com/example/redoubt/redoubt/policies/AttemptCounts$Runs" "attempts" "[I" .null := D175 (Or.inr (hw _ (List.mem_of_getElem? (i := 18) rfl))) (ty := (.array .int)) (by decide)
      have F175_time : Fld Z h175 b175 "com/example/redoubt/redoubt/policies/AttemptCounts$Runs" "time" "D" (.double (0 : UInt64)) := D175 (Or.inr (hw _ (List.mem_of_getElem? (i := 20) rfl))) (ty := .double) (by decide)
      have F175_area : Fld Z h175 b175 "com/example/redoubt/redoubt/policies/AttemptCounts$Runs" "area" "D" (.double (0 : UInt64)) := D175 (Or.inr (hw _ (List.mem_of_getElem? (i := 22) rfl))) (ty := .double) (by decide)
      have F175_processors : Fld Z h175 b175 "com/example/redoubt/redoubt/policies/AttemptCounts$Runs" "processors" "J" (.long (0 : Int64)) := D175 (Or.inr (hw _ (List.mem_of_getElem? (i := 24) rfl))) (ty := .long) (by decide)
      show Goes p e below s _ _ _ (T175.setTop (mkF m 55 #[.val (.int p0), .val (.int p1), .val (.long p2), .second, .val (.long p3), .second, .val (.int p4), .val (.int p0), .val (.long p2), .second, .val (.ref b160), .unset, .unset, .unset, .unset] [(.ref b175)]))
      refine Goes.st (fun t k => XS.dup X175.here hx rfl (hb hby at_55) rfl rfl k) ?_
      show Goes p e below s _ _ _ (T175.setTop (mkF m 56 #[.val (.int p0), .val (.int p1), .val (.long p2), .second, .val (.long p3), .second, .val (.int p4), .val (.int p0), .val (.long p2), .second, .val (.ref b160), .unset, .unset, .unset, .unset] [(.ref b175), (.ref b175)]))
      refine Goes.st (fun t k => XS.iconst X175.here hx rfl (hb hby at_56) k) ?_
      show Goes p e below s _ _ _ (T175.setTop (mkF m 57 #[.val (.int p0), .val (.int p1), .val (.long p2), .second, .val (.long p3), .second, .val (.int p4), .val (.int p0), .val (.long p2), .second, .val (.ref b160), .unset, .unset, .unset, .unset] [(.int (1 : Int32)), (.ref b175), (.ref b175)]))
      obtain ⟨T180, h180, cA180, X180, e180, E180, A180, st180⟩ := newP X175 hx hZ (hw _ (List.mem_of_getElem? (i := 3) rfl)) e175 (g := (mkF m 57 #[.val (.int p0), .val (.int p1), .val (.long p2), .second, .val (.long p3), .second, .val (.int p4), .val (.int p0), .val (.long p2), .second, .val (.ref b160), .unset, .unset, .unset, .unset] [(.int (1 : Int32)), (.ref b175), (.ref b175)])) rfl (hb hby at_57) rfl (by decide) (cap := 1) (by decide) (by decide) (by decide) (by decide)
      obtain ⟨b180, g180⟩ : ∃ z, z = h175.size := ⟨_, rfl⟩
      rw [← g180] at A180 st180
      have f181 := (f176.ext E175)
      have ne_b160_b180 : b160 ≠ b180 := Nat.ne_of_lt (Nat.lt_of_lt_of_le f181.lt (Nat.le_of_eq g180.symm))
      have f182 := (f177.ext E175)
      have ne_b162_b180 : b162 ≠ b180 := Nat.ne_of_lt (Nat.lt_of_lt_of_le f182.lt (Nat.le_of_eq g180.symm))
      have f183 := (f178.ext E175)
      have ne_b164_b180 : b164 ≠ b180 := Nat.ne_of_lt (Nat.lt_of_lt_of_le f183.lt (Nat.le_of_eq g180.symm))
      have ne_b175_b180 : b175 ≠ b180 := Nat.ne_of_lt (Nat.lt_of_lt_of_le A175.lt (Nat.le_of_eq g180.symm))
      have lo_b180 : n0 ≤ b180 := by have := Z175; omega
      have V180 : Arv Z h180 b180 cA180 .int (1 : Int32) [(.int (0 : Int32))] (.int (0 : Int32)) := (Arv.new A180 (by decide)).pad (pad_rep [] _ 1)
      refine Goes.st st180 ?_
      have Z180 : n0 ≤ h180.size := Nat.le_trans Z175 E180.1
      show Goes p e below s _ _ _ (T180.setTop (mkF m 59 #[.val (.int p0), .val (.int p1), .val (.long p2), .second, .val (.long p3), .second, .val (.int p4), .val (.int p0), .val (.long p2), .second, .val (.ref b160), .unset, .unset, .unset, .unset] [(.ref b180), (.ref b175), (.ref b175)]))
      refine Goes.st (fun t k => XS.dup X180.here hx rfl (hb hby at_59) rfl rfl k) ?_
      show Goes p e below s _ _ _ (T180.setTop (mkF m 60 #[.val (.int p0), .val (.int p1), .val (.long p2), .second, .val (.long p3), .second, .val (.int p4), .val (.int p0), .val (.long p2), .second, .val (.ref b160), .unset, .unset, .unset, .unset] [(.ref b180), (.ref b180), (.ref b175), (.ref b175)]))
      refine Goes.st (fun t k => XS.iconst X180.here hx rfl (hb hby at_60) k) ?_
      show Goes p e below s _ _ _ (T180.setTop (mkF m 61 #[.val (.int p0), .val (.int p1), .val (.long p2), .second, .val (.long p3), .second, .val (.int p4), .val (.int p0), .val (.long p2), .second, .val (.ref b160), .unset, .unset, .unset, .unset] [(.int (0 : Int32)), (.ref b180), (.ref b180), (.ref b175), (.ref b175)]))
      refine Goes.st (fun t k => XS.iconst X180.here hx rfl (hb hby at_61) k) ?_
      show Goes p e below s _ _ _ (T180.setTop (mkF m 62 #[.val (.int p0), .val (.int p1), .val (.long p2), .second, .val (.long p3), .second, .val (.int p4), .val (.int p0), .val (.long p2), .second, .val (.ref b160), .unset, .unset, .unset, .unset] [(.int (1 : Int32)), (.int (0 : Int32)), (.ref b180), (.ref b180), (.ref b175), (.ref b175)]))
      obtain ⟨cl185, Ar185, qk185, Sz185, qz185, Ha185, Gf185⟩ := V180
      obtain ⟨T185, h185, X185, e185, W185, st185⟩ := stI X180 hx hZ e180 Ar185 (inb_of Sz185 ⟨by decide, by decide⟩) (g := (mkF m 62 #[.val (.int p0), .val (.int p1), .val (.long p2), .second, .val (.long p3), .second, .val (.int p4), .val (.int p0), .val (.long p2), .second, .val (.ref b160), .unset, .unset, .unset, .unset] [(.int (1 : Int32)), (.int (0 : Int32)), (.ref b180), (.ref b180), (.ref b175), (.ref b175)])) rfl rfl (hb hby at_62)
      have N185 := Fr.snoc X185 N173 lo_b180
      have V185 : Arv Z h185 b180 cA180 .int (1 : Int32) [(.int (1 : Int32))] (.int (0 : Int32)) := Arv.set Ar185 qk185 Sz185 qz185 Ha185 Gf185 rfl W185 0 (by decide) (by simp)
      refine Goes.st st185 ?_
      have Z185 : n0 ≤ h185.size := by have := W185.size; have := Z180; omega
      show Goes p e below s _ _ _ (T185.setTop (mkF m 63 #[.val (.int p0), .val (.int p1), .val (.long p2), .second, .val (.long p3), .second, .val (.int p4), .val (.int p0), .val (.long p2), .second, .val (.ref b160), .unset, .unset, .unset, .unset] [(.ref b180), (.ref b175), (.ref b175)]))
      refine Goes.st (fun t k => XS.iconst X185.here hx rfl (hb hby at_63) k) ?_
      show Goes p e below s _ _ _ (T185.setTop (mkF m 64 #[.val (.int p0), .val (.int p1), .val (.long p2), .second, .val (.long p3), .second, .val (.int p4), .val (.int p0), .val (.long p2), .second, .val (.ref b160), .unset, .unset, .unset, .unset] [(.int (1 : Int32)), (.ref b180), (.ref b175), (.ref b175)]))
      obtain ⟨T187, h187, cA187, X187, e187, E187, A187, st187⟩ := newP X185 hx hZ (hw _ (List.mem_of_getElem? (i := 3) rfl)) e185 (g := (mkF m 64 #[.val (.int p0), .val (.int p1), .val (.long p2), .second, .val (.long p3), .second, .val (.int p4), .val (.int p0), .val (.long p2), .second, .val (.ref b160), .unset, .unset, .unset, .unset] [(.int (1 : Int32)), (.ref b180), (.ref b175), (.ref b175)])) rfl (hb hby at_64) rfl (by decide) (cap := 1) (by decide) (by decide) (by decide) (by decide)
      obtain ⟨b187, g187⟩ : ∃ z, z = h185.size := ⟨_, rfl⟩
      rw [← g187] at A187 st187
      have f188 := ((f181.ext E180).wr W185)
      have ne_b160_b187 : b160 ≠ b187 := Nat.ne_of_lt (Nat.lt_of_lt_of_le f188.lt (Nat.le_of_eq g187.symm))
      have f189 := ((f182.ext E180).other W185 ne_b162_b180)
      have ne_b162_b187 : b162 ≠ b187 := Nat.ne_of_lt (Nat.lt_of_lt_of_le f189.lt (Nat.le_of_eq g187.symm))
      have f190 := ((f183.ext E180).other W185 ne_b164_b180)
      have ne_b164_b187 : b164 ≠ b187 := Nat.ne_of_lt (Nat.lt_of_lt_of_le f190.lt (Nat.le_of_eq g187.symm))
      have f191 := ((A175.ext E180).wr W185)
      have ne_b175_b187 : b175 ≠ b187 := Nat.ne_of_lt (Nat.lt_of_lt_of_le f191.lt (Nat.le_of_eq g187.symm))
      have ne_b180_b187 : b180 ≠ b187 := Nat.ne_of_lt (Nat.lt_of_lt_of_le V185.lt (Nat.le_of_eq g187.symm))
      have lo_b187 : n0 ≤ b187 := by have := Z185; omega
      have V187 : Arv Z h187 b187 cA187 .int (1 : Int32) [(.int (0 : Int32))] (.int (0 : Int32)) := (Arv.new A187 (by decide)).pad (pad_rep [] _ 1)
      refine Goes.st st187 ?_
      have Z187 : n0 ≤ h187.size := Nat.le_trans Z185 E187.1
      show Goes p e below s _ _ _ (T187.setTop (mkF m 66 #[.val (.int p0), .val (.int p1), .val (.long p2), .second, .val (.long p3), .second, .val (.int p4), .val (.int p0), .val (.long p2), .second, .val (.ref b160), .unset, .unset, .unset, .unset] [(.ref b187), (.ref b180), (.ref b175), (.ref b175)]))
      refine Goes.st (fun t k => XS.dup X187.here hx rfl (hb hby at_66) rfl rfl k) ?_
      show Goes p e below s _ _ _ (T187.setTop (mkF m 67 #[.val (.int p0), .val (.int p1), .val (.long p2), .second, .val (.long p3), .second, .val (.int p4), .val (.int p0), .val (.long p2), .second, .val (.ref b160), .unset, .unset, .unset, .unset] [(.ref b187), (.ref b187), (.ref b180), (.ref b175), (.ref b175)]))
      refine Goes.st (fun t k => XS.iconst X187.here hx rfl (hb hby at_67) k) ?_
      show Goes p e below s _ _ _ (T187.setTop (mkF m 68 #[.val (.int p0), .val (.int p1), .val (.long p2), .second, .val (.long p3), .second, .val (.int p4), .val (.int p0), .val (.long p2), .second, .val (.ref b160), .unset, .unset, .unset, .unset] [(.int (0 : Int32)), (.ref b187), (.ref b187), (.ref b180), (.ref b175), (.ref b175)]))
      refine Goes.st (fun t k => XS.iconst X187.here hx rfl (hb hby at_68) k) ?_
      show Goes p e below s _ _ _ (T187.setTop (mkF m 69 #[.val (.int p0), .val (.int p1), .val (.long p2), .second, .val (.long p3), .second, .val (.int p4), .val (.int p0), .val (.long p2), .second, .val (.ref b160), .unset, .unset, .unset, .unset] [(.int (1 : Int32)), (.int (0 : Int32)), (.ref b187), (.ref b187), (.ref b180), (.ref b175), (.ref b175)]))
      obtain ⟨cl193, Ar193, qk193, Sz193, qz193, Ha193, Gf193⟩ := V187
      obtain ⟨T193, h193, X193, e193, W193, st193⟩ := stI X187 hx hZ e187 Ar193 (inb_of Sz193 ⟨by decide, by decide⟩) (g := (mkF m 69 #[.val (.int p0), .val (.int p1), .val (.long p2), .second, .val (.long p3), .second, .val (.int p4), .val (.int p0), .val (.long p2), .second, .val (.ref b160), .unset, .unset, .unset, .unset] [(.int (1 : Int32)), (.int (0 : Int32)), (.ref b187), (.ref b187), (.ref b180), (.ref b175), (.ref b175)])) rfl rfl (hb hby at_69)
      have N193 := Fr.snoc X193 N185 lo_b187
      have V193 : Arv Z h193 b187 cA187 .int (1 : Int32) [(.int (1 : Int32))] (.int (0 : Int32)) := Arv.set Ar193 qk193 Sz193 qz193 Ha193 Gf193 rfl W193 0 (by decide) (by simp)
      refine Goes.st st193 ?_
      have Z193 : n0 ≤ h193.size := by have := W193.size; have := Z187; omega
      show Goes p e below s _ _ _ (T193.setTop (mkF m 70 #[.val (.int p0), .val (.int p1), .val (.long p2), .second, .val (.long p3), .second, .val (.int p4), .val (.int p0), .val (.long p2), .second, .val (.ref b160), .unset, .unset, .unset, .unset] [(.ref b187), (.ref b180), (.ref b175), (.ref b175)]))
      refine Goes.st (fun t k => XS.iload X193.here hx rfl (hb hby at_70) rfl k) ?_
      show Goes p e below s _ _ _ (T193.setTop (mkF m 72 #[.val (.int p0), .val (.int p1), .val (.long p2), .second, .val (.long p3), .second, .val (.int p4), .val (.int p0), .val (.long p2), .second, .val (.ref b160), .unset, .unset, .unset, .unset] [(.int p4), (.ref b187), (.ref b180), (.ref b175), (.ref b175)]))
      refine Goes.st (fun t k => XS.iconst X193.here hx rfl (hb hby at_72) k) ?_
      show Goes p e below s _ _ _ (T193.setTop (mkF m 73 #[.val (.int p0), .val (.int p1), .val (.long p2), .second, .val (.long p3), .second, .val (.int p4), .val (.int p0), .val (.long p2), .second, .val (.ref b160), .unset, .unset, .unset, .unset] [(.int (3 : Int32)), (.int p4), (.ref b187), (.ref b180), (.ref b175), (.ref b175)]))
      refine Goes.st (fun t k => XT.ishr X193.here hx rfl (hb hby at_73) rfl k) ?_
      show Goes p e below s _ _ _ (T193.setTop (mkF m 74 #[.val (.int p0), .val (.int p1), .val (.long p2), .second, .val (.long p3), .second, .val (.int p4), .val (.int p0), .val (.long p2), .second, .val (.ref b160), .unset, .unset, .unset, .unset] [(.int (p4 >>> ((3 : Int32) &&& 31))), (.ref b187), (.ref b180), (.ref b175), (.ref b175)]))
      refine Goes.st (fun t k => XS.i2dS X193.here hx rfl (hb hby at_74) rfl (v := (FP.i2d (p4 >>> ((3 : Int32) &&& 31)))) rfl k) ?_
      show Goes p e below s _ _ _ (T193.setTop (mkF m 75 #[.val (.int p0), .val (.int p1), .val (.long p2), .second, .val (.long p3), .second, .val (.int p4), .val (.int p0), .val (.long p2), .second, .val (.ref b160), .unset, .unset, .unset, .unset] [(.double (FP.i2d (p4 >>> ((3 : Int32) &&& 31)))), (.ref b187), (.ref b180), (.ref b175), (.ref b175)]))
      refine Goes.st (fun t k => XS.iload X193.here hx rfl (hb hby at_75) rfl k) ?_
      show Goes p e below s _ _ _ (T193.setTop (mkF m 77 #[.val (.int p0), .val (.int p1), .val (.long p2), .second, .val (.long p3), .second, .val (.int p4), .val (.int p0), .val (.long p2), .second, .val (.ref b160), .unset, .unset, .unset, .unset] [(.int p0), (.double (FP.i2d (p4 >>> ((3 : Int32) &&& 31)))), (.ref b187), (.ref b180), (.ref b175), (.ref b175)]))
      refine Goes.st (fun t k => XS.i2dS X193.here hx rfl (hb hby at_77) rfl (v := (FP.i2d p0)) rfl k) ?_
      show Goes p e below s _ _ _ (T193.setTop (mkF m 78 #[.val (.int p0), .val (.int p1), .val (.long p2), .second, .val (.long p3), .second, .val (.int p4), .val (.int p0), .val (.long p2), .second, .val (.ref b160), .unset, .unset, .unset, .unset] [(.double (FP.i2d p0)), (.double (FP.i2d (p4 >>> ((3 : Int32) &&& 31)))), (.ref b187), (.ref b180), (.ref b175), (.ref b175)]))
      refine Goes.st (fun t k => XT.lload X193.here hx rfl (hb hby at_78) rfl k) ?_
      show Goes p e below s _ _ _ (T193.setTop (mkF m 80 #[.val (.int p0), .val (.int p1), .val (.long p2), .second, .val (.long p3), .second, .val (.int p4), .val (.int p0), .val (.long p2), .second, .val (.ref b160), .unset, .unset, .unset, .unset] [(.long p2), (.double (FP.i2d p0)), (.double (FP.i2d (p4 >>> ((3 : Int32) &&& 31)))), (.ref b187), (.ref b180), (.ref b175), (.ref b175)]))
      have f195 := ((f191.ext E187).wr W193)
      have f196 := ((((F175_procs.ext E180).other W185 (Or.inl ne_b175_b180)).ext E187).other W193 (Or.inl ne_b175_b187))
      have f197 := ((((F175_attempts.ext E180).other W185 (Or.inl ne_b175_b180)).ext E187).other W193 (Or.inl ne_b175_b187))
      have f198 := ((((F175_time.ext E180).other W185 (Or.inl ne_b175_b180)).ext E187).other W193 (Or.inl ne_b175_b187))
      have f199 := ((((F175_area.ext E180).other W185 (Or.inl ne_b175_b180)).ext E187).other W193 (Or.inl ne_b175_b187))
      have f200 := ((((F175_processors.ext E180).other W185 (Or.inl ne_b175_b180)).ext E187).other W193 (Or.inl ne_b175_b187))
      obtain ⟨_, _, ⟨T201, L201, k201, n201⟩, -, X201, ⟨Lc201, hQ201, l201, y201, z201⟩, st201⟩ := X193.specialBack hx (y := (⟨"com/example/redoubt/redoubt/policies/AttemptCounts$Runs", "<init>", "([I[IDDJ)V"⟩ : MethodName)) rfl hown (mvT hZ (hw _ (List.mem_of_getElem? (i := 4) rfl))) (mvT hZ (hw _ (List.mem_of_getElem? (i := 5) rfl))) (mvT hZ (hw _ (List.mem_of_getElem? (i := 6) rfl))) (by decide) (backOf (W := 1) (rmC l Z a0 hw [] b175 b180 b187 (FP.i2d (p4 >>> ((3 : Int32) &&& 31))) (FP.i2d p0) p2 .null .null (.double (0 : UInt64)) (.double (0 : UInt64)) (.long (0 : Int64)) h193 n0 Z193 f195 lo_b175 f196 f197 f198 f199 f200) hZ (hw _ (List.mem_of_getElem? (i := 6) rfl)) (hw _ (List.mem_of_getElem? (i := 2) rfl)) (by decide) (by decide)) (g := (mkF m 80 #[.val (.int p0), .val (.int p1), .val (.long p2), .second, .val (.long p3), .second, .val (.int p4), .val (.int p0), .val (.long p2), .second, .val (.ref b160), .unset, .unset, .unset, .unset] [(.long p2), (.double (FP.i2d p0)), (.double (FP.i2d (p4 >>> ((3 : Int32) &&& 31)))), (.ref b187), (.ref b180), (.ref b175), (.ref b175)])) rfl (by rw [hml]; rfl) (Steps.refl _) (a := b175) (argsL := [(.ref b180), (.ref b187), (.double (FP.i2d (p4 >>> ((3 : Int32) &&& 31)))), (.double (FP.i2d p0)), (.long p2)]) (rest := [(.ref b175)]) (lenOf pd___I_IDDJ_V_1fa9 rfl) rfl (by show 2 * 0 + _ ≤ _; exact Nat.le_of_eq rfl) (hb hby at_80) (fun _ _ => ⟨rfl, e193, (by decide : 6 + 0 ≤ 24), (by decide : 12 + 0 ≤ 128)⟩)
      dsimp only [Pt.U, Pt.locs, Pt.cells, Pt.slots] at X201 l201 y201 z201 st201 hQ201
      subst l201 y201 z201
      obtain ⟨rfl, N201q, K201, R201_0, R201_1, R201_2, R201_3, R201_4⟩ := hQ201
      have Z201 : n0 ≤ T201.heap.size := Nat.le_trans Z193 K201.1
      have N201 := Fr.app N193 N201q
      refine Goes.sts st201 ?_
      show Goes p e below s _ _ _ (T201.setTop (mkF m 83 #[.val (.int p0), .val (.int p1), .val (.long p2), .second, .val (.long p3), .second, .val (.int p4), .val (.int p0), .val (.long p2), .second, .val (.ref b160), .unset, .unset, .unset, .unset] [(.ref b175)]))
      refine Goes.st (fun t k => XS.astore X201.here hx rfl (hb hby at_83) rfl rfl (l' := #[.val (.int p0), .val (.int p1), .val (.long p2), .second, .val (.long p3), .second, .val (.int p4), .val (.int p0), .val (.long p2), .second, .val (.ref b160), .val (.ref b175), .unset, .unset, .unset]) rfl k) ?_
      show Goes p e below s _ _ _ (T201.setTop (mkF m 85 #[.val (.int p0), .val (.int p1), .val (.long p2), .second, .val (.long p3), .second, .val (.int p4), .val (.int p0), .val (.long p2), .second, .val (.ref b160), .val (.ref b175), .unset, .unset, .unset] []))
      refine Goes.st (fun t k => XS.aload X201.here hx rfl (hb hby at_85) rfl rfl k) ?_
      show Goes p e below s _ _ _ (T201.setTop (mkF m 87 #[.val (.int p0), .val (.int p1), .val (.long p2), .second, .val (.long p3), .second, .val (.int p4), .val (.int p0), .val (.long p2), .second, .val (.ref b160), .val (.ref b175), .unset, .unset, .unset] [(.ref b160)]))
      refine Goes.st (fun t k => XS.aload X201.here hx rfl (hb hby at_87) rfl rfl k) ?_
      show Goes p e below s _ _ _ (T201.setTop (mkF m 89 #[.val (.int p0), .val (.int p1), .val (.long p2), .second, .val (.long p3), .second, .val (.int p4), .val (.int p0), .val (.long p2), .second, .val (.ref b160), .val (.ref b175), .unset, .unset, .unset] [(.ref b175), (.ref b160)]))
      have f203 := ((((((R173_3.ext E175).ext E180).other W185 (Or.inl ne_b160_b180)).ext E187).other W193 (Or.inl ne_b160_b187)).keep K201 (ninS ne_b160_b175 nin0))
      have f204 := ((((((R173_4.ext E175).ext E180).other W185 (Or.inl ne_b160_b180)).ext E187).other W193 (Or.inl ne_b160_b187)).keep K201 (ninS ne_b160_b175 nin0))
      have f206 := (((f188.ext E187).wr W193).keep K201)
      obtain ⟨cq205, kq205, qa205, qb205, qc205⟩ := isOf hZ rfl f206
      obtain ⟨_, _, ⟨T205, L205, k205, n205⟩, -, X205, ⟨Lc205, hQ205, l205, y205, z205⟩, st205⟩ := X201.virtualBack hx (y := (⟨"com/example/redoubt/redoubt/policies/AttemptCounts$Runs", "cheaperThan", "(Lcom/example/redoubt/redoubt/policies/AttemptCounts$Runs;)Z"⟩ : MethodName)) (z := (⟨"com/example/redoubt/redoubt/policies/AttemptCounts$Runs", "cheaperThan", "(Lcom/example/redoubt/redoubt/policies/AttemptCounts$Runs;)Z"⟩ : MethodName)) hown (mvT hZ (hw _ (List.mem_of_getElem? (i := 25) rfl))) (mvT hZ (hw _ (List.mem_of_getElem? (i := 26) rfl))) (notFace_of_selects (args := #[]) (mvT hZ (hw _ (List.mem_of_getElem? (i := 28) rfl)))) (mvT hZ (hw _ (List.mem_of_getElem? (i := 28) rfl))) (mvT hZ (hw _ (List.mem_of_getElem? (i := 27) rfl))) (by decide) (backOf (W := 0) (rmL l Z a0 hw [] b160 b175 (FP.i2d p0) (FP.i2d p0) p2 p2 T201.heap n0 Z201 f203 f204 R201_3 R201_4) hZ (hw _ (List.mem_of_getElem? (i := 29) rfl)) (hw _ (List.mem_of_getElem? (i := 2) rfl)) (by decide) (by decide)) qa205 qc205 (g := (mkF m 89 #[.val (.int p0), .val (.int p1), .val (.long p2), .second, .val (.long p3), .second, .val (.int p4), .val (.int p0), .val (.long p2), .second, .val (.ref b160), .val (.ref b175), .unset, .unset, .unset] [(.ref b175), (.ref b160)])) rfl (by rw [hml]; rfl) (Steps.refl _) (argsL := [(.ref b175)]) (rest := []) (lenOf pd__Lcom_example_redoubt_redoubt_policies_AttemptCounts_Runs__Z_3c19 rfl) rfl (by show 2 * 0 + _ ≤ _; exact Nat.le_of_eq rfl) (hb hby at_89) (fun _ _ => ⟨rfl, rfl, (by decide : 6 + 0 ≤ 24), (by decide : 12 + 0 ≤ 128)⟩)
      dsimp only [Pt.U, Pt.locs, Pt.cells, Pt.slots] at X205 l205 y205 z205 st205 hQ205
      subst l205 y205 z205
      obtain ⟨rfl, N205q, eh205⟩ := hQ205
      rw [own_same] at st205
      have N205 := Fr.app N201 N205q
      refine Goes.sts st205 ?_
      show Goes p e below s _ _ _ (T205.setTop (mkF m 92 #[.val (.int p0), .val (.int p1), .val (.long p2), .second, .val (.long p3), .second, .val (.int p4), .val (.int p0), .val (.long p2), .second, .val (.ref b160), .val (.ref b175), .unset, .unset, .unset] [(.int (rfc p0 p2 p0 p2))]))
      refine Goes.st (fun t k => XS.istore X205.here hx rfl (hb hby at_92) rfl (l' := #[.val (.int p0), .val (.int p1), .val (.long p2), .second, .val (.long p3), .second, .val (.int p4), .val (.int p0), .val (.long p2), .second, .val (.ref b160), .val (.ref b175), .val (.int (rfc p0 p2 p0 p2)), .unset, .unset]) rfl k) ?_
      show Goes p e below s _ _ _ (T205.setTop (mkF m 94 #[.val (.int p0), .val (.int p1), .val (.long p2), .second, .val (.long p3), .second, .val (.int p4), .val (.int p0), .val (.long p2), .second, .val (.ref b160), .val (.ref b175), .val (.int (rfc p0 p2 p0 p2)), .unset, .unset] []))
      refine Goes.st (fun t k => XS.aload X205.here hx rfl (hb hby at_94) rfl rfl k) ?_
      show Goes p e below s _ _ _ (T205.setTop (mkF m 96 #[.val (.int p0), .val (.int p1), .val (.long p2), .second, .val (.long p3), .second, .val (.int p4), .val (.int p0), .val (.long p2), .second, .val (.ref b160), .val (.ref b175), .val (.int (rfc p0 p2 p0 p2)), .unset, .unset] [(.ref b175)]))
      refine Goes.st (fun t k => XS.aload X205.here hx rfl (hb hby at_96) rfl rfl k) ?_
      show Goes p e below s _ _ _ (T205.setTop (mkF m 98 #[.val (.int p0), .val (.int p1), .val (.long p2), .second, .val (.long p3), .second, .val (.int p4), .val (.int p0), .val (.long p2), .second, .val (.ref b160), .val (.ref b175), .val (.int (rfc p0 p2 p0 p2)), .unset, .unset] [(.ref b160), (.ref b175)]))
      have f208 := (f195.keep K201)
      obtain ⟨cq207, kq207, qa207, qb207, qc207⟩ := isOf hZ eh205 f208
      obtain ⟨_, _, ⟨T207, L207, k207, n207⟩, -, X207, ⟨Lc207, hQ207, l207, y207, z207⟩, st207⟩ := X205.virtualBack hx (y := (⟨"com/example/redoubt/redoubt/policies/AttemptCounts$Runs", "cheaperThan", "(Lcom/example/redoubt/redoubt/policies/AttemptCounts$Runs;)Z"⟩ : MethodName)) (z := (⟨"com/example/redoubt/redoubt/policies/AttemptCounts$Runs", "cheaperThan", "(Lcom/example/redoubt/redoubt/policies/AttemptCounts$Runs;)Z"⟩ : MethodName)) hown (mvT hZ (hw _ (List.mem_of_getElem? (i := 25) rfl))) (mvT hZ (hw _ (List.mem_of_getElem? (i := 26) rfl))) (notFace_of_selects (args := #[]) (mvT hZ (hw _ (List.mem_of_getElem? (i := 28) rfl)))) (mvT hZ (hw _ (List.mem_of_getElem? (i := 28) rfl))) (mvT hZ (hw _ (List.mem_of_getElem? (i := 27) rfl))) (by decide) (backOf (W := 0) (rmL l Z a0 hw [] b175 b160 (FP.i2d p0) (FP.i2d p0) p2 p2 T201.heap n0 Z201 R201_3 R201_4 f203 f204) hZ (hw _ (List.mem_of_getElem? (i := 29) rfl)) (hw _ (List.mem_of_getElem? (i := 2) rfl)) (by decide) (by decide)) qa207 qc207 (g := (mkF m 98 #[.val (.int p0), .val (.int p1), .val (.long p2), .second, .val (.long p3), .second, .val (.int p4), .val (.int p0), .val (.long p2), .second, .val (.ref b160), .val (.ref b175), .val (.int (rfc p0 p2 p0 p2)), .unset, .unset] [(.ref b160), (.ref b175)])) rfl (by rw [hml]; rfl) (Steps.refl _) (argsL := [(.ref b160)]) (rest := []) (lenOf pd__Lcom_example_redoubt_redoubt_policies_AttemptCounts_Runs__Z_3c19 rfl) rfl (by show 2 * 0 + _ ≤ _; exact Nat.le_of_eq rfl) (hb hby at_98) (fun _ _ => ⟨rfl, eh205, (by decide : 6 + 0 ≤ 24), (by decide : 12 + 0 ≤ 128)⟩)
      dsimp only [Pt.U, Pt.locs, Pt.cells, Pt.slots] at X207 l207 y207 z207 st207 hQ207
      subst l207 y207 z207
      obtain ⟨rfl, N207q, eh207⟩ := hQ207
      rw [own_same] at st207
      have N207 := Fr.app N205 N207q
      refine Goes.sts st207 ?_
      show Goes p e below s _ _ _ (T207.setTop (mkF m 101 #[.val (.int p0), .val (.int p1), .val (.long p2), .second, .val (.long p3), .second, .val (.int p4), .val (.int p0), .val (.long p2), .second, .val (.ref b160), .val (.ref b175), .val (.int (rfc p0 p2 p0 p2)), .unset, .unset] [(.int (rfc p0 p2 p0 p2))]))
      refine Goes.st (fun t k => XS.istore X207.here hx rfl (hb hby at_101) rfl (l' := #[.val (.int p0), .val (.int p1), .val (.long p2), .second, .val (.long p3), .second, .val (.int p4), .val (.int p0), .val (.long p2), .second, .val (.ref b160), .val (.ref b175), .val (.int (rfc p0 p2 p0 p2)), .val (.int (rfc p0 p2 p0 p2)), .unset]) rfl k) ?_
      show Goes p e below s _ _ _ (T207.setTop (mkF m 103 #[.val (.int p0), .val (.int p1), .val (.long p2), .second, .val (.long p3), .second, .val (.int p4), .val (.int p0), .val (.long p2), .second, .val (.ref b160), .val (.ref b175), .val (.int (rfc p0 p2 p0 p2)), .val (.int (rfc p0 p2 p0 p2)), .unset] []))
      refine Goes.st (fun t k => XS.aload X207.here hx rfl (hb hby at_103) rfl rfl k) ?_
      show Goes p e below s _ _ _ (T207.setTop (mkF m 105 #[.val (.int p0), .val (.int p1), .val (.long p2), .second, .val (.long p3), .second, .val (.int p4), .val (.int p0), .val (.long p2), .second, .val (.ref b160), .val (.ref b175), .val (.int (rfc p0 p2 p0 p2)), .val (.int (rfc p0 p2 p0 p2)), .unset] [(.ref b160)]))
      refine Goes.st (fun t k => XS.aload X207.here hx rfl (hb hby at_105) rfl rfl k) ?_
      show Goes p e below s _ _ _ (T207.setTop (mkF m 107 #[.val (.int p0), .val (.int p1), .val (.long p2), .second, .val (.long p3), .second, .val (.int p4), .val (.int p0), .val (.long p2), .second, .val (.ref b160), .val (.ref b175), .val (.int (rfc p0 p2 p0 p2)), .val (.int (rfc p0 p2 p0 p2)), .unset] [(.ref b160), (.ref b160)]))
      obtain ⟨cq209, kq209, qa209, qb209, qc209⟩ := isOf hZ eh207 f206
      obtain ⟨_, _, ⟨T209, L209, k209, n209⟩, -, X209, ⟨Lc209, hQ209, l209, y209, z209⟩, st209⟩ := X207.virtualBack hx (y := (⟨"com/example/redoubt/redoubt/policies/AttemptCounts$Runs", "cheaperThan", "(Lcom/example/redoubt/redoubt/policies/AttemptCounts$Runs;)Z"⟩ : MethodName)) (z := (⟨"com/example/redoubt/redoubt/policies/AttemptCounts$Runs", "cheaperThan", "(Lcom/example/redoubt/redoubt/policies/AttemptCounts$Runs;)Z"⟩ : MethodName)) hown (mvT hZ (hw _ (List.mem_of_getElem? (i := 25) rfl))) (mvT hZ (hw _ (List.mem_of_getElem? (i := 26) rfl))) (notFace_of_selects (args := #[]) (mvT hZ (hw _ (List.mem_of_getElem? (i := 28) rfl)))) (mvT hZ (hw _ (List.mem_of_getElem? (i := 28) rfl))) (mvT hZ (hw _ (List.mem_of_getElem? (i := 27) rfl))) (by decide) (backOf (W := 0) (rmL l Z a0 hw [] b160 b160 (FP.i2d p0) (FP.i2d p0) p2 p2 T201.heap n0 Z201 f203 f204 f203 f204) hZ (hw _ (List.mem_of_getElem? (i := 29) rfl)) (hw _ (List.mem_of_getElem? (i := 2) rfl)) (by decide) (by decide)) qa209 qc209 (g := (mkF m 107 #[.val (.int p0), .val (.int p1), .val (.long p2), .second, .val (.long p3), .second, .val (.int p4), .val (.int p0), .val (.long p2), .second, .val (.ref b160), .val (.ref b175), .val (.int (rfc p0 p2 p0 p2)), .val (.int (rfc p0 p2 p0 p2)), .unset] [(.ref b160), (.ref b160)])) rfl (by rw [hml]; rfl) (Steps.refl _) (argsL := [(.ref b160)]) (rest := []) (lenOf pd__Lcom_example_redoubt_redoubt_policies_AttemptCounts_Runs__Z_3c19 rfl) rfl (by show 2 * 0 + _ ≤ _; exact Nat.le_of_eq rfl) (hb hby at_107) (fun _ _ => ⟨rfl, eh207, (by decide : 6 + 0 ≤ 24), (by decide : 12 + 0 ≤ 128)⟩)
      dsimp only [Pt.U, Pt.locs, Pt.cells, Pt.slots] at X209 l209 y209 z209 st209 hQ209
      subst l209 y209 z209
      obtain ⟨rfl, N209q, eh209⟩ := hQ209
      rw [show chp (FP.i2d p0) (FP.i2d p0) p2 p2 = 0 from (own_same _ _ _ _).trans (own_self _ _)] at st209
      have N209 := Fr.app N207 N209q
      refine Goes.sts st209 ?_
      show Goes p e below s _ _ _ (T209.setTop (mkF m 110 #[.val (.int p0), .val (.int p1), .val (.long p2), .second, .val (.long p3), .second, .val (.int p4), .val (.int p0), .val (.long p2), .second, .val (.ref b160), .val (.ref b175), .val (.int (rfc p0 p2 p0 p2)), .val (.int (rfc p0 p2 p0 p2)), .unset] [(.int (0 : Int32))]))
      refine Goes.st (fun t k => XS.istore X209.here hx rfl (hb hby at_110) rfl (l' := #[.val (.int p0), .val (.int p1), .val (.long p2), .second, .val (.long p3), .second, .val (.int p4), .val (.int p0), .val (.long p2), .second, .val (.ref b160), .val (.ref b175), .val (.int (rfc p0 p2 p0 p2)), .val (.int (rfc p0 p2 p0 p2)), .val (.int (0 : Int32))]) rfl k) ?_
      show Goes p e below s _ _ _ (T209.setTop (mkF m 112 #[.val (.int p0), .val (.int p1), .val (.long p2), .second, .val (.long p3), .second, .val (.int p4), .val (.int p0), .val (.long p2), .second, .val (.ref b160), .val (.ref b175), .val (.int (rfc p0 p2 p0 p2)), .val (.int (rfc p0 p2 p0 p2)), .val (.int (0 : Int32))] []))
      refine Goes.st (fun t k => XS.iload X209.here hx rfl (hb hby at_112) rfl k) ?_
      show Goes p e below s _ _ _ (T209.setTop (mkF m 114 #[.val (.int p0), .val (.int p1), .val (.long p2), .second, .val (.long p3), .second, .val (.int p4), .val (.int p0), .val (.long p2), .second, .val (.ref b160), .val (.ref b175), .val (.int (rfc p0 p2 p0 p2)), .val (.int (rfc p0 p2 p0 p2)), .val (.int (0 : Int32))] [(.int (rfc p0 p2 p0 p2))]))
      refine Goes.st (fun t k => XS.iloadN X209.here hx rfl (hb hby at_114) rfl k) ?_
      show Goes p e below s _ _ _ (T209.setTop (mkF m 115 #[.val (.int p0), .val (.int p1), .val (.long p2), .second, .val (.long p3), .second, .val (.int p4), .val (.int p0), .val (.long p2), .second, .val (.ref b160), .val (.ref b175), .val (.int (rfc p0 p2 p0 p2)), .val (.int (rfc p0 p2 p0 p2)), .val (.int (0 : Int32))] [(.int p0), (.int (rfc p0 p2 p0 p2))]))
      refine Goes.st (fun t k => XT.lloadN X209.here hx rfl (hb hby at_115) rfl k) ?_
      show Goes p e below s _ _ _ (T209.setTop (mkF m 116 #[.val (.int p0), .val (.int p1), .val (.long p2), .second, .val (.long p3), .second, .val (.int p4), .val (.int p0), .val (.long p2), .second, .val (.ref b160), .val (.ref b175), .val (.int (rfc p0 p2 p0 p2)), .val (.int (rfc p0 p2 p0 p2)), .val (.int (0 : Int32))] [(.long p2), (.int p0), (.int (rfc p0 p2 p0 p2))]))
      refine Goes.st (fun t k => XS.iload X209.here hx rfl (hb hby at_116) rfl k) ?_
      show Goes p e below s _ _ _ (T209.setTop (mkF m 118 #[.val (.int p0), .val (.int p1), .val (.long p2), .second, .val (.long p3), .second, .val (.int p4), .val (.int p0), .val (.long p2), .second, .val (.ref b160), .val (.ref b175), .val (.int (rfc p0 p2 p0 p2)), .val (.int (rfc p0 p2 p0 p2)), .val (.int (0 : Int32))] [(.int p0), (.long p2), (.int p0), (.int (rfc p0 p2 p0 p2))]))
      refine Goes.st (fun t k => XT.lload X209.here hx rfl (hb hby at_118) rfl k) ?_
      show Goes p e below s _ _ _ (T209.setTop (mkF m 120 #[.val (.int p0), .val (.int p1), .val (.long p2), .second, .val (.long p3), .second, .val (.int p4), .val (.int p0), .val (.long p2), .second, .val (.ref b160), .val (.ref b175), .val (.int (rfc p0 p2 p0 p2)), .val (.int (rfc p0 p2 p0 p2)), .val (.int (0 : Int32))] [(.long p2), (.int p0), (.long p2), (.int p0), (.int (rfc p0 p2 p0 p2))]))
      obtain ⟨_, _, ⟨T210, L210, k210, n210⟩, -, X210, ⟨Lc210, hQ210, l210, y210, z210⟩, st210⟩ := Jvm.LawKit.callS X209 hx (y := (⟨"com/example/redoubt/redoubt/policies/RunsCheaperThanPinLaw", "reference", "(IJIJ)Z"⟩ : MethodName)) hown (mvT hZ (hw _ (List.mem_of_getElem? (i := 30) rfl))) (mvT hZ (hw _ (List.mem_of_getElem? (i := 31) rfl))) (mvT hZ (hw _ (List.mem_of_getElem? (i := 32) rfl))) (mvT hZ (hw _ (List.mem_of_getElem? (i := 33) rfl))) (by decide) (backOf (W := 1) (rmE l Z a0 hw [] p0 p2 p0 p2 T201.heap n0 Z201 ) hZ (hw _ (List.mem_of_getElem? (i := 33) rfl)) (hw _ (List.mem_of_getElem? (i := 32) rfl)) (by decide) (by decide)) (g := (mkF m 120 #[.val (.int p0), .val (.int p1), .val (.long p2), .second, .val (.long p3), .second, .val (.int p4), .val (.int p0), .val (.long p2), .second, .val (.ref b160), .val (.ref b175), .val (.int (rfc p0 p2 p0 p2)), .val (.int (rfc p0 p2 p0 p2)), .val (.int (0 : Int32))] [(.long p2), (.int p0), (.long p2), (.int p0), (.int (rfc p0 p2 p0 p2))])) rfl (by rw [hml]; rfl) (argsL := [(.int p0), (.long p2), (.int p0), (.long p2)]) (rest := [(.int (rfc p0 p2 p0 p2))]) (lenOf pd__IJIJ_Z_1280 rfl) rfl (by show 2 * 0 + _ ≤ _; exact Nat.le_of_eq rfl) (hb hby at_120) (fun _ _ => ⟨rfl, eh209, (by decide : 6 + 0 ≤ 24), (by decide : 12 + 0 ≤ 128)⟩)
      dsimp only [Pt.U, Pt.locs, Pt.cells, Pt.slots] at X210 l210 y210 z210 st210 hQ210
      subst l210 y210 z210
      obtain ⟨rfl, N210q, eh210⟩ := hQ210
      have N210 := Fr.app N209 N210q
      refine Goes.st st210 ?_
      show Goes p e below s _ _ _ (T210.setTop (mkF m 123 #[.val (.int p0), .val (.int p1), .val (.long p2), .second, .val (.long p3), .second, .val (.int p4), .val (.int p0), .val (.long p2), .second, .val (.ref b160), .val (.ref b175), .val (.int (rfc p0 p2 p0 p2)), .val (.int (rfc p0 p2 p0 p2)), .val (.int (0 : Int32))] [(.int (rfc p0 p2 p0 p2)), (.int (rfc p0 p2 p0 p2))]))
      refine Goes.st (fun t k => XS.icmpNo X210.here hx rfl (hb hby at_123) rfl (teq (rfl : (rfc p0 p2 p0 p2) = (rfc p0 p2 p0 p2))).2 k) ?_
      show Goes p e below s _ _ _ (T210.setTop (mkF m 126 #[.val (.int p0), .val (.int p1), .val (.long p2), .second, .val (.long p3), .second, .val (.int p4), .val (.int p0), .val (.long p2), .second, .val (.ref b160), .val (.ref b175), .val (.int (rfc p0 p2 p0 p2)), .val (.int (rfc p0 p2 p0 p2)), .val (.int (0 : Int32))] []))
      refine Goes.st (fun t k => XS.iload X210.here hx rfl (hb hby at_126) rfl k) ?_
      show Goes p e below s _ _ _ (T210.setTop (mkF m 128 #[.val (.int p0), .val (.int p1), .val (.long p2), .second, .val (.long p3), .second, .val (.int p4), .val (.int p0), .val (.long p2), .second, .val (.ref b160), .val (.ref b175), .val (.int (rfc p0 p2 p0 p2)), .val (.int (rfc p0 p2 p0 p2)), .val (.int (0 : Int32))] [(.int (rfc p0 p2 p0 p2))]))
      refine Goes.st (fun t k => XS.iload X210.here hx rfl (hb hby at_128) rfl k) ?_
      show Goes p e below s _ _ _ (T210.setTop (mkF m 130 #[.val (.int p0), .val (.int p1), .val (.long p2), .second, .val (.long p3), .second, .val (.int p4), .val (.int p0), .val (.long p2), .second, .val (.ref b160), .val (.ref b175), .val (.int (rfc p0 p2 p0 p2)), .val (.int (rfc p0 p2 p0 p2)), .val (.int (0 : Int32))] [(.int p0), (.int (rfc p0 p2 p0 p2))]))
      refine Goes.st (fun t k => XT.lload X210.here hx rfl (hb hby at_130) rfl k) ?_
      show Goes p e below s _ _ _ (T210.setTop (mkF m 132 #[.val (.int p0), .val (.int p1), .val (.long p2), .second, .val (.long p3), .second, .val (.int p4), .val (.int p0), .val (.long p2), .second, .val (.ref b160), .val (.ref b175), .val (.int (rfc p0 p2 p0 p2)), .val (.int (rfc p0 p2 p0 p2)), .val (.int (0 : Int32))] [(.long p2), (.int p0), (.int (rfc p0 p2 p0 p2))]))
      refine Goes.st (fun t k => XS.iloadN X210.here hx rfl (hb hby at_132) rfl k) ?_
      show Goes p e below s _ _ _ (T210.setTop (mkF m 133 #[.val (.int p0), .val (.int p1), .val (.long p2), .second, .val (.long p3), .second, .val (.int p4), .val (.int p0), .val (.long p2), .second, .val (.ref b160), .val (.ref b175), .val (.int (rfc p0 p2 p0 p2)), .val (.int (rfc p0 p2 p0 p2)), .val (.int (0 : Int32))] [(.int p0), (.long p2), (.int p0), (.int (rfc p0 p2 p0 p2))]))
      refine Goes.st (fun t k => XT.lloadN X210.here hx rfl (hb hby at_133) rfl k) ?_
      show Goes p e below s _ _ _ (T210.setTop (mkF m 134 #[.val (.int p0), .val (.int p1), .val (.long p2), .second, .val (.long p3), .second, .val (.int p4), .val (.int p0), .val (.long p2), .second, .val (.ref b160), .val (.ref b175), .val (.int (rfc p0 p2 p0 p2)), .val (.int (rfc p0 p2 p0 p2)), .val (.int (0 : Int32))] [(.long p2), (.int p0), (.long p2), (.int p0), (.int (rfc p0 p2 p0 p2))]))
      obtain ⟨_, _, ⟨T211, L211, k211, n211⟩, -, X211, ⟨Lc211, hQ211, l211, y211, z211⟩, st211⟩ := Jvm.LawKit.callS X210 hx (y := (⟨"com/example/redoubt/redoubt/policies/RunsCheaperThanPinLaw", "reference", "(IJIJ)Z"⟩ : MethodName)) hown (mvT hZ (hw _ (List.mem_of_getElem? (i := 30) rfl))) (mvT hZ (hw _ (List.mem_of_getElem? (i := 31) rfl))) (mvT hZ (hw _ (List.mem_of_getElem? (i := 32) rfl))) (mvT hZ (hw _ (List.mem_of_getElem? (i := 33) rfl))) (by decide) (backOf (W := 1) (rmE l Z a0 hw [] p0 p2 p0 p2 T201.heap n0 Z201 ) hZ (hw _ (List.mem_of_getElem? (i := 33) rfl)) (hw _ (List.mem_of_getElem? (i := 32) rfl)) (by decide) (by decide)) (g := (mkF m 134 #[.val (.int p0), .val (.int p1), .val (.long p2), .second, .val (.long p3), .second, .val (.int p4), .val (.int p0), .val (.long p2), .second, .val (.ref b160), .val (.ref b175), .val (.int (rfc p0 p2 p0 p2)), .val (.int (rfc p0 p2 p0 p2)), .val (.int (0 : Int32))] [(.long p2), (.int p0), (.long p2), (.int p0), (.int (rfc p0 p2 p0 p2))])) rfl (by rw [hml]; rfl) (argsL := [(.int p0), (.long p2), (.int p0), (.long p2)]) (rest := [(.int (rfc p0 p2 p0 p2))]) (lenOf pd__IJIJ_Z_1280 rfl) rfl (by show 2 * 0 + _ ≤ _; exact Nat.le_of_eq rfl) (hb hby at_134) (fun _ _ => ⟨rfl, eh210, (by decide : 6 + 0 ≤ 24), (by decide : 12 + 0 ≤ 128)⟩)
      dsimp only [Pt.U, Pt.locs, Pt.cells, Pt.slots] at X211 l211 y211 z211 st211 hQ211
      subst l211 y211 z211
      obtain ⟨rfl, N211q, eh211⟩ := hQ211
      have N211 := Fr.app N210 N211q
      refine Goes.st st211 ?_
      show Goes p e below s _ _ _ (T211.setTop (mkF m 137 #[.val (.int p0), .val (.int p1), .val (.long p2), .second, .val (.long p3), .second, .val (.int p4), .val (.int p0), .val (.long p2), .second, .val (.ref b160), .val (.ref b175), .val (.int (rfc p0 p2 p0 p2)), .val (.int (rfc p0 p2 p0 p2)), .val (.int (0 : Int32))] [(.int (rfc p0 p2 p0 p2)), (.int (rfc p0 p2 p0 p2))]))
      refine Goes.st (fun t k => XS.icmpNo X211.here hx rfl (hb hby at_137) rfl (teq (rfl : (rfc p0 p2 p0 p2) = (rfc p0 p2 p0 p2))).2 k) ?_
      show Goes p e below s _ _ _ (T211.setTop (mkF m 140 #[.val (.int p0), .val (.int p1), .val (.long p2), .second, .val (.long p3), .second, .val (.int p4), .val (.int p0), .val (.long p2), .second, .val (.ref b160), .val (.ref b175), .val (.int (rfc p0 p2 p0 p2)), .val (.int (rfc p0 p2 p0 p2)), .val (.int (0 : Int32))] []))
      refine Goes.st (fun t k => XS.iload X211.here hx rfl (hb hby at_140) rfl k) ?_
      show Goes p e below s _ _ _ (T211.setTop (mkF m 142 #[.val (.int p0), .val (.int p1), .val (.long p2), .second, .val (.long p3), .second, .val (.int p4), .val (.int p0), .val (.long p2), .second, .val (.ref b160), .val (.ref b175), .val (.int (rfc p0 p2 p0 p2)), .val (.int (rfc p0 p2 p0 p2)), .val (.int (0 : Int32))] [(.int (0 : Int32))]))
      refine Goes.st (fun t k => XS.ifNo X211.here hx rfl (hb hby at_142) rfl (by decide) k) ?_
      show Goes p e below s _ _ _ (T211.setTop (mkF m 145 #[.val (.int p0), .val (.int p1), .val (.long p2), .second, .val (.long p3), .second, .val (.int p4), .val (.int p0), .val (.long p2), .second, .val (.ref b160), .val (.ref b175), .val (.int (rfc p0 p2 p0 p2)), .val (.int (rfc p0 p2 p0 p2)), .val (.int (0 : Int32))] []))
      refine Goes.st (fun t k => XS.iconst X211.here hx rfl (hb hby at_145) k) ?_
      show Goes p e below s _ _ _ (T211.setTop (mkF m 146 #[.val (.int p0), .val (.int p1), .val (.long p2), .second, .val (.long p3), .second, .val (.int p4), .val (.int p0), .val (.long p2), .second, .val (.ref b160), .val (.ref b175), .val (.int (rfc p0 p2 p0 p2)), .val (.int (rfc p0 p2 p0 p2)), .val (.int (0 : Int32))] [(.int (1 : Int32))]))
      refine Goes.st (fun t k => XS.goto X211.here hx rfl (pc0 := 146) (pc' := 150) rfl (hb hby at_146) (by decide) (by decide) k) ?_
      show Goes p e below s _ _ _ (T211.setTop (mkF m 150 #[.val (.int p0), .val (.int p1), .val (.long p2), .second, .val (.long p3), .second, .val (.int p4), .val (.int p0), .val (.long p2), .second, .val (.ref b160), .val (.ref b175), .val (.int (rfc p0 p2 p0 p2)), .val (.int (rfc p0 p2 p0 p2)), .val (.int (0 : Int32))] [(.int (1 : Int32))]))
      refine Goes.retN X211 hx hlk hret (by simp) (hb hby at_150) (by decide) ?_ (by decide) (by decide)
      rw [eh211]
      exact ⟨rfl, N211⟩
set_option maxRecDepth 65536 in
set_option maxHeartbeats 40000000 in
theorem comes_1 {Post : Tables → Env → Array Value → State → Outcome → State → Prop} (hpost : ∀ tb e args s v u, (limb_1_1.after args s (.returned v) u = true ∧ limb_1_2.after args s (.returned v) u = true ∧ True) → FrameEnd s (.returned v) u (Jvm.fieldLocs frame_1_writes args s ++ Jvm.arrayLocs frame_1_arrays args s ++ Jvm.staticLocs frame_1_statics s) 24 128 → Post tb e args s (.returned v) u) :
    ArmFor flags0 classFile x code maxLocals ret World_1 tables_1 room_1 Calls_1 rest_1 Pre_1 Post := by
  intro l hfl _ _ p e ha hc hk s m args below hf hA hF happ hP
  obtain ⟨hcalls, hrest, hpre⟩ := hP
  obtain ⟨-, -, -, hnamed, -, -, -, hat⟩ := (Spec.applies_iff hf).mp happ
  obtain ⟨hg, hn⟩ := and_e (Cond.before_iff.mp (show (Jvm.Cond.and given_1 narrow_1).before args s = true from hpre))
  obtain ⟨hcnt, hg⟩ := and_e hg
  obtain ⟨ga0, hg⟩ := and_e hg
  obtain ⟨ga1, hg⟩ := and_e hg
  obtain ⟨ga2, hg⟩ := and_e hg
  obtain ⟨ga3, hg⟩ := and_e hg
  have ga4 := hg
  obtain ⟨w0, w1, w2, w3, w4, rfl⟩ : ∃ w0 w1 w2 w3 w4 : Value, args = #[w0, w1, w2, w3, w4] := by
    have hs : args.size = 5 := by simpa [Cond.value, given_1] using hcnt
    obtain ⟨L⟩ := args
    match L, hs with
    | [w0, w1, w2, w3, w4], _ => exact ⟨w0, w1, w2, w3, w4, rfl⟩
  have hw := fun d (hd : d ∈ tables_1) => atoms_spec (ws := Jvm.Cond.code x code maxLocals ret :: tables_1) hat d (List.mem_cons_of_mem _ hd)
  have hfit : Fit s := fun {y c} hc i hi => by
    obtain ⟨ha, rfl⟩ := Array.getElem?_eq_some_iff.mp hc
    have q := List.all_eq_true.mp ((Array.all_eq_true_iff_forall_mem.mp hF) _ (Array.getElem_mem ha)) i (List.mem_range.mpr hi)
    simpa [Array.getElem?_eq_getElem hi] using q
  obtain ⟨i0, q0⟩ := is_v ga0
  obtain rfl : w0 = (.int i0) := Option.some.inj q0
  obtain ⟨i1, q1⟩ := is_v ga1
  obtain rfl : w1 = (.int i1) := Option.some.inj q1
  obtain ⟨i2, q2⟩ := isL_v ga2
  obtain rfl : w2 = (.long i2) := Option.some.inj q2
  obtain ⟨i3, q3⟩ := isL_v ga3
  obtain rfl : w3 = (.long i3) := Option.some.inj q3
  obtain ⟨i4, q4⟩ := is_v ga4
  obtain rfl : w4 = (.int i4) := Option.some.inj q4
  obtain ⟨n, o, h1, h2, h3, _, L, rfl, ⟨rfl, N⟩, hq⟩ := rm0 l s _ hw tables_1 i0 i1 i2 i3 i4  s.heap s.heap.size (Nat.le_refl _)  p e ha hc hk s m _ below hf ((Spec.applies_iff_loose hf).mp happ).1 ⟨rfl, State.Warmed39.refl s, rfl⟩ trivial
  refine ⟨n, _, h1, h2, h3, hpost _ _ _ _ _ _ ⟨Cond.after_iff.mpr rfl, Cond.after_iff.mpr (eq_i res_at (Term.int_eval (1)) rfl), trivial⟩ ⟨hq.1, hq.2.1, (hq.2.2.sift fun y hy => Or.inr (N y hy)).mono (by decide) (by decide)⟩⟩
theorem main_1_1 : Claimed_1_1 := comes_1 fun _ _ _ _ _ _ h hF => ⟨h.1, hF⟩
theorem main_1_2 : Claimed_1_2 := comes_1 fun _ _ _ _ _ _ h hF => ⟨h.2.1, hF⟩
end Jvm.Pilot.@@N@@
namespace Jvm.Pilot.@@N@@
open Jvm Jvm.ClassFile Sem Op Lib Jvm.Free Jvm.Stand Jvm.Pilot.@@N@@.Jvm.D
/-! MADE BY PROGRAM (witnessworld.py) out of the Statement's table words and the real class files: 10 classes; the members and pool entries that the words name. The judged class is class 1, her method 1. -/
namespace start1
open Jvm.ClassFile
def u (s : String) : CpInfo := .utf8 (stringToUtf16 s)
/-- a pool by its gaps: so many unusable entries, then the entry; so many at the end -/
def gap : Nat → List CpInfo → List CpInfo
  | 0, r => r
  | n + 1, r => .unusable :: gap n r
def poolList (es : List (Nat × CpInfo)) (last : Nat) : List CpInfo := es.foldr (fun e r => gap e.1 (e.2 :: r)) (gap last [])
def pool (es : List (Nat × CpInfo)) (last : Nat) : Array CpInfo := ⟨poolList es last⟩
def fileOf (pool : Array CpInfo) (this : Nat) (attrs : Array Attribute := #[]) (ms : Array MethodInfo := #[]) (fl : Nat := 33) (sup : Nat := 0) (ifs : Array Nat := #[]) (fds : Array FieldInfo := #[]) : ClassFile where
  minorVersion := 0
  majorVersion := 65
  constantPool := pool
  accessFlags := fl
  thisClass := this
  superClass := sup
  interfaces := ifs
  fields := fds
  methods := ms
  attributes := attrs
def plain (name : String) (sup : Option ClassId) : Class where
  name := name
  kind := .ordinary
  loader := none
  accessFlags := 33
  super := sup
  interfaces := #[]
  cf := none
  fields := #[]
  methods := #[]
  instanceTypes := #[]
  staticTypes := #[]
  resolved := #[]
  callSites := []
  init := .initialized
  statics := none
  mirror := none

def pool0 : Array CpInfo := pool [(5, u "<init>"), (0, u "()V"), (1, .class_ 10), (1, u "java/lang/Object")] 113

def k0c0 : Code := { maxStack := 0, maxLocals := 1, code := object_method_1_code, exceptionTable := #[], attributes := #[] }
def k0m0 : Method := { name := "<init>", desc := "()V", sig := { parameters := [], returnType := none }, accessFlags := 1, code := some k0c0 }
/-- java/lang/Object -/
def k0 : Class := { plain "java/lang/Object" none with
  accessFlags := 33
  interfaces := #[]
  cf := some (fileOf pool0 8 #[] #[{ accessFlags := 1, nameIndex := 5, descriptorIndex := 6, attributes := #[] }] 33 0 #[] #[])
  fields := #[]
  methods := #[k0m0]
  instanceTypes := #[]
  staticTypes := #[]
  resolved := Array.replicate 124 none
  statics := none }

def pool1 : Array CpInfo := pool [(2, .class_ 4), (1, u "java/lang/Object"), (0, u "<init>"), (0, u "()V"), (0, .class_ 8), (0, u "com/example/redoubt/redoubt/policies/AttemptCounts$Runs"), (0, .methodref 7 10), (0, .nameAndType 5 11), (0, u "([I[IDDJ)V"), (0, .methodref 7 13), (0, .nameAndType 14 15), (0, u "cheaperThan"), (0, u "(Lcom/example/redoubt/redoubt/policies/AttemptCounts$Runs;)Z"), (0, .methodref 17 18), (0, .class_ 19), (0, .nameAndType 20 21), (0, u "com/example/redoubt/redoubt/policies/RunsCheaperThanPinLaw"), (0, u "reference"), (0, u "(IJIJ)Z"), (2, u "law"), (0, u "(IIJJI)Z")] 7

def k1m0 : Method := { name := "<init>", desc := "()V", sig := { parameters := [], returnType := none }, accessFlags := 1, code := none }
def k1c1 : Code := { maxStack := 10, maxLocals := 15, code := code, exceptionTable := #[], attributes := #[] }
def k1m1 : Method := { name := "law", desc := "(IIJJI)Z", sig := { parameters := [.int, .int, .long, .long, .int], returnType := some .boolean }, accessFlags := 9, code := some k1c1 }
def k1c2 : Code := { maxStack := 4, maxLocals := 6, code := method_3_code, exceptionTable := #[], attributes := #[] }
def k1m2 : Method := { name := "reference", desc := "(IJIJ)Z", sig := { parameters := [.int, .long, .int, .long], returnType := some .boolean }, accessFlags := 10, code := some k1c2 }
/-- com/example/redoubt/redoubt/policies/RunsCheaperThanPinLaw -/
def k1 : Class := { plain "com/example/redoubt/redoubt/policies/RunsCheaperThanPinLaw" (some 0) with
  accessFlags := 49
  interfaces := #[]
  cf := some (fileOf pool1 17 #[] #[{ accessFlags := 1, nameIndex := 5, descriptorIndex := 6, attributes := #[] }, { accessFlags := 9, nameIndex := 24, descriptorIndex := 25, attributes := #[] }, { accessFlags := 10, nameIndex := 20, descriptorIndex := 21, attributes := #[] }] 49 2 #[] #[])
  fields := #[]
  methods := #[k1m0, k1m1, k1m2]
  instanceTypes := #[]
  staticTypes := #[]
  resolved := Array.replicate 33 none
  statics := none }

def pool2 : Array CpInfo := pool [(1, .methodref 2 3), (0, .class_ 4), (0, .nameAndType 5 6), (0, u "java/lang/Object"), (0, u "<init>"), (0, u "()V"), (0, .class_ 8), (0, u "java/lang/Record")] 13

def k2c0 : Code := { maxStack := 1, maxLocals := 1, code := jdk_30_method_1_code, exceptionTable := #[], attributes := #[] }
def k2m0 : Method := { name := "<init>", desc := "()V", sig := { parameters := [], returnType := none }, accessFlags := 4, code := some k2c0 }
/-- java/lang/Record -/
def k2 : Class := { plain "java/lang/Record" (some 0) with
  accessFlags := 1057
  interfaces := #[]
  cf := some (fileOf pool2 7 #[] #[{ accessFlags := 4, nameIndex := 5, descriptorIndex := 6, attributes := #[] }] 1057 2 #[] #[])
  fields := #[]
  methods := #[k2m0]
  instanceTypes := #[]
  staticTypes := #[]
  resolved := Array.replicate 22 none
  statics := none }

def pool3 : Array CpInfo := pool [(1, .methodref 2 3), (0, .class_ 4), (0, .nameAndType 5 6), (0, u "java/lang/Record"), (0, u "<init>"), (0, u "()V"), (0, .fieldref 8 9), (0, .class_ 10), (0, .nameAndType 11 12), (0, u "com/example/redoubt/redoubt/policies/AttemptCounts$Runs"), (0, u "procs"), (0, u "[I"), (0, .fieldref 8 14), (0, .nameAndType 15 12), (0, u "attempts"), (0, .fieldref 8 17), (0, .nameAndType 18 19), (0, u "time"), (0, u "D"), (0, .fieldref 8 21), (0, .nameAndType 22 19), (0, u "area"), (0, .fieldref 8 24), (0, .nameAndType 25 26), (0, u "processors"), (0, u "J"), (2, u "([I[IDDJ)V"), (21, u "cheaperThan"), (0, u "(Lcom/example/redoubt/redoubt/policies/AttemptCounts$Runs;)Z"), (9, .class_ 63), (0, u "com/example/redoubt/redoubt/policies/AttemptCounts")] 23

def k3c0 : Code := { maxStack := 3, maxLocals := 9, code := prog_97_method_1_code, exceptionTable := #[], attributes := #[] }
def k3m0 : Method := { name := "<init>", desc := "([I[IDDJ)V", sig := { parameters := [(.array .int), (.array .int), .double, .double, .long], returnType := none }, accessFlags := 0, code := some k3c0 }
def k3c1 : Code := { maxStack := 4, maxLocals := 2, code := prog_97_method_3_code, exceptionTable := #[], attributes := #[] }
def k3m1 : Method := { name := "cheaperThan", desc := "(Lcom/example/redoubt/redoubt/policies/AttemptCounts$Runs;)Z", sig := { parameters := [(.object "com/example/redoubt/redoubt/policies/AttemptCounts$Runs")], returnType := some .boolean }, accessFlags := 0, code := some k3c1 }
/-- com/example/redoubt/redoubt/policies/AttemptCounts$Runs -/
def k3 : Class := { plain "com/example/redoubt/redoubt/policies/AttemptCounts$Runs" (some 2) with
  accessFlags := 48
  interfaces := #[]
  cf := some (fileOf pool3 8 #[.nestHost 62] #[{ accessFlags := 0, nameIndex := 5, descriptorIndex := 29, attributes := #[] }, { accessFlags := 0, nameIndex := 51, descriptorIndex := 52, attributes := #[] }] 48 2 #[] #[{ accessFlags := 18, nameIndex := 11, descriptorIndex := 12, attributes := #[] }, { accessFlags := 18, nameIndex := 15, descriptorIndex := 12, attributes := #[] }, { accessFlags := 18, nameIndex := 18, descriptorIndex := 19, attributes := #[] }, { accessFlags := 18, nameIndex := 22, descriptorIndex := 19, attributes := #[] }, { accessFlags := 18, nameIndex := 25, descriptorIndex := 26, attributes := #[] }])
  fields := #[{ name := "procs", type := (.array .int), accessFlags := 18, slot := 0, constantValue := 0 }, { name := "attempts", type := (.array .int), accessFlags := 18, slot := 1, constantValue := 0 }, { name := "time", type := .double, accessFlags := 18, slot := 2, constantValue := 0 }, { name := "area", type := .double, accessFlags := 18, slot := 3, constantValue := 0 }, { name := "processors", type := .long, accessFlags := 18, slot := 4, constantValue := 0 }]
  methods := #[k3m0, k3m1]
  instanceTypes := #[(.array .int), (.array .int), .double, .double, .long]
  staticTypes := #[]
  resolved := Array.replicate 87 none
  statics := none }

def pool4 : Array CpInfo := pool [(1, u "java/lang/Cloneable"), (0, .class_ 1), (0, u "java/lang/Object"), (0, .class_ 3)] 3

/-- java/lang/Cloneable -/
def k4 : Class := { plain "java/lang/Cloneable" (some 0) with
  accessFlags := 1537
  interfaces := #[]
  cf := some (fileOf pool4 2 #[] #[] 1537 4 #[] #[])
  fields := #[]
  methods := #[]
  instanceTypes := #[]
  staticTypes := #[]
  resolved := Array.replicate 8 none
  statics := none }

def pool5 : Array CpInfo := pool [(1, u "java/io/Serializable"), (0, .class_ 1), (0, u "java/lang/Object"), (0, .class_ 3)] 3

/-- java/io/Serializable -/
def k5 : Class := { plain "java/io/Serializable" (some 0) with
  accessFlags := 1537
  interfaces := #[]
  cf := some (fileOf pool5 2 #[] #[] 1537 4 #[] #[])
  fields := #[]
  methods := #[]
  instanceTypes := #[]
  staticTypes := #[]
  resolved := Array.replicate 8 none
  statics := none }

/-- the primitive byte -/
def k6 : Class := { plain "byte" none with kind := .primitive 'B', accessFlags := 0x411 }
/-- [B -/
def k7 : Class := { plain "[B" (some 0) with kind := .array 6 .byte, interfaces := #[4, 5], accessFlags := 1041 }

/-- the primitive int -/
def k8 : Class := { plain "int" none with kind := .primitive 'I', accessFlags := 0x411 }
/-- [I -/
def k9 : Class := { plain "[I" (some 0) with kind := .array 8 .int, interfaces := #[4, 5], accessFlags := 1041 }

def heap : Heap := #[]
def classes : Array Class := #[k0, k1, k2, k3, k4, k5, k6, k7, k8, k9]
def interned : List (Array UInt16 × Addr) := []
def slotsUsed : Nat := 0
def theMethod : MethodId := ⟨1, 1⟩
def args0 : Array Value := #[.int 1, .int 2, .long 3, .long 4, .int 5]
def aboutOver (below : List Frame) : State where
  vm := { classes := classes, interned := interned.toArray }
  heap := heap
  slotsUsed := slotsUsed
  threads := #[{ frames := .invoking theMethod args0 :: below }]
def below0 : List Frame := [.native { method := ⟨0, 0⟩, args := #[] }]
def about1 : State := aboutOver below0
def p0 : Program := .bare "" "" ""
def e0 : Env := launch0.env 0 0 0
theorem w_frames : about1.frames = Frame.invoking theMethod args0 :: below0 := rfl
set_option maxRecDepth 65536 in
theorem w_args : argsFit about1.vm theMethod args0 = true := by decide +kernel
set_option maxRecDepth 65536 in
theorem w_heap : heapFits about1 = true := by decide +kernel
set_option maxRecDepth 65536 in
theorem w_runnable : about1.curStatus? = some .runnable := by decide +kernel
set_option maxRecDepth 65536 in
theorem w_alone : about1.alone = true := by decide +kernel
set_option maxRecDepth 65536 in
theorem w_named : about1.methodNamed? x = some theMethod := by decide +kernel
set_option maxRecDepth 65536 in
theorem w_hears : about1.hears theMethod below0 = true := by decide +kernel
set_option maxRecDepth 65536 in
theorem w_ripe : about1.ripe theMethod args0 below0 = true := by decide +kernel
theorem w_running : about1.status = .running := rfl
set_option maxRecDepth 65536 in
theorem w_room : about1.hasRoom e0.platform room_1 = true :=
  launch0.hasRoom_least _ room_1 (by decide +kernel) (by decide +kernel) (by decide +kernel) (by decide +kernel) (by decide +kernel) (by decide +kernel)
theorem allAtoms_all (ts : List Jvm.Cond) (a : Array Jvm.Value) (st : Jvm.State) : (allAtoms ts).before a st = ts.all (fun c => c.before a st) := by
  induction ts with
  | nil => rfl
  | cons c t ih =>
    show (Jvm.Cond.and c (allAtoms t)).before a st = _
    rw [Jvm.Cond.before_and, ih, List.all_cons]
def words1 : List Jvm.Cond := Jvm.Cond.code x code maxLocals ret :: tables_1
/-- a 'code' word, met by the world's own term for the bytes: nothing is compared byte by byte -/
theorem code_word {y : MethodName} {bytes : ByteArray} {mx : Nat} {rt : Option FieldType} {a : Array Value} {s : State} {m : MethodId} {meth : Method} {c : Code} (h1 : s.methodNamed? y = some m) (h2 : s.vm.method? m = some meth) (h3 : meth.code = some c) (h4 : c.code = bytes)
    (h5 : (c.maxLocals == mx && c.exceptionTable.isEmpty && decide (c.maxStack ≤ mostOperands) && decide (meth.sig.returnType = rt) && !meth.locks && decide (parseMethodDescriptor y.desc = some meth.sig)) = true) : (Jvm.Cond.code y bytes mx rt).before a s = true := by
  simp only [Bool.and_eq_true, beq_iff_eq, Bool.not_eq_true', decide_eq_true_eq] at h5
  obtain ⟨⟨⟨⟨⟨g1, g2⟩, g3⟩, g4⟩, g5⟩, g6⟩ := h5
  simp [Cond.before, Cond.holds, Cond.value, h1, h2, h3, h4, g1, g2, g3, g4, g5, g6]
def isCode : Jvm.Cond → Bool
  | .code _ _ _ _ => true
  | _ => false
theorem all_split {L : List Jvm.Cond} {P : Jvm.Cond → Bool} (h1 : L.all (fun c => isCode c || P c) = true) (h2 : ∀ c ∈ L.filter isCode, P c = true) : L.all P = true := by
  refine List.all_eq_true.mpr fun c hc => ?_
  have h := List.all_eq_true.mp h1 c hc
  rcases Bool.eq_false_or_eq_true (isCode c) with hi | hi
  · exact h2 c (List.mem_filter.mpr ⟨hc, hi⟩)
  · simpa [hi] using h
set_option maxRecDepth 65536 in
theorem w_c0 : (Jvm.Cond.code x code maxLocals ret).before args0 about1 = true := code_word (m := ⟨1, 1⟩) (meth := k1m1) (c := k1c1) (by decide +kernel) rfl rfl rfl (by decide +kernel)
set_option maxRecDepth 65536 in
theorem w_c1 : (Jvm.Cond.code ({ cls := "com/example/redoubt/redoubt/policies/AttemptCounts$Runs", name := "<init>", desc := "([I[IDDJ)V" } : Jvm.MethodName) prog_97_method_1_code (9 : Nat) (Option.none : Option Jvm.ClassFile.FieldType)).before args0 about1 = true := code_word (m := ⟨3, 0⟩) (meth := k3m0) (c := k3c0) (by decide +kernel) rfl rfl rfl (by decide +kernel)
set_option maxRecDepth 65536 in
theorem w_c2 : (Jvm.Cond.code ({ cls := "java/lang/Record", name := "<init>", desc := "()V" } : Jvm.MethodName) jdk_30_method_1_code (1 : Nat) (Option.none : Option Jvm.ClassFile.FieldType)).before args0 about1 = true := code_word (m := ⟨2, 0⟩) (meth := k2m0) (c := k2c0) (by decide +kernel) rfl rfl rfl (by decide +kernel)
set_option maxRecDepth 65536 in
theorem w_c3 : (Jvm.Cond.code ({ cls := "java/lang/Object", name := "<init>", desc := "()V" } : Jvm.MethodName) object_method_1_code (1 : Nat) (Option.none : Option Jvm.ClassFile.FieldType)).before args0 about1 = true := code_word (m := ⟨0, 0⟩) (meth := k0m0) (c := k0c0) (by decide +kernel) rfl rfl rfl (by decide +kernel)
set_option maxRecDepth 65536 in
theorem w_c4 : (Jvm.Cond.code ({ cls := "com/example/redoubt/redoubt/policies/AttemptCounts$Runs", name := "cheaperThan", desc := "(Lcom/example/redoubt/redoubt/policies/AttemptCounts$Runs;)Z" } : Jvm.MethodName) prog_97_method_3_code (2 : Nat) (Option.some Jvm.ClassFile.FieldType.boolean)).before args0 about1 = true := code_word (m := ⟨3, 1⟩) (meth := k3m1) (c := k3c1) (by decide +kernel) rfl rfl rfl (by decide +kernel)
set_option maxRecDepth 65536 in
theorem w_c5 : (Jvm.Cond.code ({ cls := "com/example/redoubt/redoubt/policies/RunsCheaperThanPinLaw", name := "reference", desc := "(IJIJ)Z" } : Jvm.MethodName) method_3_code (6 : Nat) (Option.some Jvm.ClassFile.FieldType.boolean)).before args0 about1 = true := code_word (m := ⟨1, 2⟩) (meth := k1m2) (c := k1c2) (by decide +kernel) rfl rfl rfl (by decide +kernel)
def codes1 : List Jvm.Cond := [Jvm.Cond.code x code maxLocals ret, Jvm.Cond.code ({ cls := "com/example/redoubt/redoubt/policies/AttemptCounts$Runs", name := "<init>", desc := "([I[IDDJ)V" } : Jvm.MethodName) prog_97_method_1_code (9 : Nat) (Option.none : Option Jvm.ClassFile.FieldType), Jvm.Cond.code ({ cls := "java/lang/Record", name := "<init>", desc := "()V" } : Jvm.MethodName) jdk_30_method_1_code (1 : Nat) (Option.none : Option Jvm.ClassFile.FieldType), Jvm.Cond.code ({ cls := "java/lang/Object", name := "<init>", desc := "()V" } : Jvm.MethodName) object_method_1_code (1 : Nat) (Option.none : Option Jvm.ClassFile.FieldType), Jvm.Cond.code ({ cls := "com/example/redoubt/redoubt/policies/AttemptCounts$Runs", name := "cheaperThan", desc := "(Lcom/example/redoubt/redoubt/policies/AttemptCounts$Runs;)Z" } : Jvm.MethodName) prog_97_method_3_code (2 : Nat) (Option.some Jvm.ClassFile.FieldType.boolean), Jvm.Cond.code ({ cls := "com/example/redoubt/redoubt/policies/RunsCheaperThanPinLaw", name := "reference", desc := "(IJIJ)Z" } : Jvm.MethodName) method_3_code (6 : Nat) (Option.some Jvm.ClassFile.FieldType.boolean)]
set_option maxRecDepth 65536 in
theorem codes_eq : words1.filter isCode = codes1 := rfl
theorem w_codes : ∀ c ∈ words1.filter isCode, c.before args0 about1 = true := by
  rw [codes_eq]
  intro c hc
  simp only [codes1, List.mem_cons, List.not_mem_nil, or_false] at hc
  rcases hc with rfl | rfl | rfl | rfl | rfl | rfl
  · exact w_c0
  · exact w_c1
  · exact w_c2
  · exact w_c3
  · exact w_c4
  · exact w_c5
set_option maxRecDepth 65536 in
theorem w_t1 : (words1.take 24).all (fun c => isCode c || c.before args0 about1) = true := by decide +kernel
set_option maxRecDepth 65536 in
theorem w_t2 : (words1.drop 24).all (fun c => isCode c || c.before args0 about1) = true := by decide +kernel
theorem w_tables : (allAtoms (Jvm.Cond.code x code maxLocals ret :: tables_1)).before args0 about1 = true := by
  rw [allAtoms_all]
  show words1.all (fun c => c.before args0 about1) = true
  refine all_split ?_ w_codes
  rw [← List.take_append_drop 24 words1, List.all_append, w_t1, w_t2]
  rfl
set_option maxRecDepth 65536 in
theorem w_case : (Jvm.Cond.and given_1 narrow_1).before args0 about1 = true := by decide +kernel
theorem w_applies : (headSpec (Jvm.Cond.code x code maxLocals ret :: tables_1) room_1).applies x e0.platform about1 = true :=
  (Spec.applies_iff w_frames).mpr ⟨w_running, w_runnable, w_alone, w_named, w_hears, w_ripe, w_room, w_tables⟩
theorem atStart : AtStart classFile x code maxLocals ret World_1 tables_1 room_1 Calls_1 rest_1 Pre_1 launch0 p0 e0 about1 theMethod args0 below0 :=
  ⟨lists_1, trivial, launch0.admits_env _ _ _, launch0.least_env, fairChoices_fair.cas, fairChoices_fair.clock, w_frames, w_args, w_heap, w_applies, trivial, trivial, w_case⟩
end start1
theorem witness_1 : WitnessClaimed_1 := ⟨start1.p0, start1.e0, start1.about1, start1.theMethod, start1.args0, start1.below0, start1.atStart⟩
end Jvm.Pilot.@@N@@
