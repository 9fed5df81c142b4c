import JvmDerived
import JvmDerived.Pilot.@@N@@Statement
import JvmDerived.Pilot.@@N@@Code
set_option linter.unusedVariables false
set_option linter.unusedSimpArgs false
namespace Jvm.RoadKit
open Sem ClassFile Op Lib Jvm.Stand Jvm.Free Jvm.LawKit
section OwnWalk
variable {p : Program} {l : Launch} {e : Env} {R : Room} {s : State} {m : MethodId} {args : Array Value} {below : List Frame} {meth : Method} {c : Code} {T : State} {locs : List Loc} {cells slots : Nat}
/-- what a walk owes from a state on: it comes to an end as the contract says -/
def Goes (p : Program) (e : Env) (below : List Frame) (s : State) (Q : Option Value → Heap → List Loc → Prop) (cs ss : Nat) (st : State) : Prop :=
  ∃ s₂ o, Steps p.tables e below st s₂ ∧ s₂.status = .running ∧ Ended s₂ below o ∧ ∃ v L, o = .returned v ∧ Q v s₂.heap L ∧ FrameEnd s o s₂ L cs ss
theorem Goes.st {Q : Option Value → Heap → List Loc → Prop} {cs ss : Nat} {st st' : State} (h : ∀ t, Steps p.tables e below st' t → Steps p.tables e below st t) (g : Goes p e below s Q cs ss st') : Goes p e below s Q cs ss st := by
  obtain ⟨s2, o, h1, r⟩ := g
  exact ⟨s2, o, h _ h1, r⟩
theorem Goes.sts {Q : Option Value → Heap → List Loc → Prop} {cs ss : Nat} {st st' : State} (h : Steps p.tables e below st st') (g : Goes p e below s Q cs ss st') : Goes p e below s Q cs ss st := Goes.st (fun _ k => h.trans k) g
theorem Goes.fin {Q : Option Value → Heap → List Loc → Prop} {cs ss : Nat} (X : Stand p l e R s m args below meth c T locs cells slots) (hlk : meth.locks = false) {v : Option Value} (hv : meth.sig.returnType = none → v = none) {F : JFrame}
    (hst : ∀ fs, (∀ (f : JFrame) (acts : List Action), f.method = m → f.locked = none → f.entered = [] → (doReturn e (T.setTop f) acts v).1 = T.setFrames fs) → Steps p.tables e below (T.setTop F) (T.setFrames fs))
    (hq : Q v T.heap locs) (hc : cells ≤ cs) (hs : slots ≤ ss) : Goes p e below s Q cs ss (T.setTop F) := by
  obtain ⟨fs, hr, hrun, hended, hW, hsame⟩ := X.leave (v := v) hv hlk
  exact ⟨_, _, hst fs hr, hrun, hended, _, _, rfl, hq, ⟨_, rfl⟩, hW, hsame.mono hc hs⟩
theorem Goes.retN {Q : Option Value → Heap → List Loc → Prop} {cs ss : Nat} (X : Stand p l e R s m args below meth c T locs cells slots) (hx : p.tables.exec = Jvm.exec) (hlk : meth.locks = false) {t : FieldType} (hret : meth.sig.returnType = some t) (ht : t = .boolean ∨ t = .byte ∨ t = .char ∨ t = .short) {pc : Nat} {Ls : Array Slot} {z : Int32} {rest : List Value}
    (hd : decode c.code pc = .ok (.ireturn, 1)) (hn : nar t z = z) (hq : Q (some (.int z)) T.heap locs) (hc : cells ≤ cs) (hs : slots ≤ ss) : Goes p e below s Q cs ss (T.setTop (mkF m pc Ls (.int z :: rest))) :=
  Goes.fin X hlk (v := some (.int z)) (fun h => by rw [hret] at h; cases h) (fun fs hr => RoadKit.retN X hx hret ht hd (by rw [hn]; exact hr)) hq hc hs
theorem Goes.retW {Q : Option Value → Heap → List Loc → Prop} {cs ss : Nat} (X : Stand p l e R s m args below meth c T locs cells slots) (hx : p.tables.exec = Jvm.exec) (hlk : meth.locks = false) {t : FieldType} (hret : meth.sig.returnType = some t) {pc : Nat} {Ls : Array Slot} {w : Value} {i : Instr} {rest : List Value} (hn : narrow t w = w)
    (hi : (i = .ireturn ∧ (t = .int ∨ t = .boolean ∨ t = .byte ∨ t = .char ∨ t = .short) ∧ ∃ z, w = .int z) ∨ (i = .lreturn ∧ t = .long ∧ ∃ z, w = .long z) ∨ (i = .dreturn ∧ t = .double ∧ ∃ z, w = .double z) ∨ (i = .freturn ∧ t = .float ∧ ∃ z, w = .float z) ∨ (i = .areturn ∧ t.isReference = true ∧ w.isRef = true))
    (hd : decode c.code pc = .ok (i, 1)) (hq : Q (some w) T.heap locs) (hc : cells ≤ cs) (hs : slots ≤ ss) : Goes p e below s Q cs ss (T.setTop (mkF m pc Ls (w :: rest))) :=
  Goes.fin X hlk (v := some w) (fun h => by rw [hret] at h; cases h) (fun fs hr => RoadKit.retOut X hx hret hn hi hd hr) hq hc hs
theorem Goes.retI {Q : Option Value → Heap → List Loc → Prop} {cs ss : Nat} (X : Stand p l e R s m args below meth c T locs cells slots) (hx : p.tables.exec = Jvm.exec) (hlk : meth.locks = false) (hret : meth.sig.returnType = some .int) {pc : Nat} {Ls : Array Slot} {z : Int32} {rest : List Value}
    (hd : decode c.code pc = .ok (.ireturn, 1)) (hq : Q (some (.int z)) T.heap locs) (hc : cells ≤ cs) (hs : slots ≤ ss) : Goes p e below s Q cs ss (T.setTop (mkF m pc Ls (.int z :: rest))) :=
  Goes.retW X hx hlk hret rfl (Or.inl ⟨rfl, Or.inl rfl, _, rfl⟩) hd hq hc hs
theorem Goes.retL {Q : Option Value → Heap → List Loc → Prop} {cs ss : Nat} (X : Stand p l e R s m args below meth c T locs cells slots) (hx : p.tables.exec = Jvm.exec) (hlk : meth.locks = false) (hret : meth.sig.returnType = some .long) {pc : Nat} {Ls : Array Slot} {z : Int64} {rest : List Value}
    (hd : decode c.code pc = .ok (.lreturn, 1)) (hq : Q (some (.long z)) T.heap locs) (hc : cells ≤ cs) (hs : slots ≤ ss) : Goes p e below s Q cs ss (T.setTop (mkF m pc Ls (.long z :: rest))) :=
  Goes.retW X hx hlk hret rfl (Or.inr (Or.inl ⟨rfl, rfl, _, rfl⟩)) hd hq hc hs
theorem Goes.retD {Q : Option Value → Heap → List Loc → Prop} {cs ss : Nat} (X : Stand p l e R s m args below meth c T locs cells slots) (hx : p.tables.exec = Jvm.exec) (hlk : meth.locks = false) (hret : meth.sig.returnType = some .double) {pc : Nat} {Ls : Array Slot} {z : UInt64} {rest : List Value}
    (hd : decode c.code pc = .ok (.dreturn, 1)) (hq : Q (some (.double z)) T.heap locs) (hc : cells ≤ cs) (hs : slots ≤ ss) : Goes p e below s Q cs ss (T.setTop (mkF m pc Ls (.double z :: rest))) :=
  Goes.retW X hx hlk hret rfl (Or.inr (Or.inr (Or.inl ⟨rfl, rfl, _, rfl⟩))) hd hq hc hs
theorem Goes.retA {Q : Option Value → Heap → List Loc → Prop} {cs ss : Nat} (X : Stand p l e R s m args below meth c T locs cells slots) (hx : p.tables.exec = Jvm.exec) (hlk : meth.locks = false) {t : FieldType} (hret : meth.sig.returnType = some t) (ht : t.isReference = true) {pc : Nat} {Ls : Array Slot} {w : Value} {rest : List Value} (hn : narrow t w = w) (hw : w.isRef = true)
    (hd : decode c.code pc = .ok (.areturn, 1)) (hq : Q (some w) T.heap locs) (hc : cells ≤ cs) (hs : slots ≤ ss) : Goes p e below s Q cs ss (T.setTop (mkF m pc Ls (w :: rest))) :=
  Goes.retW X hx hlk hret hn (Or.inr (Or.inr (Or.inr (Or.inr ⟨rfl, ht, hw⟩)))) hd hq hc hs
theorem Goes.retV {Q : Option Value → Heap → List Loc → Prop} {cs ss : Nat} (X : Stand p l e R s m args below meth c T locs cells slots) (hx : p.tables.exec = Jvm.exec) (hlk : meth.locks = false) (hret : meth.sig.returnType = none) {pc : Nat} {Ls : Array Slot}
    (hd : decode c.code pc = .ok (.return_, 1)) (hq : Q none T.heap locs) (hc : cells ≤ cs) (hs : slots ≤ ss) : Goes p e below s Q cs ss (T.setTop (mkF m pc Ls [])) :=
  Goes.fin X hlk (v := none) (fun _ => rfl) (fun fs hr => X.returnOut hx hret hd hr) hq hc hs
end OwnWalk
end Jvm.RoadKit
namespace Jvm.Pilot.@@N@@
open Jvm Jvm.ClassFile Sem Op Lib Jvm.Free Jvm.Stand Jvm.LawKit Jvm.RoadKit Bundle Jvm.Free.Fl Jvm.Pilot.@@N@@.Jvm.D
/-- what isBetter answers -/
def isB (aT aM : Addr) (x y : UInt64) : Int32 := if aT = aM then (if (0 : Int32) < cmpValue (FP.dcmp x y) .l then 1 else 0) else (if cmpValue (FP.dcmp x y) .g < (0 : Int32) then 1 else 0)
theorem own_small (a : Int32) : B53 a.toInt64 := by
  have h1 := rng32 a
  constructor <;> rw [c_i2l] <;> omega
theorem own_cmp (a b : Int32) (o : CmpOp) : cmpValue (FP.dcmp (FP.i2d a) (FP.i2d b)) o = lcmpW a.toInt64 b.toInt64 := by
  rw [i2d_w, i2d_w]; exact dcmpV_w (own_small a) (own_small b) o
theorem own_lt64 (a b : Int32) : a.toInt64 < b.toInt64 ↔ a < b := by
  rw [Int64.lt_iff_toInt_lt, Int32.lt_iff_toInt_lt, c_i2l, c_i2l]
theorem own_maxI {aM : Addr} (a b : Int32) : isB aM aM (FP.i2d a) (FP.i2d b) = if b < a then 1 else 0 := by
  simp only [isB, if_true, own_cmp, lw_gt, own_lt64]
theorem own_minI {aN aM : Addr} (h : aN ≠ aM) (a b : Int32) : isB aN aM (FP.i2d a) (FP.i2d b) = if a < b then 1 else 0 := by
  simp only [isB, if_neg h, own_cmp, lw_lt, own_lt64]
theorem own_max1 {aM : Addr} (b : Int32) : isB aM aM (18442240474082181120 : UInt64) (FP.i2d b) = 0 := by
  simp only [isB, if_true, dcmp_ninf' (i2d_fin b)]; decide
theorem own_max2 {aM : Addr} : isB aM aM (18442240474082181120 : UInt64) (18442240474082181120 : UInt64) = 0 := by
  simp only [isB, if_true]; decide +kernel
theorem own_max3 {aM : Addr} (a : Int32) : isB aM aM (FP.i2d a) (18442240474082181120 : UInt64) = 1 := by
  simp only [isB, if_true, dcmp_ninf (i2d_fin a)]; decide
theorem own_min1 {aN aM : Addr} (h : aN ≠ aM) (b : Int32) : isB aN aM (9218868437227405312 : UInt64) (FP.i2d b) = 0 := by
  simp only [isB, if_neg h, dcmp_pinf' (i2d_fin b)]; decide
theorem own_min2 {aN aM : Addr} (h : aN ≠ aM) : isB aN aM (9218868437227405312 : UInt64) (9218868437227405312 : UInt64) = 0 := by
  simp only [isB, if_neg h]; decide +kernel
theorem own_min3 {aN aM : Addr} (h : aN ≠ aM) (a : Int32) : isB aN aM (FP.i2d a) (9218868437227405312 : UInt64) = 1 := by
  simp only [isB, if_neg h, dcmp_pinf (i2d_fin a)]; decide
theorem d_prog_47_method_6_0 : decode prog_47_method_6_code 0 = .ok (.aload_n 0, 1) := by decide +kernel
theorem d_prog_47_method_6_1 : decode prog_47_method_6_code 1 = .ok (.getstatic 3, 3) := by decide +kernel
theorem d_prog_47_method_6_4 : decode prog_47_method_6_code 4 = .ok (.if_acmp .ne 17, 3) := by decide +kernel
theorem d_prog_47_method_6_7 : decode prog_47_method_6_code 7 = .ok (.dload_n 1, 1) := by decide +kernel
theorem d_prog_47_method_6_8 : decode prog_47_method_6_code 8 = .ok (.dload_n 3, 1) := by decide +kernel
theorem d_prog_47_method_6_9 : decode prog_47_method_6_code 9 = .ok (.dcmp .l, 1) := by decide +kernel
theorem d_prog_47_method_6_10 : decode prog_47_method_6_code 10 = .ok (.ifCond .le 7, 3) := by decide +kernel
theorem d_prog_47_method_6_13 : decode prog_47_method_6_code 13 = .ok (.iconst 1, 1) := by decide +kernel
theorem d_prog_47_method_6_14 : decode prog_47_method_6_code 14 = .ok (.goto 18, 3) := by decide +kernel
theorem d_prog_47_method_6_17 : decode prog_47_method_6_code 17 = .ok (.iconst 0, 1) := by decide +kernel
theorem d_prog_47_method_6_18 : decode prog_47_method_6_code 18 = .ok (.goto 14, 3) := by decide +kernel
theorem d_prog_47_method_6_21 : decode prog_47_method_6_code 21 = .ok (.dload_n 1, 1) := by decide +kernel
theorem d_prog_47_method_6_22 : decode prog_47_method_6_code 22 = .ok (.dload_n 3, 1) := by decide +kernel
theorem d_prog_47_method_6_23 : decode prog_47_method_6_code 23 = .ok (.dcmp .g, 1) := by decide +kernel
theorem d_prog_47_method_6_24 : decode prog_47_method_6_code 24 = .ok (.ifCond .ge 7, 3) := by decide +kernel
theorem d_prog_47_method_6_27 : decode prog_47_method_6_code 27 = .ok (.iconst 1, 1) := by decide +kernel
theorem d_prog_47_method_6_28 : decode prog_47_method_6_code 28 = .ok (.goto 4, 3) := by decide +kernel
theorem d_prog_47_method_6_31 : decode prog_47_method_6_code 31 = .ok (.iconst 0, 1) := by decide +kernel
theorem d_prog_47_method_6_32 : decode prog_47_method_6_code 32 = .ok (.ireturn, 1) := by decide +kernel
theorem pn_com_example_parley_parley_Objective : plainName "com/example/parley/parley/Objective" = true := by first | (simp [plainName, overriddenIn]; done) | decide +kernel
theorem ef_B (m : MethodId) (x0 : Addr) (x1 : UInt64) (x2 : UInt64) : entryFrame m #[(.ref x0), (.double x1), (.double x2)] 5 = mkF m 0 #[.val (.ref x0), .val (.double x1), .second, .val (.double x2), .second] [] := by first | (simp [entryFrame, mkF, argsToLocals, Value.category]; done) | rfl
def QB (Z : State) (aT : Addr) (dx dy : UInt64) (aM : Addr) (h0 : Heap) (n0 : Nat) (v : Option Value) (h : Heap) (L : List Loc) : Prop := v = some (.int (isB aT aM dx dy)) ∧ Fr n0 L ∧ h = h0
set_option maxRecDepth 65536 in
set_option maxHeartbeats 40000000 in
theorem rmB (l : Launch) (Z : State) (a0 : Array Value) (hw : ∀ d ∈ tables_1, d.before a0 Z = true) (ws : List Jvm.Cond) (aT : Addr) (dx dy : UInt64) (aM : Addr) (h0 : Heap) (n0 : Nat) (Z0 : n0 ≤ h0.size) (S1 : Sta Z h0 "com/example/parley/parley/Objective" "MAXIMIZE" "Lcom/example/parley/parley/Objective;" (.ref aM)) :
    MetFree l (⟨"com/example/parley/parley/Objective", "isBetter", "(DD)Z"⟩ : MethodName) (head1 (Jvm.Cond.code (⟨"com/example/parley/parley/Objective", "isBetter", "(DD)Z"⟩ : MethodName) prog_47_method_6_code 5 (some .boolean) :: ws) ({ frames := 0, cells := 0, slots := 0, locals := 0 } : Room)) (fun aa U => aa = #[(.ref aT), (.double dx), (.double dy)] ∧ Z.Warmed39 U.vm ∧ U.heap = h0) (fun _ _ _ _ _ => True) (fun _ U o U' => ∃ v L, o = .returned v ∧ QB Z aT dx dy aM h0 n0 v U'.heap L ∧ FrameEnd U o U' L ({ frames := 0, cells := 0, slots := 0, locals := 0 } : Room).cells ({ frames := 0, cells := 0, slots := 0, locals := 0 } : Room).slots) := by
  refine MetFree.of_bodySF (plainFor_of_name pn_com_example_parley_parley_Objective) hisR ?_
  intro p e s m args below meth c s₁ Bd hml0 hP hK
  obtain ⟨rfl, hZ, hh⟩ := hP
  have hx := Bd.exec
  have hby := Bd.bytes
  have hlk := BodyLoose.notSynchronized Bd
  have hret := Bd.returns
  have hml : c.maxLocals = 5 := hml0
  have hown : s.vm.findClass "com/example/parley/parley/Objective" = some m.cls := findClass_of_methodNamed Bd.named
  have hnm := (name_of_methodNamed Bd.named Bd.method).1
  have X0 : Stand p l e ({ frames := 0, cells := 0, slots := 0, locals := 0 } : Room) s m #[(.ref aT), (.double dx), (.double dy)] below meth c s₁ [] 0 0 := Stand.of_body Bd
  have e0 : s₁.heap = h0 := by rw [← hh, Bd.state]; rfl
  have N0 := Fr.nil n0
  refine Goes.st (s := s) (Q := QB Z aT dx dy aM h0 n0) (cs := ({ frames := 0, cells := 0, slots := 0, locals := 0 } : Room).cells) (ss := ({ frames := 0, cells := 0, slots := 0, locals := 0 } : Room).slots) (fun t k => castTop (ef_B m aT dx dy) k) ?_
  show Goes p e below s _ _ _ (s₁.setTop (mkF m 0 #[.val (.ref aT), .val (.double dx), .second, .val (.double dy), .second] []))
  refine Goes.st (fun t k => XS.aloadN X0.here hx rfl (hb hby d_prog_47_method_6_0) rfl rfl k) ?_
  show Goes p e below s _ _ _ (s₁.setTop (mkF m 1 #[.val (.ref aT), .val (.double dx), .second, .val (.double dy), .second] [(.ref aT)]))
  obtain ⟨T1, X1, e1, st1⟩ := getS X0 hx hZ hown (host := "") (hw _ (List.mem_of_getElem? (i := 9) rfl)) Via.refl e0 S1 (g := (mkF m 1 #[.val (.ref aT), .val (.double dx), .second, .val (.double dy), .second] [(.ref aT)])) rfl (hb hby d_prog_47_method_6_1)
  refine Goes.st st1 ?_
  show Goes p e below s _ _ _ (T1.setTop (mkF m 4 #[.val (.ref aT), .val (.double dx), .second, .val (.double dy), .second] [(.ref aM), (.ref aT)]))
  by_cases c2 : ((.ref aT) : Value) = (.ref aM)
  · refine Goes.st (fun t k => XT.acmpNo X1.here hx rfl (hb hby d_prog_47_method_6_4) rfl rfl rfl (XT.aa_ne_f c2) k) ?_
    show Goes p e below s _ _ _ (T1.setTop (mkF m 7 #[.val (.ref aT), .val (.double dx), .second, .val (.double dy), .second] []))
    refine Goes.st (fun t k => XS.dloadN X1.here hx rfl (hb hby d_prog_47_method_6_7) rfl k) ?_
    show Goes p e below s _ _ _ (T1.setTop (mkF m 8 #[.val (.ref aT), .val (.double dx), .second, .val (.double dy), .second] [(.double dx)]))
    refine Goes.st (fun t k => XS.dloadN X1.here hx rfl (hb hby d_prog_47_method_6_8) rfl k) ?_
    show Goes p e below s _ _ _ (T1.setTop (mkF m 9 #[.val (.ref aT), .val (.double dx), .second, .val (.double dy), .second] [(.double dy), (.double dx)]))
    refine Goes.st (fun t k => XS.dcmpS X1.here hx rfl (hb hby d_prog_47_method_6_9) rfl (v := (cmpValue (FP.dcmp dx dy) .l)) rfl k) ?_
    show Goes p e below s _ _ _ (T1.setTop (mkF m 10 #[.val (.ref aT), .val (.double dx), .second, .val (.double dy), .second] [(.int (cmpValue (FP.dcmp dx dy) .l))]))
    by_cases c3 : (0 : Int32) < (cmpValue (FP.dcmp dx dy) .l)
    · refine Goes.st (fun t k => XS.ifNo X1.here hx rfl (hb hby d_prog_47_method_6_10) rfl ((if0 _ _).trans (tlt c3).2.2.2) k) ?_
      show Goes p e below s _ _ _ (T1.setTop (mkF m 13 #[.val (.ref aT), .val (.double dx), .second, .val (.double dy), .second] []))
      refine Goes.st (fun t k => XS.iconst X1.here hx rfl (hb hby d_prog_47_method_6_13) k) ?_
      show Goes p e below s _ _ _ (T1.setTop (mkF m 14 #[.val (.ref aT), .val (.double dx), .second, .val (.double dy), .second] [(.int (1 : Int32))]))
      refine Goes.st (fun t k => XS.goto X1.here hx rfl (pc0 := 14) (pc' := 32) rfl (hb hby d_prog_47_method_6_14) (by decide) (by decide) k) ?_
      show Goes p e below s _ _ _ (T1.setTop (mkF m 32 #[.val (.ref aT), .val (.double dx), .second, .val (.double dy), .second] [(.int (1 : Int32))]))
      refine Goes.retN X1 hx hlk hret (by simp) (hb hby d_prog_47_method_6_32) (by decide) ?_ (by decide) (by decide)
      rw [e1]
      exact ⟨by simp_all [isB], N0, rfl⟩
    · refine Goes.st (fun t k => XS.ifYes X1.here hx rfl (pc0 := 10) (pc' := 17) rfl (hb hby d_prog_47_method_6_10) rfl ((if0 _ _).trans (flt c3).2.2.2) (by decide) (by decide) k) ?_
      show Goes p e below s _ _ _ (T1.setTop (mkF m 17 #[.val (.ref aT), .val (.double dx), .second, .val (.double dy), .second] []))
      refine Goes.st (fun t k => XS.iconst X1.here hx rfl (hb hby d_prog_47_method_6_17) k) ?_
      show Goes p e below s _ _ _ (T1.setTop (mkF m 18 #[.val (.ref aT), .val (.double dx), .second, .val (.double dy), .second] [(.int (0 : Int32))]))
      refine Goes.st (fun t k => XS.goto X1.here hx rfl (pc0 := 18) (pc' := 32) rfl (hb hby d_prog_47_method_6_18) (by decide) (by decide) k) ?_
      show Goes p e below s _ _ _ (T1.setTop (mkF m 32 #[.val (.ref aT), .val (.double dx), .second, .val (.double dy), .second] [(.int (0 : Int32))]))
      refine Goes.retN X1 hx hlk hret (by simp) (hb hby d_prog_47_method_6_32) (by decide) ?_ (by decide) (by decide)
      rw [e1]
      exact ⟨by simp_all [isB], N0, rfl⟩
  · refine Goes.st (fun t k => XT.acmpYes X1.here hx rfl (pc0 := 4) (pc' := 21) rfl (hb hby d_prog_47_method_6_4) rfl rfl rfl (XT.aa_ne_t c2) (by decide) (by decide) k) ?_
    show Goes p e below s _ _ _ (T1.setTop (mkF m 21 #[.val (.ref aT), .val (.double dx), .second, .val (.double dy), .second] []))
    refine Goes.st (fun t k => XS.dloadN X1.here hx rfl (hb hby d_prog_47_method_6_21) rfl k) ?_
    show Goes p e below s _ _ _ (T1.setTop (mkF m 22 #[.val (.ref aT), .val (.double dx), .second, .val (.double dy), .second] [(.double dx)]))
    refine Goes.st (fun t k => XS.dloadN X1.here hx rfl (hb hby d_prog_47_method_6_22) rfl k) ?_
    show Goes p e below s _ _ _ (T1.setTop (mkF m 23 #[.val (.ref aT), .val (.double dx), .second, .val (.double dy), .second] [(.double dy), (.double dx)]))
    refine Goes.st (fun t k => XS.dcmpS X1.here hx rfl (hb hby d_prog_47_method_6_23) rfl (v := (cmpValue (FP.dcmp dx dy) .g)) rfl k) ?_
    show Goes p e below s _ _ _ (T1.setTop (mkF m 24 #[.val (.ref aT), .val (.double dx), .second, .val (.double dy), .second] [(.int (cmpValue (FP.dcmp dx dy) .g))]))
    by_cases c4 : (cmpValue (FP.dcmp dx dy) .g) < (0 : Int32)
    · refine Goes.st (fun t k => XS.ifNo X1.here hx rfl (hb hby d_prog_47_method_6_24) rfl ((if0 _ _).trans (tlt c4).2.1) k) ?_
      show Goes p e below s _ _ _ (T1.setTop (mkF m 27 #[.val (.ref aT), .val (.double dx), .second, .val (.double dy), .second] []))
      refine Goes.st (fun t k => XS.iconst X1.here hx rfl (hb hby d_prog_47_method_6_27) k) ?_
      show Goes p e below s _ _ _ (T1.setTop (mkF m 28 #[.val (.ref aT), .val (.double dx), .second, .val (.double dy), .second] [(.int (1 : Int32))]))
      refine Goes.st (fun t k => XS.goto X1.here hx rfl (pc0 := 28) (pc' := 32) rfl (hb hby d_prog_47_method_6_28) (by decide) (by decide) k) ?_
      show Goes p e below s _ _ _ (T1.setTop (mkF m 32 #[.val (.ref aT), .val (.double dx), .second, .val (.double dy), .second] [(.int (1 : Int32))]))
      refine Goes.retN X1 hx hlk hret (by simp) (hb hby d_prog_47_method_6_32) (by decide) ?_ (by decide) (by decide)
      rw [e1]
      exact ⟨by simp_all [isB], N0, rfl⟩
    · refine Goes.st (fun t k => XS.ifYes X1.here hx rfl (pc0 := 24) (pc' := 31) rfl (hb hby d_prog_47_method_6_24) rfl ((if0 _ _).trans (flt c4).2.1) (by decide) (by decide) k) ?_
      show Goes p e below s _ _ _ (T1.setTop (mkF m 31 #[.val (.ref aT), .val (.double dx), .second, .val (.double dy), .second] []))
      refine Goes.st (fun t k => XS.iconst X1.here hx rfl (hb hby d_prog_47_method_6_31) k) ?_
      show Goes p e below s _ _ _ (T1.setTop (mkF m 32 #[.val (.ref aT), .val (.double dx), .second, .val (.double dy), .second] [(.int (0 : Int32))]))
      refine Goes.retN X1 hx hlk hret (by simp) (hb hby d_prog_47_method_6_32) (by decide) ?_ (by decide) (by decide)
      rw [e1]
      exact ⟨by simp_all [isB], N0, rfl⟩
theorem pn_com_example_parley_parley_ObjectiveIsBetterPinLaw : plainName "com/example/parley/parley/ObjectiveIsBetterPinLaw" = true := by first | (simp [plainName, overriddenIn]; done) | decide +kernel
theorem pd__DD_Z_b14 : parseMethodDescriptor "(DD)Z" = some ⟨[.double, .double], some .boolean⟩ := by decide +kernel
theorem ef_0 (m : MethodId) (x0 : Int32) (x1 : Int32) (x2 : Int32) : entryFrame m #[(.int x0), (.int x1), (.int x2)] maxLocals = mkF m 0 #[.val (.int x0), .val (.int x1), .val (.int x2), .unset, .unset, .unset, .unset, .unset, .unset, .unset, .unset, .unset, .unset, .unset, .unset] [] := by first | (simp [entryFrame, mkF, argsToLocals, Value.category, maxLocals]; done) | rfl
def Q0 (Z : State) (p0 p1 p2 : Int32) (aM aN : Addr) (h0 : Heap) (n0 : Nat) (v : Option Value) (h : Heap) (L : List Loc) : Prop := v = some (.int 1) ∧ Fr n0 L
set_option maxRecDepth 65536 in
set_option maxHeartbeats 40000000 in
theorem rm0 (l : Launch) (Z : State) (a0 : Array Value) (hw : ∀ d ∈ tables_1, d.before a0 Z = true) (ws : List Jvm.Cond) (p0 p1 p2 : Int32) (aM aN : Addr) (h0 : Heap) (n0 : Nat) (Z0 : n0 ≤ h0.size) (S1 : Sta Z h0 "com/example/parley/parley/Objective" "MAXIMIZE" "Lcom/example/parley/parley/Objective;" (.ref aM)) (S2 : Sta Z h0 "com/example/parley/parley/Objective" "MINIMIZE" "Lcom/example/parley/parley/Objective;" (.ref aN)) (E1 : Exa Z h0 aM "com/example/parley/parley/Objective") (E2 : Exa Z h0 aN "com/example/parley/parley/Objective") (hne : aN ≠ aM) :
    MetFree l x (head1 (Jvm.Cond.code x code maxLocals ret :: ws) room_1) (fun aa U => aa = #[(.int p0), (.int p1), (.int p2)] ∧ Z.Warmed39 U.vm ∧ U.heap = h0) (fun _ _ _ _ _ => True) (fun _ U o U' => ∃ v L, o = .returned v ∧ Q0 Z p0 p1 p2 aM aN h0 n0 v U'.heap L ∧ FrameEnd U o U' L 0 0) := by
  refine MetFree.of_bodySF (plainFor_of_name pn_com_example_parley_parley_ObjectiveIsBetterPinLaw) hisR ?_
  intro p e s m args below meth c s₁ Bd hml0 hP hK
  obtain ⟨rfl, hZ, hh⟩ := hP
  have hx := Bd.exec
  have hby := Bd.bytes
  have hlk := BodyLoose.notSynchronized Bd
  have hret := Bd.returns
  have hml : c.maxLocals = 15 := hml0
  have hown : s.vm.findClass "com/example/parley/parley/ObjectiveIsBetterPinLaw" = some m.cls := findClass_of_methodNamed Bd.named
  have hnm := (name_of_methodNamed Bd.named Bd.method).1
  have X0 : Stand p l e room_1 s m #[(.int p0), (.int p1), (.int p2)] below meth c s₁ [] 0 0 := Stand.of_body Bd
  have e0 : s₁.heap = h0 := by rw [← hh, Bd.state]; rfl
  have N0 := Fr.nil n0
  refine Goes.st (s := s) (Q := Q0 Z p0 p1 p2 aM aN h0 n0) (cs := 0) (ss := 0) (fun t k => castTop (ef_0 m p0 p1 p2) k) ?_
  show Goes p e below s _ _ _ (s₁.setTop (mkF m 0 #[.val (.int p0), .val (.int p1), .val (.int p2), .unset, .unset, .unset, .unset, .unset, .unset, .unset, .unset, .unset, .unset, .unset, .unset] []))
  refine Goes.st (fun t k => XS.iloadN X0.here hx rfl (hb hby at_0) rfl k) ?_
  show Goes p e below s _ _ _ (s₁.setTop (mkF m 1 #[.val (.int p0), .val (.int p1), .val (.int p2), .unset, .unset, .unset, .unset, .unset, .unset, .unset, .unset, .unset, .unset, .unset, .unset] [(.int p2)]))
  refine Goes.st (fun t k => XS.iconst X0.here hx rfl (hb hby at_1) k) ?_
  show Goes p e below s _ _ _ (s₁.setTop (mkF m 2 #[.val (.int p0), .val (.int p1), .val (.int p2), .unset, .unset, .unset, .unset, .unset, .unset, .unset, .unset, .unset, .unset, .unset, .unset] [(.int (1 : Int32)), (.int p2)]))
  refine Goes.st (fun t k => XS.iand X0.here hx rfl (hb hby at_2) rfl k) ?_
  show Goes p e below s _ _ _ (s₁.setTop (mkF m 3 #[.val (.int p0), .val (.int p1), .val (.int p2), .unset, .unset, .unset, .unset, .unset, .unset, .unset, .unset, .unset, .unset, .unset, .unset] [(.int (p2 &&& (1 : Int32)))]))
  by_cases c1 : (p2 &&& (1 : Int32)) = (0 : Int32)
  · refine Goes.st (fun t k => XS.ifYes X0.here hx rfl (pc0 := 3) (pc' := 10) rfl (hb hby at_3) rfl ((if0 _ _).trans (teq c1).1) (by decide) (by decide) k) ?_
    show Goes p e below s _ _ _ (s₁.setTop (mkF m 10 #[.val (.int p0), .val (.int p1), .val (.int p2), .unset, .unset, .unset, .unset, .unset, .unset, .unset, .unset, .unset, .unset, .unset, .unset] []))
    refine Goes.st (fun t k => XS.iconst X0.here hx rfl (hb hby at_10) k) ?_
    show Goes p e below s _ _ _ (s₁.setTop (mkF m 11 #[.val (.int p0), .val (.int p1), .val (.int p2), .unset, .unset, .unset, .unset, .unset, .unset, .unset, .unset, .unset, .unset, .unset, .unset] [(.int (0 : Int32))]))
    refine Goes.st (fun t k => XS.istoreN X0.here hx rfl (hb hby at_11) rfl (l' := #[.val (.int p0), .val (.int p1), .val (.int p2), .val (.int (0 : Int32)), .unset, .unset, .unset, .unset, .unset, .unset, .unset, .unset, .unset, .unset, .unset]) rfl k) ?_
    show Goes p e below s _ _ _ (s₁.setTop (mkF m 12 #[.val (.int p0), .val (.int p1), .val (.int p2), .val (.int (0 : Int32)), .unset, .unset, .unset, .unset, .unset, .unset, .unset, .unset, .unset, .unset, .unset] []))
    refine Goes.st (fun t k => XS.iloadN X0.here hx rfl (hb hby at_12) rfl k) ?_
    show Goes p e below s _ _ _ (s₁.setTop (mkF m 13 #[.val (.int p0), .val (.int p1), .val (.int p2), .val (.int (0 : Int32)), .unset, .unset, .unset, .unset, .unset, .unset, .unset, .unset, .unset, .unset, .unset] [(.int (0 : Int32))]))
    refine Goes.st (fun t k => XS.ifYes X0.here hx rfl (pc0 := 13) (pc' := 22) rfl (hb hby at_13) rfl (by decide) (by decide) (by decide) k) ?_
    show Goes p e below s _ _ _ (s₁.setTop (mkF m 22 #[.val (.int p0), .val (.int p1), .val (.int p2), .val (.int (0 : Int32)), .unset, .unset, .unset, .unset, .unset, .unset, .unset, .unset, .unset, .unset, .unset] []))
    obtain ⟨T2, X2, e2, st2⟩ := getS X0 hx hZ hown (host := "") (hw _ (List.mem_of_getElem? (i := 0) rfl)) Via.refl e0 S2 (g := (mkF m 22 #[.val (.int p0), .val (.int p1), .val (.int p2), .val (.int (0 : Int32)), .unset, .unset, .unset, .unset, .unset, .unset, .unset, .unset, .unset, .unset, .unset] [])) rfl (hb hby at_22)
    refine Goes.st st2 ?_
    show Goes p e below s _ _ _ (T2.setTop (mkF m 25 #[.val (.int p0), .val (.int p1), .val (.int p2), .val (.int (0 : Int32)), .unset, .unset, .unset, .unset, .unset, .unset, .unset, .unset, .unset, .unset, .unset] [(.ref aN)]))
    refine Goes.st (fun t k => XS.astore X2.here hx rfl (hb hby at_25) rfl rfl (l' := #[.val (.int p0), .val (.int p1), .val (.int p2), .val (.int (0 : Int32)), .val (.ref aN), .unset, .unset, .unset, .unset, .unset, .unset, .unset, .unset, .unset, .unset]) rfl k) ?_
    show Goes p e below s _ _ _ (T2.setTop (mkF m 27 #[.val (.int p0), .val (.int p1), .val (.int p2), .val (.int (0 : Int32)), .val (.ref aN), .unset, .unset, .unset, .unset, .unset, .unset, .unset, .unset, .unset, .unset] []))
    refine Goes.st (fun t k => XS.iloadN X2.here hx rfl (hb hby at_27) rfl k) ?_
    show Goes p e below s _ _ _ (T2.setTop (mkF m 28 #[.val (.int p0), .val (.int p1), .val (.int p2), .val (.int (0 : Int32)), .val (.ref aN), .unset, .unset, .unset, .unset, .unset, .unset, .unset, .unset, .unset, .unset] [(.int p2)]))
    refine Goes.st (fun t k => XS.iconst X2.here hx rfl (hb hby at_28) k) ?_
    show Goes p e below s _ _ _ (T2.setTop (mkF m 29 #[.val (.int p0), .val (.int p1), .val (.int p2), .val (.int (0 : Int32)), .val (.ref aN), .unset, .unset, .unset, .unset, .unset, .unset, .unset, .unset, .unset, .unset] [(.int (1 : Int32)), (.int p2)]))
    refine Goes.st (fun t k => XT.iushr X2.here hx rfl (hb hby at_29) rfl k) ?_
    show Goes p e below s _ _ _ (T2.setTop (mkF m 30 #[.val (.int p0), .val (.int p1), .val (.int p2), .val (.int (0 : Int32)), .val (.ref aN), .unset, .unset, .unset, .unset, .unset, .unset, .unset, .unset, .unset, .unset] [(.int (XT.ushr p2 (1 : Int32)))]))
    refine Goes.st (fun t k => XS.iconst X2.here hx rfl (hb hby at_30) k) ?_
    show Goes p e below s _ _ _ (T2.setTop (mkF m 31 #[.val (.int p0), .val (.int p1), .val (.int p2), .val (.int (0 : Int32)), .val (.ref aN), .unset, .unset, .unset, .unset, .unset, .unset, .unset, .unset, .unset, .unset] [(.int (3 : Int32)), (.int (XT.ushr p2 (1 : Int32)))]))
    refine Goes.st (fun t k => XS.iand X2.here hx rfl (hb hby at_31) rfl k) ?_
    show Goes p e below s _ _ _ (T2.setTop (mkF m 32 #[.val (.int p0), .val (.int p1), .val (.int p2), .val (.int (0 : Int32)), .val (.ref aN), .unset, .unset, .unset, .unset, .unset, .unset, .unset, .unset, .unset, .unset] [(.int ((XT.ushr p2 (1 : Int32)) &&& (3 : Int32)))]))
    refine Goes.st (fun t k => XS.istore X2.here hx rfl (hb hby at_32) rfl (l' := #[.val (.int p0), .val (.int p1), .val (.int p2), .val (.int (0 : Int32)), .val (.ref aN), .val (.int ((XT.ushr p2 (1 : Int32)) &&& (3 : Int32))), .unset, .unset, .unset, .unset, .unset, .unset, .unset, .unset, .unset]) rfl k) ?_
    show Goes p e below s _ _ _ (T2.setTop (mkF m 34 #[.val (.int p0), .val (.int p1), .val (.int p2), .val (.int (0 : Int32)), .val (.ref aN), .val (.int ((XT.ushr p2 (1 : Int32)) &&& (3 : Int32))), .unset, .unset, .unset, .unset, .unset, .unset, .unset, .unset, .unset] []))
    refine Goes.st (fun t k => XS.iload X2.here hx rfl (hb hby at_34) rfl k) ?_
    show Goes p e below s _ _ _ (T2.setTop (mkF m 36 #[.val (.int p0), .val (.int p1), .val (.int p2), .val (.int (0 : Int32)), .val (.ref aN), .val (.int ((XT.ushr p2 (1 : Int32)) &&& (3 : Int32))), .unset, .unset, .unset, .unset, .unset, .unset, .unset, .unset, .unset] [(.int ((XT.ushr p2 (1 : Int32)) &&& (3 : Int32)))]))
    refine Goes.st (fun t k => XS.iconst X2.here hx rfl (hb hby at_36) k) ?_
    show Goes p e below s _ _ _ (T2.setTop (mkF m 37 #[.val (.int p0), .val (.int p1), .val (.int p2), .val (.int (0 : Int32)), .val (.ref aN), .val (.int ((XT.ushr p2 (1 : Int32)) &&& (3 : Int32))), .unset, .unset, .unset, .unset, .unset, .unset, .unset, .unset, .unset] [(.int (1 : Int32)), (.int ((XT.ushr p2 (1 : Int32)) &&& (3 : Int32)))]))
    refine Goes.st (fun t k => XS.iand X2.here hx rfl (hb hby at_37) rfl k) ?_
    show Goes p e below s _ _ _ (T2.setTop (mkF m 38 #[.val (.int p0), .val (.int p1), .val (.int p2), .val (.int (0 : Int32)), .val (.ref aN), .val (.int ((XT.ushr p2 (1 : Int32)) &&& (3 : Int32))), .unset, .unset, .unset, .unset, .unset, .unset, .unset, .unset, .unset] [(.int (((XT.ushr p2 (1 : Int32)) &&& (3 : Int32)) &&& (1 : Int32)))]))
    by_cases c3 : (((XT.ushr p2 (1 : Int32)) &&& (3 : Int32)) &&& (1 : Int32)) = (0 : Int32)
    · refine Goes.st (fun t k => XS.ifYes X2.here hx rfl (pc0 := 38) (pc' := 45) rfl (hb hby at_38) rfl ((if0 _ _).trans (teq c3).1) (by decide) (by decide) k) ?_
      show Goes p e below s _ _ _ (T2.setTop (mkF m 45 #[.val (.int p0), .val (.int p1), .val (.int p2), .val (.int (0 : Int32)), .val (.ref aN), .val (.int ((XT.ushr p2 (1 : Int32)) &&& (3 : Int32))), .unset, .unset, .unset, .unset, .unset, .unset, .unset, .unset, .unset] []))
      refine Goes.st (fun t k => XS.iconst X2.here hx rfl (hb hby at_45) k) ?_
      show Goes p e below s _ _ _ (T2.setTop (mkF m 46 #[.val (.int p0), .val (.int p1), .val (.int p2), .val (.int (0 : Int32)), .val (.ref aN), .val (.int ((XT.ushr p2 (1 : Int32)) &&& (3 : Int32))), .unset, .unset, .unset, .unset, .unset, .unset, .unset, .unset, .unset] [(.int (0 : Int32))]))
      refine Goes.st (fun t k => XS.istore X2.here hx rfl (hb hby at_46) rfl (l' := #[.val (.int p0), .val (.int p1), .val (.int p2), .val (.int (0 : Int32)), .val (.ref aN), .val (.int ((XT.ushr p2 (1 : Int32)) &&& (3 : Int32))), .val (.int (0 : Int32)), .unset, .unset, .unset, .unset, .unset, .unset, .unset, .unset]) rfl k) ?_
      show Goes p e below s _ _ _ (T2.setTop (mkF m 48 #[.val (.int p0), .val (.int p1), .val (.int p2), .val (.int (0 : Int32)), .val (.ref aN), .val (.int ((XT.ushr p2 (1 : Int32)) &&& (3 : Int32))), .val (.int (0 : Int32)), .unset, .unset, .unset, .unset, .unset, .unset, .unset, .unset] []))
      refine Goes.st (fun t k => XS.iload X2.here hx rfl (hb hby at_48) rfl k) ?_
      show Goes p e below s _ _ _ (T2.setTop (mkF m 50 #[.val (.int p0), .val (.int p1), .val (.int p2), .val (.int (0 : Int32)), .val (.ref aN), .val (.int ((XT.ushr p2 (1 : Int32)) &&& (3 : Int32))), .val (.int (0 : Int32)), .unset, .unset, .unset, .unset, .unset, .unset, .unset, .unset] [(.int ((XT.ushr p2 (1 : Int32)) &&& (3 : Int32)))]))
      refine Goes.st (fun t k => XS.iconst X2.here hx rfl (hb hby at_50) k) ?_
      show Goes p e below s _ _ _ (T2.setTop (mkF m 51 #[.val (.int p0), .val (.int p1), .val (.int p2), .val (.int (0 : Int32)), .val (.ref aN), .val (.int ((XT.ushr p2 (1 : Int32)) &&& (3 : Int32))), .val (.int (0 : Int32)), .unset, .unset, .unset, .unset, .unset, .unset, .unset, .unset] [(.int (2 : Int32)), (.int ((XT.ushr p2 (1 : Int32)) &&& (3 : Int32)))]))
      refine Goes.st (fun t k => XS.iand X2.here hx rfl (hb hby at_51) rfl k) ?_
      show Goes p e below s _ _ _ (T2.setTop (mkF m 52 #[.val (.int p0), .val (.int p1), .val (.int p2), .val (.int (0 : Int32)), .val (.ref aN), .val (.int ((XT.ushr p2 (1 : Int32)) &&& (3 : Int32))), .val (.int (0 : Int32)), .unset, .unset, .unset, .unset, .unset, .unset, .unset, .unset] [(.int (((XT.ushr p2 (1 : Int32)) &&& (3 : Int32)) &&& (2 : Int32)))]))
      by_cases c4 : (((XT.ushr p2 (1 : Int32)) &&& (3 : Int32)) &&& (2 : Int32)) = (0 : Int32)
      · refine Goes.st (fun t k => XS.ifYes X2.here hx rfl (pc0 := 52) (pc' := 59) rfl (hb hby at_52) rfl ((if0 _ _).trans (teq c4).1) (by decide) (by decide) k) ?_
        show Goes p e below s _ _ _ (T2.setTop (mkF m 59 #[.val (.int p0), .val (.int p1), .val (.int p2), .val (.int (0 : Int32)), .val (.ref aN), .val (.int ((XT.ushr p2 (1 : Int32)) &&& (3 : Int32))), .val (.int (0 : Int32)), .unset, .unset, .unset, .unset, .unset, .unset, .unset, .unset] []))
        refine Goes.st (fun t k => XS.iconst X2.here hx rfl (hb hby at_59) k) ?_
        show Goes p e below s _ _ _ (T2.setTop (mkF m 60 #[.val (.int p0), .val (.int p1), .val (.int p2), .val (.int (0 : Int32)), .val (.ref aN), .val (.int ((XT.ushr p2 (1 : Int32)) &&& (3 : Int32))), .val (.int (0 : Int32)), .unset, .unset, .unset, .unset, .unset, .unset, .unset, .unset] [(.int (0 : Int32))]))
        refine Goes.st (fun t k => XS.istore X2.here hx rfl (hb hby at_60) rfl (l' := #[.val (.int p0), .val (.int p1), .val (.int p2), .val (.int (0 : Int32)), .val (.ref aN), .val (.int ((XT.ushr p2 (1 : Int32)) &&& (3 : Int32))), .val (.int (0 : Int32)), .val (.int (0 : Int32)), .unset, .unset, .unset, .unset, .unset, .unset, .unset]) rfl k) ?_
        show Goes p e below s _ _ _ (T2.setTop (mkF m 62 #[.val (.int p0), .val (.int p1), .val (.int p2), .val (.int (0 : Int32)), .val (.ref aN), .val (.int ((XT.ushr p2 (1 : Int32)) &&& (3 : Int32))), .val (.int (0 : Int32)), .val (.int (0 : Int32)), .unset, .unset, .unset, .unset, .unset, .unset, .unset] []))
        refine Goes.st (fun t k => XS.iloadN X2.here hx rfl (hb hby at_62) rfl k) ?_
        show Goes p e below s _ _ _ (T2.setTop (mkF m 63 #[.val (.int p0), .val (.int p1), .val (.int p2), .val (.int (0 : Int32)), .val (.ref aN), .val (.int ((XT.ushr p2 (1 : Int32)) &&& (3 : Int32))), .val (.int (0 : Int32)), .val (.int (0 : Int32)), .unset, .unset, .unset, .unset, .unset, .unset, .unset] [(.int (0 : Int32))]))
        refine Goes.st (fun t k => XS.ifYes X2.here hx rfl (pc0 := 63) (pc' := 72) rfl (hb hby at_63) rfl (by decide) (by decide) (by decide) k) ?_
        show Goes p e below s _ _ _ (T2.setTop (mkF m 72 #[.val (.int p0), .val (.int p1), .val (.int p2), .val (.int (0 : Int32)), .val (.ref aN), .val (.int ((XT.ushr p2 (1 : Int32)) &&& (3 : Int32))), .val (.int (0 : Int32)), .val (.int (0 : Int32)), .unset, .unset, .unset, .unset, .unset, .unset, .unset] []))
        refine Goes.st (fun t k => X2.ldc2DoubleC hx hown (mvT hZ (hw _ (List.mem_of_getElem? (i := 3) rfl))) (g := (mkF m 72 #[.val (.int p0), .val (.int p1), .val (.int p2), .val (.int (0 : Int32)), .val (.ref aN), .val (.int ((XT.ushr p2 (1 : Int32)) &&& (3 : Int32))), .val (.int (0 : Int32)), .val (.int (0 : Int32)), .unset, .unset, .unset, .unset, .unset, .unset, .unset] [])) rfl (hb hby at_72) t k) ?_
        show Goes p e below s _ _ _ (T2.setTop (mkF m 75 #[.val (.int p0), .val (.int p1), .val (.int p2), .val (.int (0 : Int32)), .val (.ref aN), .val (.int ((XT.ushr p2 (1 : Int32)) &&& (3 : Int32))), .val (.int (0 : Int32)), .val (.int (0 : Int32)), .unset, .unset, .unset, .unset, .unset, .unset, .unset] [(.double (9218868437227405312 : UInt64))]))
        refine Goes.st (fun t k => XS.dstore X2.here hx rfl (hb hby at_75) rfl (l' := #[.val (.int p0), .val (.int p1), .val (.int p2), .val (.int (0 : Int32)), .val (.ref aN), .val (.int ((XT.ushr p2 (1 : Int32)) &&& (3 : Int32))), .val (.int (0 : Int32)), .val (.int (0 : Int32)), .val (.double (9218868437227405312 : UInt64)), .second, .unset, .unset, .unset, .unset, .unset]) rfl k) ?_
        show Goes p e below s _ _ _ (T2.setTop (mkF m 77 #[.val (.int p0), .val (.int p1), .val (.int p2), .val (.int (0 : Int32)), .val (.ref aN), .val (.int ((XT.ushr p2 (1 : Int32)) &&& (3 : Int32))), .val (.int (0 : Int32)), .val (.int (0 : Int32)), .val (.double (9218868437227405312 : UInt64)), .second, .unset, .unset, .unset, .unset, .unset] []))
        refine Goes.st (fun t k => XS.iload X2.here hx rfl (hb hby at_77) rfl k) ?_
        show Goes p e below s _ _ _ (T2.setTop (mkF m 79 #[.val (.int p0), .val (.int p1), .val (.int p2), .val (.int (0 : Int32)), .val (.ref aN), .val (.int ((XT.ushr p2 (1 : Int32)) &&& (3 : Int32))), .val (.int (0 : Int32)), .val (.int (0 : Int32)), .val (.double (9218868437227405312 : UInt64)), .second, .unset, .unset, .unset, .unset, .unset] [(.int (0 : Int32))]))
        refine Goes.st (fun t k => XS.ifYes X2.here hx rfl (pc0 := 79) (pc' := 87) rfl (hb hby at_79) rfl (by decide) (by decide) (by decide) k) ?_
        show Goes p e below s _ _ _ (T2.setTop (mkF m 87 #[.val (.int p0), .val (.int p1), .val (.int p2), .val (.int (0 : Int32)), .val (.ref aN), .val (.int ((XT.ushr p2 (1 : Int32)) &&& (3 : Int32))), .val (.int (0 : Int32)), .val (.int (0 : Int32)), .val (.double (9218868437227405312 : UInt64)), .second, .unset, .unset, .unset, .unset, .unset] []))
        refine Goes.st (fun t k => XS.iloadN X2.here hx rfl (hb hby at_87) rfl k) ?_
        show Goes p e below s _ _ _ (T2.setTop (mkF m 88 #[.val (.int p0), .val (.int p1), .val (.int p2), .val (.int (0 : Int32)), .val (.ref aN), .val (.int ((XT.ushr p2 (1 : Int32)) &&& (3 : Int32))), .val (.int (0 : Int32)), .val (.int (0 : Int32)), .val (.double (9218868437227405312 : UInt64)), .second, .unset, .unset, .unset, .unset, .unset] [(.int p0)]))
        refine Goes.st (fun t k => XS.i2dS X2.here hx rfl (hb hby at_88) rfl (v := (FP.i2d p0)) rfl k) ?_
        show Goes p e below s _ _ _ (T2.setTop (mkF m 89 #[.val (.int p0), .val (.int p1), .val (.int p2), .val (.int (0 : Int32)), .val (.ref aN), .val (.int ((XT.ushr p2 (1 : Int32)) &&& (3 : Int32))), .val (.int (0 : Int32)), .val (.int (0 : Int32)), .val (.double (9218868437227405312 : UInt64)), .second, .unset, .unset, .unset, .unset, .unset] [(.double (FP.i2d p0))]))
        refine Goes.st (fun t k => XS.dstore X2.here hx rfl (hb hby at_89) rfl (l' := #[.val (.int p0), .val (.int p1), .val (.int p2), .val (.int (0 : Int32)), .val (.ref aN), .val (.int ((XT.ushr p2 (1 : Int32)) &&& (3 : Int32))), .val (.int (0 : Int32)), .val (.int (0 : Int32)), .val (.double (9218868437227405312 : UInt64)), .second, .val (.double (FP.i2d p0)), .second, .unset, .unset, .unset]) rfl k) ?_
        show Goes p e below s _ _ _ (T2.setTop (mkF m 91 #[.val (.int p0), .val (.int p1), .val (.int p2), .val (.int (0 : Int32)), .val (.ref aN), .val (.int ((XT.ushr p2 (1 : Int32)) &&& (3 : Int32))), .val (.int (0 : Int32)), .val (.int (0 : Int32)), .val (.double (9218868437227405312 : UInt64)), .second, .val (.double (FP.i2d p0)), .second, .unset, .unset, .unset] []))
        refine Goes.st (fun t k => XS.iload X2.here hx rfl (hb hby at_91) rfl k) ?_
        show Goes p e below s _ _ _ (T2.setTop (mkF m 93 #[.val (.int p0), .val (.int p1), .val (.int p2), .val (.int (0 : Int32)), .val (.ref aN), .val (.int ((XT.ushr p2 (1 : Int32)) &&& (3 : Int32))), .val (.int (0 : Int32)), .val (.int (0 : Int32)), .val (.double (9218868437227405312 : UInt64)), .second, .val (.double (FP.i2d p0)), .second, .unset, .unset, .unset] [(.int (0 : Int32))]))
        refine Goes.st (fun t k => XS.ifYes X2.here hx rfl (pc0 := 93) (pc' := 101) rfl (hb hby at_93) rfl (by decide) (by decide) (by decide) k) ?_
        show Goes p e below s _ _ _ (T2.setTop (mkF m 101 #[.val (.int p0), .val (.int p1), .val (.int p2), .val (.int (0 : Int32)), .val (.ref aN), .val (.int ((XT.ushr p2 (1 : Int32)) &&& (3 : Int32))), .val (.int (0 : Int32)), .val (.int (0 : Int32)), .val (.double (9218868437227405312 : UInt64)), .second, .val (.double (FP.i2d p0)), .second, .unset, .unset, .unset] []))
        refine Goes.st (fun t k => XS.iloadN X2.here hx rfl (hb hby at_101) rfl k) ?_
        show Goes p e below s _ _ _ (T2.setTop (mkF m 102 #[.val (.int p0), .val (.int p1), .val (.int p2), .val (.int (0 : Int32)), .val (.ref aN), .val (.int ((XT.ushr p2 (1 : Int32)) &&& (3 : Int32))), .val (.int (0 : Int32)), .val (.int (0 : Int32)), .val (.double (9218868437227405312 : UInt64)), .second, .val (.double (FP.i2d p0)), .second, .unset, .unset, .unset] [(.int p1)]))
        refine Goes.st (fun t k => XS.i2dS X2.here hx rfl (hb hby at_102) rfl (v := (FP.i2d p1)) rfl k) ?_
        show Goes p e below s _ _ _ (T2.setTop (mkF m 103 #[.val (.int p0), .val (.int p1), .val (.int p2), .val (.int (0 : Int32)), .val (.ref aN), .val (.int ((XT.ushr p2 (1 : Int32)) &&& (3 : Int32))), .val (.int (0 : Int32)), .val (.int (0 : Int32)), .val (.double (9218868437227405312 : UInt64)), .second, .val (.double (FP.i2d p0)), .second, .unset, .unset, .unset] [(.double (FP.i2d p1))]))
        refine Goes.st (fun t k => XS.dstore X2.here hx rfl (hb hby at_103) rfl (l' := #[.val (.int p0), .val (.int p1), .val (.int p2), .val (.int (0 : Int32)), .val (.ref aN), .val (.int ((XT.ushr p2 (1 : Int32)) &&& (3 : Int32))), .val (.int (0 : Int32)), .val (.int (0 : Int32)), .val (.double (9218868437227405312 : UInt64)), .second, .val (.double (FP.i2d p0)), .second, .val (.double (FP.i2d p1)), .second, .unset]) rfl k) ?_
        show Goes p e below s _ _ _ (T2.setTop (mkF m 105 #[.val (.int p0), .val (.int p1), .val (.int p2), .val (.int (0 : Int32)), .val (.ref aN), .val (.int ((XT.ushr p2 (1 : Int32)) &&& (3 : Int32))), .val (.int (0 : Int32)), .val (.int (0 : Int32)), .val (.double (9218868437227405312 : UInt64)), .second, .val (.double (FP.i2d p0)), .second, .val (.double (FP.i2d p1)), .second, .unset] []))
        refine Goes.st (fun t k => XS.iload X2.here hx rfl (hb hby at_105) rfl k) ?_
        show Goes p e below s _ _ _ (T2.setTop (mkF m 107 #[.val (.int p0), .val (.int p1), .val (.int p2), .val (.int (0 : Int32)), .val (.ref aN), .val (.int ((XT.ushr p2 (1 : Int32)) &&& (3 : Int32))), .val (.int (0 : Int32)), .val (.int (0 : Int32)), .val (.double (9218868437227405312 : UInt64)), .second, .val (.double (FP.i2d p0)), .second, .val (.double (FP.i2d p1)), .second, .unset] [(.int (0 : Int32))]))
        refine Goes.st (fun t k => XS.ifYes X2.here hx rfl (pc0 := 107) (pc' := 116) rfl (hb hby at_107) rfl (by decide) (by decide) (by decide) k) ?_
        show Goes p e below s _ _ _ (T2.setTop (mkF m 116 #[.val (.int p0), .val (.int p1), .val (.int p2), .val (.int (0 : Int32)), .val (.ref aN), .val (.int ((XT.ushr p2 (1 : Int32)) &&& (3 : Int32))), .val (.int (0 : Int32)), .val (.int (0 : Int32)), .val (.double (9218868437227405312 : UInt64)), .second, .val (.double (FP.i2d p0)), .second, .val (.double (FP.i2d p1)), .second, .unset] []))
        refine Goes.st (fun t k => XS.iload X2.here hx rfl (hb hby at_116) rfl k) ?_
        show Goes p e below s _ _ _ (T2.setTop (mkF m 118 #[.val (.int p0), .val (.int p1), .val (.int p2), .val (.int (0 : Int32)), .val (.ref aN), .val (.int ((XT.ushr p2 (1 : Int32)) &&& (3 : Int32))), .val (.int (0 : Int32)), .val (.int (0 : Int32)), .val (.double (9218868437227405312 : UInt64)), .second, .val (.double (FP.i2d p0)), .second, .val (.double (FP.i2d p1)), .second, .unset] [(.int (0 : Int32))]))
        refine Goes.st (fun t k => XS.ifYes X2.here hx rfl (pc0 := 118) (pc' := 127) rfl (hb hby at_118) rfl (by decide) (by decide) (by decide) k) ?_
        show Goes p e below s _ _ _ (T2.setTop (mkF m 127 #[.val (.int p0), .val (.int p1), .val (.int p2), .val (.int (0 : Int32)), .val (.ref aN), .val (.int ((XT.ushr p2 (1 : Int32)) &&& (3 : Int32))), .val (.int (0 : Int32)), .val (.int (0 : Int32)), .val (.double (9218868437227405312 : UInt64)), .second, .val (.double (FP.i2d p0)), .second, .val (.double (FP.i2d p1)), .second, .unset] []))
        refine Goes.st (fun t k => XS.iloadN X2.here hx rfl (hb hby at_127) rfl k) ?_
        show Goes p e below s _ _ _ (T2.setTop (mkF m 128 #[.val (.int p0), .val (.int p1), .val (.int p2), .val (.int (0 : Int32)), .val (.ref aN), .val (.int ((XT.ushr p2 (1 : Int32)) &&& (3 : Int32))), .val (.int (0 : Int32)), .val (.int (0 : Int32)), .val (.double (9218868437227405312 : UInt64)), .second, .val (.double (FP.i2d p0)), .second, .val (.double (FP.i2d p1)), .second, .unset] [(.int (0 : Int32))]))
        refine Goes.st (fun t k => XS.ifYes X2.here hx rfl (pc0 := 128) (pc' := 146) rfl (hb hby at_128) rfl (by decide) (by decide) (by decide) k) ?_
        show Goes p e below s _ _ _ (T2.setTop (mkF m 146 #[.val (.int p0), .val (.int p1), .val (.int p2), .val (.int (0 : Int32)), .val (.ref aN), .val (.int ((XT.ushr p2 (1 : Int32)) &&& (3 : Int32))), .val (.int (0 : Int32)), .val (.int (0 : Int32)), .val (.double (9218868437227405312 : UInt64)), .second, .val (.double (FP.i2d p0)), .second, .val (.double (FP.i2d p1)), .second, .unset] []))
        refine Goes.st (fun t k => XS.iloadN X2.here hx rfl (hb hby at_146) rfl k) ?_
        show Goes p e below s _ _ _ (T2.setTop (mkF m 147 #[.val (.int p0), .val (.int p1), .val (.int p2), .val (.int (0 : Int32)), .val (.ref aN), .val (.int ((XT.ushr p2 (1 : Int32)) &&& (3 : Int32))), .val (.int (0 : Int32)), .val (.int (0 : Int32)), .val (.double (9218868437227405312 : UInt64)), .second, .val (.double (FP.i2d p0)), .second, .val (.double (FP.i2d p1)), .second, .unset] [(.int p1)]))
        refine Goes.st (fun t k => XS.iloadN X2.here hx rfl (hb hby at_147) rfl k) ?_
        show Goes p e below s _ _ _ (T2.setTop (mkF m 148 #[.val (.int p0), .val (.int p1), .val (.int p2), .val (.int (0 : Int32)), .val (.ref aN), .val (.int ((XT.ushr p2 (1 : Int32)) &&& (3 : Int32))), .val (.int (0 : Int32)), .val (.int (0 : Int32)), .val (.double (9218868437227405312 : UInt64)), .second, .val (.double (FP.i2d p0)), .second, .val (.double (FP.i2d p1)), .second, .unset] [(.int p0), (.int p1)]))
        by_cases c5 : p0 < p1
        · refine Goes.st (fun t k => XS.icmpNo X2.here hx rfl (hb hby at_148) rfl (tlt c5).2.2.2 k) ?_
          show Goes p e below s _ _ _ (T2.setTop (mkF m 151 #[.val (.int p0), .val (.int p1), .val (.int p2), .val (.int (0 : Int32)), .val (.ref aN), .val (.int ((XT.ushr p2 (1 : Int32)) &&& (3 : Int32))), .val (.int (0 : Int32)), .val (.int (0 : Int32)), .val (.double (9218868437227405312 : UInt64)), .second, .val (.double (FP.i2d p0)), .second, .val (.double (FP.i2d p1)), .second, .unset] []))
          refine Goes.st (fun t k => XS.iconst X2.here hx rfl (hb hby at_151) k) ?_
          show Goes p e below s _ _ _ (T2.setTop (mkF m 152 #[.val (.int p0), .val (.int p1), .val (.int p2), .val (.int (0 : Int32)), .val (.ref aN), .val (.int ((XT.ushr p2 (1 : Int32)) &&& (3 : Int32))), .val (.int (0 : Int32)), .val (.int (0 : Int32)), .val (.double (9218868437227405312 : UInt64)), .second, .val (.double (FP.i2d p0)), .second, .val (.double (FP.i2d p1)), .second, .unset] [(.int (1 : Int32))]))
          refine Goes.st (fun t k => XS.goto X2.here hx rfl (pc0 := 152) (pc' := 156) rfl (hb hby at_152) (by decide) (by decide) k) ?_
          show Goes p e below s _ _ _ (T2.setTop (mkF m 156 #[.val (.int p0), .val (.int p1), .val (.int p2), .val (.int (0 : Int32)), .val (.ref aN), .val (.int ((XT.ushr p2 (1 : Int32)) &&& (3 : Int32))), .val (.int (0 : Int32)), .val (.int (0 : Int32)), .val (.double (9218868437227405312 : UInt64)), .second, .val (.double (FP.i2d p0)), .second, .val (.double (FP.i2d p1)), .second, .unset] [(.int (1 : Int32))]))
          refine Goes.st (fun t k => XS.istore X2.here hx rfl (hb hby at_156) rfl (l' := #[.val (.int p0), .val (.int p1), .val (.int p2), .val (.int (0 : Int32)), .val (.ref aN), .val (.int ((XT.ushr p2 (1 : Int32)) &&& (3 : Int32))), .val (.int (0 : Int32)), .val (.int (0 : Int32)), .val (.double (9218868437227405312 : UInt64)), .second, .val (.double (FP.i2d p0)), .second, .val (.double (FP.i2d p1)), .second, .val (.int (1 : Int32))]) rfl k) ?_
          show Goes p e below s _ _ _ (T2.setTop (mkF m 158 #[.val (.int p0), .val (.int p1), .val (.int p2), .val (.int (0 : Int32)), .val (.ref aN), .val (.int ((XT.ushr p2 (1 : Int32)) &&& (3 : Int32))), .val (.int (0 : Int32)), .val (.int (0 : Int32)), .val (.double (9218868437227405312 : UInt64)), .second, .val (.double (FP.i2d p0)), .second, .val (.double (FP.i2d p1)), .second, .val (.int (1 : Int32))] []))
          refine Goes.st (fun t k => XS.aload X2.here hx rfl (hb hby at_158) rfl rfl k) ?_
          show Goes p e below s _ _ _ (T2.setTop (mkF m 160 #[.val (.int p0), .val (.int p1), .val (.int p2), .val (.int (0 : Int32)), .val (.ref aN), .val (.int ((XT.ushr p2 (1 : Int32)) &&& (3 : Int32))), .val (.int (0 : Int32)), .val (.int (0 : Int32)), .val (.double (9218868437227405312 : UInt64)), .second, .val (.double (FP.i2d p0)), .second, .val (.double (FP.i2d p1)), .second, .val (.int (1 : Int32))] [(.ref aN)]))
          refine Goes.st (fun t k => XS.dload X2.here hx rfl (hb hby at_160) rfl k) ?_
          show Goes p e below s _ _ _ (T2.setTop (mkF m 162 #[.val (.int p0), .val (.int p1), .val (.int p2), .val (.int (0 : Int32)), .val (.ref aN), .val (.int ((XT.ushr p2 (1 : Int32)) &&& (3 : Int32))), .val (.int (0 : Int32)), .val (.int (0 : Int32)), .val (.double (9218868437227405312 : UInt64)), .second, .val (.double (FP.i2d p0)), .second, .val (.double (FP.i2d p1)), .second, .val (.int (1 : Int32))] [(.double (FP.i2d p0)), (.ref aN)]))
          refine Goes.st (fun t k => XS.dload X2.here hx rfl (hb hby at_162) rfl k) ?_
          show Goes p e below s _ _ _ (T2.setTop (mkF m 164 #[.val (.int p0), .val (.int p1), .val (.int p2), .val (.int (0 : Int32)), .val (.ref aN), .val (.int ((XT.ushr p2 (1 : Int32)) &&& (3 : Int32))), .val (.int (0 : Int32)), .val (.int (0 : Int32)), .val (.double (9218868437227405312 : UInt64)), .second, .val (.double (FP.i2d p0)), .second, .val (.double (FP.i2d p1)), .second, .val (.int (1 : Int32))] [(.double (FP.i2d p1)), (.double (FP.i2d p0)), (.ref aN)]))
          obtain ⟨cq6, kq6, qa6, qb6, qc6⟩ := isOf hZ e2 E2
          obtain ⟨_, _, ⟨T6, L6, k6, n6⟩, -, X6, ⟨Lc6, hQ6, l6, y6, z6⟩, st6⟩ := X2.virtualBack hx (y := (⟨"com/example/parley/parley/Objective", "isBetter", "(DD)Z"⟩ : MethodName)) (z := (⟨"com/example/parley/parley/Objective", "isBetter", "(DD)Z"⟩ : MethodName)) hown (mvT hZ (hw _ (List.mem_of_getElem? (i := 4) rfl))) (mvT hZ (hw _ (List.mem_of_getElem? (i := 5) rfl))) (notFace_of_selects (args := #[]) (mvT hZ (hw _ (List.mem_of_getElem? (i := 7) rfl)))) (mvT hZ (hw _ (List.mem_of_getElem? (i := 7) rfl))) (mvT hZ (hw _ (List.mem_of_getElem? (i := 6) rfl))) (by decide) (backOf (W := 0) (rmB l Z a0 hw [] aN (FP.i2d p0) (FP.i2d p1) aM h0 n0 Z0 S1) hZ (hw _ (List.mem_of_getElem? (i := 8) rfl)) (hw _ (List.mem_of_getElem? (i := 1) rfl)) (by decide) (by decide)) qa6 qc6 (g := (mkF m 164 #[.val (.int p0), .val (.int p1), .val (.int p2), .val (.int (0 : Int32)), .val (.ref aN), .val (.int ((XT.ushr p2 (1 : Int32)) &&& (3 : Int32))), .val (.int (0 : Int32)), .val (.int (0 : Int32)), .val (.double (9218868437227405312 : UInt64)), .second, .val (.double (FP.i2d p0)), .second, .val (.double (FP.i2d p1)), .second, .val (.int (1 : Int32))] [(.double (FP.i2d p1)), (.double (FP.i2d p0)), (.ref aN)])) rfl (by rw [hml]; rfl) (Steps.refl _) (argsL := [(.double (FP.i2d p0)), (.double (FP.i2d p1))]) (rest := []) (lenOf pd__DD_Z_b14 rfl) rfl (by show 2 * 0 + _ ≤ _; exact Nat.le_of_eq rfl) (hb hby at_164) (fun _ _ => ⟨rfl, e2, (by decide : 0 + 0 ≤ 0), (by decide : 0 + 0 ≤ 0)⟩)
          dsimp only [Pt.U, Pt.locs, Pt.cells, Pt.slots] at X6 l6 y6 z6 st6 hQ6
          subst l6 y6 z6
          obtain ⟨rfl, N6q, eh6⟩ := hQ6
          have r6 : isB aN aM (FP.i2d p0) (FP.i2d p1) = (1 : Int32) := (own_minI hne p0 p1).trans (if_pos c5)
          rw [r6] at st6
          have N6 := Fr.app N0 N6q
          refine Goes.sts st6 ?_
          show Goes p e below s _ _ _ (T6.setTop (mkF m 167 #[.val (.int p0), .val (.int p1), .val (.int p2), .val (.int (0 : Int32)), .val (.ref aN), .val (.int ((XT.ushr p2 (1 : Int32)) &&& (3 : Int32))), .val (.int (0 : Int32)), .val (.int (0 : Int32)), .val (.double (9218868437227405312 : UInt64)), .second, .val (.double (FP.i2d p0)), .second, .val (.double (FP.i2d p1)), .second, .val (.int (1 : Int32))] [(.int (1 : Int32))]))
          refine Goes.st (fun t k => XS.iload X6.here hx rfl (hb hby at_167) rfl k) ?_
          show Goes p e below s _ _ _ (T6.setTop (mkF m 169 #[.val (.int p0), .val (.int p1), .val (.int p2), .val (.int (0 : Int32)), .val (.ref aN), .val (.int ((XT.ushr p2 (1 : Int32)) &&& (3 : Int32))), .val (.int (0 : Int32)), .val (.int (0 : Int32)), .val (.double (9218868437227405312 : UInt64)), .second, .val (.double (FP.i2d p0)), .second, .val (.double (FP.i2d p1)), .second, .val (.int (1 : Int32))] [(.int (1 : Int32)), (.int (1 : Int32))]))
          refine Goes.st (fun t k => XS.icmpNo X6.here hx rfl (hb hby at_169) rfl (by decide) k) ?_
          show Goes p e below s _ _ _ (T6.setTop (mkF m 172 #[.val (.int p0), .val (.int p1), .val (.int p2), .val (.int (0 : Int32)), .val (.ref aN), .val (.int ((XT.ushr p2 (1 : Int32)) &&& (3 : Int32))), .val (.int (0 : Int32)), .val (.int (0 : Int32)), .val (.double (9218868437227405312 : UInt64)), .second, .val (.double (FP.i2d p0)), .second, .val (.double (FP.i2d p1)), .second, .val (.int (1 : Int32))] []))
          refine Goes.st (fun t k => XS.iconst X6.here hx rfl (hb hby at_172) k) ?_
          show Goes p e below s _ _ _ (T6.setTop (mkF m 173 #[.val (.int p0), .val (.int p1), .val (.int p2), .val (.int (0 : Int32)), .val (.ref aN), .val (.int ((XT.ushr p2 (1 : Int32)) &&& (3 : Int32))), .val (.int (0 : Int32)), .val (.int (0 : Int32)), .val (.double (9218868437227405312 : UInt64)), .second, .val (.double (FP.i2d p0)), .second, .val (.double (FP.i2d p1)), .second, .val (.int (1 : Int32))] [(.int (1 : Int32))]))
          refine Goes.st (fun t k => XS.goto X6.here hx rfl (pc0 := 173) (pc' := 177) rfl (hb hby at_173) (by decide) (by decide) k) ?_
          show Goes p e below s _ _ _ (T6.setTop (mkF m 177 #[.val (.int p0), .val (.int p1), .val (.int p2), .val (.int (0 : Int32)), .val (.ref aN), .val (.int ((XT.ushr p2 (1 : Int32)) &&& (3 : Int32))), .val (.int (0 : Int32)), .val (.int (0 : Int32)), .val (.double (9218868437227405312 : UInt64)), .second, .val (.double (FP.i2d p0)), .second, .val (.double (FP.i2d p1)), .second, .val (.int (1 : Int32))] [(.int (1 : Int32))]))
          refine Goes.retN X6 hx hlk hret (by simp) (hb hby at_177) (by decide) ?_ (by decide) (by decide)
          rw [eh6]
          exact ⟨rfl, N6⟩
        · refine Goes.st (fun t k => XS.icmpYes X2.here hx rfl (pc0 := 148) (pc' := 155) rfl (hb hby at_148) rfl (flt c5).2.2.2 (by decide) (by decide) k) ?_
          show Goes p e below s _ _ _ (T2.setTop (mkF m 155 #[.val (.int p0), .val (.int p1), .val (.int p2), .val (.int (0 : Int32)), .val (.ref aN), .val (.int ((XT.ushr p2 (1 : Int32)) &&& (3 : Int32))), .val (.int (0 : Int32)), .val (.int (0 : Int32)), .val (.double (9218868437227405312 : UInt64)), .second, .val (.double (FP.i2d p0)), .second, .val (.double (FP.i2d p1)), .second, .unset] []))
          refine Goes.st (fun t k => XS.iconst X2.here hx rfl (hb hby at_155) k) ?_
          show Goes p e below s _ _ _ (T2.setTop (mkF m 156 #[.val (.int p0), .val (.int p1), .val (.int p2), .val (.int (0 : Int32)), .val (.ref aN), .val (.int ((XT.ushr p2 (1 : Int32)) &&& (3 : Int32))), .val (.int (0 : Int32)), .val (.int (0 : Int32)), .val (.double (9218868437227405312 : UInt64)), .second, .val (.double (FP.i2d p0)), .second, .val (.double (FP.i2d p1)), .second, .unset] [(.int (0 : Int32))]))
          refine Goes.st (fun t k => XS.istore X2.here hx rfl (hb hby at_156) rfl (l' := #[.val (.int p0), .val (.int p1), .val (.int p2), .val (.int (0 : Int32)), .val (.ref aN), .val (.int ((XT.ushr p2 (1 : Int32)) &&& (3 : Int32))), .val (.int (0 : Int32)), .val (.int (0 : Int32)), .val (.double (9218868437227405312 : UInt64)), .second, .val (.double (FP.i2d p0)), .second, .val (.double (FP.i2d p1)), .second, .val (.int (0 : Int32))]) rfl k) ?_
          show Goes p e below s _ _ _ (T2.setTop (mkF m 158 #[.val (.int p0), .val (.int p1), .val (.int p2), .val (.int (0 : Int32)), .val (.ref aN), .val (.int ((XT.ushr p2 (1 : Int32)) &&& (3 : Int32))), .val (.int (0 : Int32)), .val (.int (0 : Int32)), .val (.double (9218868437227405312 : UInt64)), .second, .val (.double (FP.i2d p0)), .second, .val (.double (FP.i2d p1)), .second, .val (.int (0 : Int32))] []))
          refine Goes.st (fun t k => XS.aload X2.here hx rfl (hb hby at_158) rfl rfl k) ?_
          show Goes p e below s _ _ _ (T2.setTop (mkF m 160 #[.val (.int p0), .val (.int p1), .val (.int p2), .val (.int (0 : Int32)), .val (.ref aN), .val (.int ((XT.ushr p2 (1 : Int32)) &&& (3 : Int32))), .val (.int (0 : Int32)), .val (.int (0 : Int32)), .val (.double (9218868437227405312 : UInt64)), .second, .val (.double (FP.i2d p0)), .second, .val (.double (FP.i2d p1)), .second, .val (.int (0 : Int32))] [(.ref aN)]))
          refine Goes.st (fun t k => XS.dload X2.here hx rfl (hb hby at_160) rfl k) ?_
          show Goes p e below s _ _ _ (T2.setTop (mkF m 162 #[.val (.int p0), .val (.int p1), .val (.int p2), .val (.int (0 : Int32)), .val (.ref aN), .val (.int ((XT.ushr p2 (1 : Int32)) &&& (3 : Int32))), .val (.int (0 : Int32)), .val (.int (0 : Int32)), .val (.double (9218868437227405312 : UInt64)), .second, .val (.double (FP.i2d p0)), .second, .val (.double (FP.i2d p1)), .second, .val (.int (0 : Int32))] [(.double (FP.i2d p0)), (.ref aN)]))
          refine Goes.st (fun t k => XS.dload X2.here hx rfl (hb hby at_162) rfl k) ?_
          show Goes p e below s _ _ _ (T2.setTop (mkF m 164 #[.val (.int p0), .val (.int p1), .val (.int p2), .val (.int (0 : Int32)), .val (.ref aN), .val (.int ((XT.ushr p2 (1 : Int32)) &&& (3 : Int32))), .val (.int (0 : Int32)), .val (.int (0 : Int32)), .val (.double (9218868437227405312 : UInt64)), .second, .val (.double (FP.i2d p0)), .second, .val (.double (FP.i2d p1)), .second, .val (.int (0 : Int32))] [(.double (FP.i2d p1)), (.double (FP.i2d p0)), (.ref aN)]))
          obtain ⟨cq7, kq7, qa7, qb7, qc7⟩ := isOf hZ e2 E2
          obtain ⟨_, _, ⟨T7, L7, k7, n7⟩, -, X7, ⟨Lc7, hQ7, l7, y7, z7⟩, st7⟩ := X2.virtualBack hx (y := (⟨"com/example/parley/parley/Objective", "isBetter", "(DD)Z"⟩ : MethodName)) (z := (⟨"com/example/parley/parley/Objective", "isBetter", "(DD)Z"⟩ : MethodName)) hown (mvT hZ (hw _ (List.mem_of_getElem? (i := 4) rfl))) (mvT hZ (hw _ (List.mem_of_getElem? (i := 5) rfl))) (notFace_of_selects (args := #[]) (mvT hZ (hw _ (List.mem_of_getElem? (i := 7) rfl)))) (mvT hZ (hw _ (List.mem_of_getElem? (i := 7) rfl))) (mvT hZ (hw _ (List.mem_of_getElem? (i := 6) rfl))) (by decide) (backOf (W := 0) (rmB l Z a0 hw [] aN (FP.i2d p0) (FP.i2d p1) aM h0 n0 Z0 S1) hZ (hw _ (List.mem_of_getElem? (i := 8) rfl)) (hw _ (List.mem_of_getElem? (i := 1) rfl)) (by decide) (by decide)) qa7 qc7 (g := (mkF m 164 #[.val (.int p0), .val (.int p1), .val (.int p2), .val (.int (0 : Int32)), .val (.ref aN), .val (.int ((XT.ushr p2 (1 : Int32)) &&& (3 : Int32))), .val (.int (0 : Int32)), .val (.int (0 : Int32)), .val (.double (9218868437227405312 : UInt64)), .second, .val (.double (FP.i2d p0)), .second, .val (.double (FP.i2d p1)), .second, .val (.int (0 : Int32))] [(.double (FP.i2d p1)), (.double (FP.i2d p0)), (.ref aN)])) rfl (by rw [hml]; rfl) (Steps.refl _) (argsL := [(.double (FP.i2d p0)), (.double (FP.i2d p1))]) (rest := []) (lenOf pd__DD_Z_b14 rfl) rfl (by show 2 * 0 + _ ≤ _; exact Nat.le_of_eq rfl) (hb hby at_164) (fun _ _ => ⟨rfl, e2, (by decide : 0 + 0 ≤ 0), (by decide : 0 + 0 ≤ 0)⟩)
          dsimp only [Pt.U, Pt.locs, Pt.cells, Pt.slots] at X7 l7 y7 z7 st7 hQ7
          subst l7 y7 z7
          obtain ⟨rfl, N7q, eh7⟩ := hQ7
          have r7 : isB aN aM (FP.i2d p0) (FP.i2d p1) = (0 : Int32) := (own_minI hne p0 p1).trans (if_neg c5)
          rw [r7] at st7
          have N7 := Fr.app N0 N7q
          refine Goes.sts st7 ?_
          show Goes p e below s _ _ _ (T7.setTop (mkF m 167 #[.val (.int p0), .val (.int p1), .val (.int p2), .val (.int (0 : Int32)), .val (.ref aN), .val (.int ((XT.ushr p2 (1 : Int32)) &&& (3 : Int32))), .val (.int (0 : Int32)), .val (.int (0 : Int32)), .val (.double (9218868437227405312 : UInt64)), .second, .val (.double (FP.i2d p0)), .second, .val (.double (FP.i2d p1)), .second, .val (.int (0 : Int32))] [(.int (0 : Int32))]))
          refine Goes.st (fun t k => XS.iload X7.here hx rfl (hb hby at_167) rfl k) ?_
          show Goes p e below s _ _ _ (T7.setTop (mkF m 169 #[.val (.int p0), .val (.int p1), .val (.int p2), .val (.int (0 : Int32)), .val (.ref aN), .val (.int ((XT.ushr p2 (1 : Int32)) &&& (3 : Int32))), .val (.int (0 : Int32)), .val (.int (0 : Int32)), .val (.double (9218868437227405312 : UInt64)), .second, .val (.double (FP.i2d p0)), .second, .val (.double (FP.i2d p1)), .second, .val (.int (0 : Int32))] [(.int (0 : Int32)), (.int (0 : Int32))]))
          refine Goes.st (fun t k => XS.icmpNo X7.here hx rfl (hb hby at_169) rfl (by decide) k) ?_
          show Goes p e below s _ _ _ (T7.setTop (mkF m 172 #[.val (.int p0), .val (.int p1), .val (.int p2), .val (.int (0 : Int32)), .val (.ref aN), .val (.int ((XT.ushr p2 (1 : Int32)) &&& (3 : Int32))), .val (.int (0 : Int32)), .val (.int (0 : Int32)), .val (.double (9218868437227405312 : UInt64)), .second, .val (.double (FP.i2d p0)), .second, .val (.double (FP.i2d p1)), .second, .val (.int (0 : Int32))] []))
          refine Goes.st (fun t k => XS.iconst X7.here hx rfl (hb hby at_172) k) ?_
          show Goes p e below s _ _ _ (T7.setTop (mkF m 173 #[.val (.int p0), .val (.int p1), .val (.int p2), .val (.int (0 : Int32)), .val (.ref aN), .val (.int ((XT.ushr p2 (1 : Int32)) &&& (3 : Int32))), .val (.int (0 : Int32)), .val (.int (0 : Int32)), .val (.double (9218868437227405312 : UInt64)), .second, .val (.double (FP.i2d p0)), .second, .val (.double (FP.i2d p1)), .second, .val (.int (0 : Int32))] [(.int (1 : Int32))]))
          refine Goes.st (fun t k => XS.goto X7.here hx rfl (pc0 := 173) (pc' := 177) rfl (hb hby at_173) (by decide) (by decide) k) ?_
          show Goes p e below s _ _ _ (T7.setTop (mkF m 177 #[.val (.int p0), .val (.int p1), .val (.int p2), .val (.int (0 : Int32)), .val (.ref aN), .val (.int ((XT.ushr p2 (1 : Int32)) &&& (3 : Int32))), .val (.int (0 : Int32)), .val (.int (0 : Int32)), .val (.double (9218868437227405312 : UInt64)), .second, .val (.double (FP.i2d p0)), .second, .val (.double (FP.i2d p1)), .second, .val (.int (0 : Int32))] [(.int (1 : Int32))]))
          refine Goes.retN X7 hx hlk hret (by simp) (hb hby at_177) (by decide) ?_ (by decide) (by decide)
          rw [eh7]
          exact ⟨rfl, N7⟩
      · refine Goes.st (fun t k => XS.ifNo X2.here hx rfl (hb hby at_52) rfl ((if0 _ _).trans (feq c4).1) k) ?_
        show Goes p e below s _ _ _ (T2.setTop (mkF m 55 #[.val (.int p0), .val (.int p1), .val (.int p2), .val (.int (0 : Int32)), .val (.ref aN), .val (.int ((XT.ushr p2 (1 : Int32)) &&& (3 : Int32))), .val (.int (0 : Int32)), .unset, .unset, .unset, .unset, .unset, .unset, .unset, .unset] []))
        refine Goes.st (fun t k => XS.iconst X2.here hx rfl (hb hby at_55) k) ?_
        show Goes p e below s _ _ _ (T2.setTop (mkF m 56 #[.val (.int p0), .val (.int p1), .val (.int p2), .val (.int (0 : Int32)), .val (.ref aN), .val (.int ((XT.ushr p2 (1 : Int32)) &&& (3 : Int32))), .val (.int (0 : Int32)), .unset, .unset, .unset, .unset, .unset, .unset, .unset, .unset] [(.int (1 : Int32))]))
        refine Goes.st (fun t k => XS.goto X2.here hx rfl (pc0 := 56) (pc' := 60) rfl (hb hby at_56) (by decide) (by decide) k) ?_
        show Goes p e below s _ _ _ (T2.setTop (mkF m 60 #[.val (.int p0), .val (.int p1), .val (.int p2), .val (.int (0 : Int32)), .val (.ref aN), .val (.int ((XT.ushr p2 (1 : Int32)) &&& (3 : Int32))), .val (.int (0 : Int32)), .unset, .unset, .unset, .unset, .unset, .unset, .unset, .unset] [(.int (1 : Int32))]))
        refine Goes.st (fun t k => XS.istore X2.here hx rfl (hb hby at_60) rfl (l' := #[.val (.int p0), .val (.int p1), .val (.int p2), .val (.int (0 : Int32)), .val (.ref aN), .val (.int ((XT.ushr p2 (1 : Int32)) &&& (3 : Int32))), .val (.int (0 : Int32)), .val (.int (1 : Int32)), .unset, .unset, .unset, .unset, .unset, .unset, .unset]) rfl k) ?_
        show Goes p e below s _ _ _ (T2.setTop (mkF m 62 #[.val (.int p0), .val (.int p1), .val (.int p2), .val (.int (0 : Int32)), .val (.ref aN), .val (.int ((XT.ushr p2 (1 : Int32)) &&& (3 : Int32))), .val (.int (0 : Int32)), .val (.int (1 : Int32)), .unset, .unset, .unset, .unset, .unset, .unset, .unset] []))
        refine Goes.st (fun t k => XS.iloadN X2.here hx rfl (hb hby at_62) rfl k) ?_
        show Goes p e below s _ _ _ (T2.setTop (mkF m 63 #[.val (.int p0), .val (.int p1), .val (.int p2), .val (.int (0 : Int32)), .val (.ref aN), .val (.int ((XT.ushr p2 (1 : Int32)) &&& (3 : Int32))), .val (.int (0 : Int32)), .val (.int (1 : Int32)), .unset, .unset, .unset, .unset, .unset, .unset, .unset] [(.int (0 : Int32))]))
        refine Goes.st (fun t k => XS.ifYes X2.here hx rfl (pc0 := 63) (pc' := 72) rfl (hb hby at_63) rfl (by decide) (by decide) (by decide) k) ?_
        show Goes p e below s _ _ _ (T2.setTop (mkF m 72 #[.val (.int p0), .val (.int p1), .val (.int p2), .val (.int (0 : Int32)), .val (.ref aN), .val (.int ((XT.ushr p2 (1 : Int32)) &&& (3 : Int32))), .val (.int (0 : Int32)), .val (.int (1 : Int32)), .unset, .unset, .unset, .unset, .unset, .unset, .unset] []))
        refine Goes.st (fun t k => X2.ldc2DoubleC hx hown (mvT hZ (hw _ (List.mem_of_getElem? (i := 3) rfl))) (g := (mkF m 72 #[.val (.int p0), .val (.int p1), .val (.int p2), .val (.int (0 : Int32)), .val (.ref aN), .val (.int ((XT.ushr p2 (1 : Int32)) &&& (3 : Int32))), .val (.int (0 : Int32)), .val (.int (1 : Int32)), .unset, .unset, .unset, .unset, .unset, .unset, .unset] [])) rfl (hb hby at_72) t k) ?_
        show Goes p e below s _ _ _ (T2.setTop (mkF m 75 #[.val (.int p0), .val (.int p1), .val (.int p2), .val (.int (0 : Int32)), .val (.ref aN), .val (.int ((XT.ushr p2 (1 : Int32)) &&& (3 : Int32))), .val (.int (0 : Int32)), .val (.int (1 : Int32)), .unset, .unset, .unset, .unset, .unset, .unset, .unset] [(.double (9218868437227405312 : UInt64))]))
        refine Goes.st (fun t k => XS.dstore X2.here hx rfl (hb hby at_75) rfl (l' := #[.val (.int p0), .val (.int p1), .val (.int p2), .val (.int (0 : Int32)), .val (.ref aN), .val (.int ((XT.ushr p2 (1 : Int32)) &&& (3 : Int32))), .val (.int (0 : Int32)), .val (.int (1 : Int32)), .val (.double (9218868437227405312 : UInt64)), .second, .unset, .unset, .unset, .unset, .unset]) rfl k) ?_
        show Goes p e below s _ _ _ (T2.setTop (mkF m 77 #[.val (.int p0), .val (.int p1), .val (.int p2), .val (.int (0 : Int32)), .val (.ref aN), .val (.int ((XT.ushr p2 (1 : Int32)) &&& (3 : Int32))), .val (.int (0 : Int32)), .val (.int (1 : Int32)), .val (.double (9218868437227405312 : UInt64)), .second, .unset, .unset, .unset, .unset, .unset] []))
        refine Goes.st (fun t k => XS.iload X2.here hx rfl (hb hby at_77) rfl k) ?_
        show Goes p e below s _ _ _ (T2.setTop (mkF m 79 #[.val (.int p0), .val (.int p1), .val (.int p2), .val (.int (0 : Int32)), .val (.ref aN), .val (.int ((XT.ushr p2 (1 : Int32)) &&& (3 : Int32))), .val (.int (0 : Int32)), .val (.int (1 : Int32)), .val (.double (9218868437227405312 : UInt64)), .second, .unset, .unset, .unset, .unset, .unset] [(.int (0 : Int32))]))
        refine Goes.st (fun t k => XS.ifYes X2.here hx rfl (pc0 := 79) (pc' := 87) rfl (hb hby at_79) rfl (by decide) (by decide) (by decide) k) ?_
        show Goes p e below s _ _ _ (T2.setTop (mkF m 87 #[.val (.int p0), .val (.int p1), .val (.int p2), .val (.int (0 : Int32)), .val (.ref aN), .val (.int ((XT.ushr p2 (1 : Int32)) &&& (3 : Int32))), .val (.int (0 : Int32)), .val (.int (1 : Int32)), .val (.double (9218868437227405312 : UInt64)), .second, .unset, .unset, .unset, .unset, .unset] []))
        refine Goes.st (fun t k => XS.iloadN X2.here hx rfl (hb hby at_87) rfl k) ?_
        show Goes p e below s _ _ _ (T2.setTop (mkF m 88 #[.val (.int p0), .val (.int p1), .val (.int p2), .val (.int (0 : Int32)), .val (.ref aN), .val (.int ((XT.ushr p2 (1 : Int32)) &&& (3 : Int32))), .val (.int (0 : Int32)), .val (.int (1 : Int32)), .val (.double (9218868437227405312 : UInt64)), .second, .unset, .unset, .unset, .unset, .unset] [(.int p0)]))
        refine Goes.st (fun t k => XS.i2dS X2.here hx rfl (hb hby at_88) rfl (v := (FP.i2d p0)) rfl k) ?_
        show Goes p e below s _ _ _ (T2.setTop (mkF m 89 #[.val (.int p0), .val (.int p1), .val (.int p2), .val (.int (0 : Int32)), .val (.ref aN), .val (.int ((XT.ushr p2 (1 : Int32)) &&& (3 : Int32))), .val (.int (0 : Int32)), .val (.int (1 : Int32)), .val (.double (9218868437227405312 : UInt64)), .second, .unset, .unset, .unset, .unset, .unset] [(.double (FP.i2d p0))]))
        refine Goes.st (fun t k => XS.dstore X2.here hx rfl (hb hby at_89) rfl (l' := #[.val (.int p0), .val (.int p1), .val (.int p2), .val (.int (0 : Int32)), .val (.ref aN), .val (.int ((XT.ushr p2 (1 : Int32)) &&& (3 : Int32))), .val (.int (0 : Int32)), .val (.int (1 : Int32)), .val (.double (9218868437227405312 : UInt64)), .second, .val (.double (FP.i2d p0)), .second, .unset, .unset, .unset]) rfl k) ?_
        show Goes p e below s _ _ _ (T2.setTop (mkF m 91 #[.val (.int p0), .val (.int p1), .val (.int p2), .val (.int (0 : Int32)), .val (.ref aN), .val (.int ((XT.ushr p2 (1 : Int32)) &&& (3 : Int32))), .val (.int (0 : Int32)), .val (.int (1 : Int32)), .val (.double (9218868437227405312 : UInt64)), .second, .val (.double (FP.i2d p0)), .second, .unset, .unset, .unset] []))
        refine Goes.st (fun t k => XS.iload X2.here hx rfl (hb hby at_91) rfl k) ?_
        show Goes p e below s _ _ _ (T2.setTop (mkF m 93 #[.val (.int p0), .val (.int p1), .val (.int p2), .val (.int (0 : Int32)), .val (.ref aN), .val (.int ((XT.ushr p2 (1 : Int32)) &&& (3 : Int32))), .val (.int (0 : Int32)), .val (.int (1 : Int32)), .val (.double (9218868437227405312 : UInt64)), .second, .val (.double (FP.i2d p0)), .second, .unset, .unset, .unset] [(.int (1 : Int32))]))
        refine Goes.st (fun t k => XS.ifNo X2.here hx rfl (hb hby at_93) rfl (by decide) k) ?_
        show Goes p e below s _ _ _ (T2.setTop (mkF m 96 #[.val (.int p0), .val (.int p1), .val (.int p2), .val (.int (0 : Int32)), .val (.ref aN), .val (.int ((XT.ushr p2 (1 : Int32)) &&& (3 : Int32))), .val (.int (0 : Int32)), .val (.int (1 : Int32)), .val (.double (9218868437227405312 : UInt64)), .second, .val (.double (FP.i2d p0)), .second, .unset, .unset, .unset] []))
        refine Goes.st (fun t k => XS.dload X2.here hx rfl (hb hby at_96) rfl k) ?_
        show Goes p e below s _ _ _ (T2.setTop (mkF m 98 #[.val (.int p0), .val (.int p1), .val (.int p2), .val (.int (0 : Int32)), .val (.ref aN), .val (.int ((XT.ushr p2 (1 : Int32)) &&& (3 : Int32))), .val (.int (0 : Int32)), .val (.int (1 : Int32)), .val (.double (9218868437227405312 : UInt64)), .second, .val (.double (FP.i2d p0)), .second, .unset, .unset, .unset] [(.double (9218868437227405312 : UInt64))]))
        refine Goes.st (fun t k => XS.goto X2.here hx rfl (pc0 := 98) (pc' := 103) rfl (hb hby at_98) (by decide) (by decide) k) ?_
        show Goes p e below s _ _ _ (T2.setTop (mkF m 103 #[.val (.int p0), .val (.int p1), .val (.int p2), .val (.int (0 : Int32)), .val (.ref aN), .val (.int ((XT.ushr p2 (1 : Int32)) &&& (3 : Int32))), .val (.int (0 : Int32)), .val (.int (1 : Int32)), .val (.double (9218868437227405312 : UInt64)), .second, .val (.double (FP.i2d p0)), .second, .unset, .unset, .unset] [(.double (9218868437227405312 : UInt64))]))
        refine Goes.st (fun t k => XS.dstore X2.here hx rfl (hb hby at_103) rfl (l' := #[.val (.int p0), .val (.int p1), .val (.int p2), .val (.int (0 : Int32)), .val (.ref aN), .val (.int ((XT.ushr p2 (1 : Int32)) &&& (3 : Int32))), .val (.int (0 : Int32)), .val (.int (1 : Int32)), .val (.double (9218868437227405312 : UInt64)), .second, .val (.double (FP.i2d p0)), .second, .val (.double (9218868437227405312 : UInt64)), .second, .unset]) rfl k) ?_
        show Goes p e below s _ _ _ (T2.setTop (mkF m 105 #[.val (.int p0), .val (.int p1), .val (.int p2), .val (.int (0 : Int32)), .val (.ref aN), .val (.int ((XT.ushr p2 (1 : Int32)) &&& (3 : Int32))), .val (.int (0 : Int32)), .val (.int (1 : Int32)), .val (.double (9218868437227405312 : UInt64)), .second, .val (.double (FP.i2d p0)), .second, .val (.double (9218868437227405312 : UInt64)), .second, .unset] []))
        refine Goes.st (fun t k => XS.iload X2.here hx rfl (hb hby at_105) rfl k) ?_
        show Goes p e below s _ _ _ (T2.setTop (mkF m 107 #[.val (.int p0), .val (.int p1), .val (.int p2), .val (.int (0 : Int32)), .val (.ref aN), .val (.int ((XT.ushr p2 (1 : Int32)) &&& (3 : Int32))), .val (.int (0 : Int32)), .val (.int (1 : Int32)), .val (.double (9218868437227405312 : UInt64)), .second, .val (.double (FP.i2d p0)), .second, .val (.double (9218868437227405312 : UInt64)), .second, .unset] [(.int (0 : Int32))]))
        refine Goes.st (fun t k => XS.ifYes X2.here hx rfl (pc0 := 107) (pc' := 116) rfl (hb hby at_107) rfl (by decide) (by decide) (by decide) k) ?_
        show Goes p e below s _ _ _ (T2.setTop (mkF m 116 #[.val (.int p0), .val (.int p1), .val (.int p2), .val (.int (0 : Int32)), .val (.ref aN), .val (.int ((XT.ushr p2 (1 : Int32)) &&& (3 : Int32))), .val (.int (0 : Int32)), .val (.int (1 : Int32)), .val (.double (9218868437227405312 : UInt64)), .second, .val (.double (FP.i2d p0)), .second, .val (.double (9218868437227405312 : UInt64)), .second, .unset] []))
        refine Goes.st (fun t k => XS.iload X2.here hx rfl (hb hby at_116) rfl k) ?_
        show Goes p e below s _ _ _ (T2.setTop (mkF m 118 #[.val (.int p0), .val (.int p1), .val (.int p2), .val (.int (0 : Int32)), .val (.ref aN), .val (.int ((XT.ushr p2 (1 : Int32)) &&& (3 : Int32))), .val (.int (0 : Int32)), .val (.int (1 : Int32)), .val (.double (9218868437227405312 : UInt64)), .second, .val (.double (FP.i2d p0)), .second, .val (.double (9218868437227405312 : UInt64)), .second, .unset] [(.int (1 : Int32))]))
        refine Goes.st (fun t k => XS.ifNo X2.here hx rfl (hb hby at_118) rfl (by decide) k) ?_
        show Goes p e below s _ _ _ (T2.setTop (mkF m 121 #[.val (.int p0), .val (.int p1), .val (.int p2), .val (.int (0 : Int32)), .val (.ref aN), .val (.int ((XT.ushr p2 (1 : Int32)) &&& (3 : Int32))), .val (.int (0 : Int32)), .val (.int (1 : Int32)), .val (.double (9218868437227405312 : UInt64)), .second, .val (.double (FP.i2d p0)), .second, .val (.double (9218868437227405312 : UInt64)), .second, .unset] []))
        refine Goes.st (fun t k => XS.iconst X2.here hx rfl (hb hby at_121) k) ?_
        show Goes p e below s _ _ _ (T2.setTop (mkF m 122 #[.val (.int p0), .val (.int p1), .val (.int p2), .val (.int (0 : Int32)), .val (.ref aN), .val (.int ((XT.ushr p2 (1 : Int32)) &&& (3 : Int32))), .val (.int (0 : Int32)), .val (.int (1 : Int32)), .val (.double (9218868437227405312 : UInt64)), .second, .val (.double (FP.i2d p0)), .second, .val (.double (9218868437227405312 : UInt64)), .second, .unset] [(.int (1 : Int32))]))
        refine Goes.st (fun t k => XS.istore X2.here hx rfl (hb hby at_122) rfl (l' := #[.val (.int p0), .val (.int p1), .val (.int p2), .val (.int (0 : Int32)), .val (.ref aN), .val (.int ((XT.ushr p2 (1 : Int32)) &&& (3 : Int32))), .val (.int (0 : Int32)), .val (.int (1 : Int32)), .val (.double (9218868437227405312 : UInt64)), .second, .val (.double (FP.i2d p0)), .second, .val (.double (9218868437227405312 : UInt64)), .second, .val (.int (1 : Int32))]) rfl k) ?_
        show Goes p e below s _ _ _ (T2.setTop (mkF m 124 #[.val (.int p0), .val (.int p1), .val (.int p2), .val (.int (0 : Int32)), .val (.ref aN), .val (.int ((XT.ushr p2 (1 : Int32)) &&& (3 : Int32))), .val (.int (0 : Int32)), .val (.int (1 : Int32)), .val (.double (9218868437227405312 : UInt64)), .second, .val (.double (FP.i2d p0)), .second, .val (.double (9218868437227405312 : UInt64)), .second, .val (.int (1 : Int32))] []))
        refine Goes.st (fun t k => XS.goto X2.here hx rfl (pc0 := 124) (pc' := 158) rfl (hb hby at_124) (by decide) (by decide) k) ?_
        show Goes p e below s _ _ _ (T2.setTop (mkF m 158 #[.val (.int p0), .val (.int p1), .val (.int p2), .val (.int (0 : Int32)), .val (.ref aN), .val (.int ((XT.ushr p2 (1 : Int32)) &&& (3 : Int32))), .val (.int (0 : Int32)), .val (.int (1 : Int32)), .val (.double (9218868437227405312 : UInt64)), .second, .val (.double (FP.i2d p0)), .second, .val (.double (9218868437227405312 : UInt64)), .second, .val (.int (1 : Int32))] []))
        refine Goes.st (fun t k => XS.aload X2.here hx rfl (hb hby at_158) rfl rfl k) ?_
        show Goes p e below s _ _ _ (T2.setTop (mkF m 160 #[.val (.int p0), .val (.int p1), .val (.int p2), .val (.int (0 : Int32)), .val (.ref aN), .val (.int ((XT.ushr p2 (1 : Int32)) &&& (3 : Int32))), .val (.int (0 : Int32)), .val (.int (1 : Int32)), .val (.double (9218868437227405312 : UInt64)), .second, .val (.double (FP.i2d p0)), .second, .val (.double (9218868437227405312 : UInt64)), .second, .val (.int (1 : Int32))] [(.ref aN)]))
        refine Goes.st (fun t k => XS.dload X2.here hx rfl (hb hby at_160) rfl k) ?_
        show Goes p e below s _ _ _ (T2.setTop (mkF m 162 #[.val (.int p0), .val (.int p1), .val (.int p2), .val (.int (0 : Int32)), .val (.ref aN), .val (.int ((XT.ushr p2 (1 : Int32)) &&& (3 : Int32))), .val (.int (0 : Int32)), .val (.int (1 : Int32)), .val (.double (9218868437227405312 : UInt64)), .second, .val (.double (FP.i2d p0)), .second, .val (.double (9218868437227405312 : UInt64)), .second, .val (.int (1 : Int32))] [(.double (FP.i2d p0)), (.ref aN)]))
        refine Goes.st (fun t k => XS.dload X2.here hx rfl (hb hby at_162) rfl k) ?_
        show Goes p e below s _ _ _ (T2.setTop (mkF m 164 #[.val (.int p0), .val (.int p1), .val (.int p2), .val (.int (0 : Int32)), .val (.ref aN), .val (.int ((XT.ushr p2 (1 : Int32)) &&& (3 : Int32))), .val (.int (0 : Int32)), .val (.int (1 : Int32)), .val (.double (9218868437227405312 : UInt64)), .second, .val (.double (FP.i2d p0)), .second, .val (.double (9218868437227405312 : UInt64)), .second, .val (.int (1 : Int32))] [(.double (9218868437227405312 : UInt64)), (.double (FP.i2d p0)), (.ref aN)]))
        obtain ⟨cq8, kq8, qa8, qb8, qc8⟩ := isOf hZ e2 E2
        obtain ⟨_, _, ⟨T8, L8, k8, n8⟩, -, X8, ⟨Lc8, hQ8, l8, y8, z8⟩, st8⟩ := X2.virtualBack hx (y := (⟨"com/example/parley/parley/Objective", "isBetter", "(DD)Z"⟩ : MethodName)) (z := (⟨"com/example/parley/parley/Objective", "isBetter", "(DD)Z"⟩ : MethodName)) hown (mvT hZ (hw _ (List.mem_of_getElem? (i := 4) rfl))) (mvT hZ (hw _ (List.mem_of_getElem? (i := 5) rfl))) (notFace_of_selects (args := #[]) (mvT hZ (hw _ (List.mem_of_getElem? (i := 7) rfl)))) (mvT hZ (hw _ (List.mem_of_getElem? (i := 7) rfl))) (mvT hZ (hw _ (List.mem_of_getElem? (i := 6) rfl))) (by decide) (backOf (W := 0) (rmB l Z a0 hw [] aN (FP.i2d p0) (9218868437227405312 : UInt64) aM h0 n0 Z0 S1) hZ (hw _ (List.mem_of_getElem? (i := 8) rfl)) (hw _ (List.mem_of_getElem? (i := 1) rfl)) (by decide) (by decide)) qa8 qc8 (g := (mkF m 164 #[.val (.int p0), .val (.int p1), .val (.int p2), .val (.int (0 : Int32)), .val (.ref aN), .val (.int ((XT.ushr p2 (1 : Int32)) &&& (3 : Int32))), .val (.int (0 : Int32)), .val (.int (1 : Int32)), .val (.double (9218868437227405312 : UInt64)), .second, .val (.double (FP.i2d p0)), .second, .val (.double (9218868437227405312 : UInt64)), .second, .val (.int (1 : Int32))] [(.double (9218868437227405312 : UInt64)), (.double (FP.i2d p0)), (.ref aN)])) rfl (by rw [hml]; rfl) (Steps.refl _) (argsL := [(.double (FP.i2d p0)), (.double (9218868437227405312 : UInt64))]) (rest := []) (lenOf pd__DD_Z_b14 rfl) rfl (by show 2 * 0 + _ ≤ _; exact Nat.le_of_eq rfl) (hb hby at_164) (fun _ _ => ⟨rfl, e2, (by decide : 0 + 0 ≤ 0), (by decide : 0 + 0 ≤ 0)⟩)
        dsimp only [Pt.U, Pt.locs, Pt.cells, Pt.slots] at X8 l8 y8 z8 st8 hQ8
        subst l8 y8 z8
        obtain ⟨rfl, N8q, eh8⟩ := hQ8
        have r8 : isB aN aM (FP.i2d p0) (9218868437227405312 : UInt64) = (1 : Int32) := own_min3 hne p0
        rw [r8] at st8
        have N8 := Fr.app N0 N8q
        refine Goes.sts st8 ?_
        show Goes p e below s _ _ _ (T8.setTop (mkF m 167 #[.val (.int p0), .val (.int p1), .val (.int p2), .val (.int (0 : Int32)), .val (.ref aN), .val (.int ((XT.ushr p2 (1 : Int32)) &&& (3 : Int32))), .val (.int (0 : Int32)), .val (.int (1 : Int32)), .val (.double (9218868437227405312 : UInt64)), .second, .val (.double (FP.i2d p0)), .second, .val (.double (9218868437227405312 : UInt64)), .second, .val (.int (1 : Int32))] [(.int (1 : Int32))]))
        refine Goes.st (fun t k => XS.iload X8.here hx rfl (hb hby at_167) rfl k) ?_
        show Goes p e below s _ _ _ (T8.setTop (mkF m 169 #[.val (.int p0), .val (.int p1), .val (.int p2), .val (.int (0 : Int32)), .val (.ref aN), .val (.int ((XT.ushr p2 (1 : Int32)) &&& (3 : Int32))), .val (.int (0 : Int32)), .val (.int (1 : Int32)), .val (.double (9218868437227405312 : UInt64)), .second, .val (.double (FP.i2d p0)), .second, .val (.double (9218868437227405312 : UInt64)), .second, .val (.int (1 : Int32))] [(.int (1 : Int32)), (.int (1 : Int32))]))
        refine Goes.st (fun t k => XS.icmpNo X8.here hx rfl (hb hby at_169) rfl (by decide) k) ?_
        show Goes p e below s _ _ _ (T8.setTop (mkF m 172 #[.val (.int p0), .val (.int p1), .val (.int p2), .val (.int (0 : Int32)), .val (.ref aN), .val (.int ((XT.ushr p2 (1 : Int32)) &&& (3 : Int32))), .val (.int (0 : Int32)), .val (.int (1 : Int32)), .val (.double (9218868437227405312 : UInt64)), .second, .val (.double (FP.i2d p0)), .second, .val (.double (9218868437227405312 : UInt64)), .second, .val (.int (1 : Int32))] []))
        refine Goes.st (fun t k => XS.iconst X8.here hx rfl (hb hby at_172) k) ?_
        show Goes p e below s _ _ _ (T8.setTop (mkF m 173 #[.val (.int p0), .val (.int p1), .val (.int p2), .val (.int (0 : Int32)), .val (.ref aN), .val (.int ((XT.ushr p2 (1 : Int32)) &&& (3 : Int32))), .val (.int (0 : Int32)), .val (.int (1 : Int32)), .val (.double (9218868437227405312 : UInt64)), .second, .val (.double (FP.i2d p0)), .second, .val (.double (9218868437227405312 : UInt64)), .second, .val (.int (1 : Int32))] [(.int (1 : Int32))]))
        refine Goes.st (fun t k => XS.goto X8.here hx rfl (pc0 := 173) (pc' := 177) rfl (hb hby at_173) (by decide) (by decide) k) ?_
        show Goes p e below s _ _ _ (T8.setTop (mkF m 177 #[.val (.int p0), .val (.int p1), .val (.int p2), .val (.int (0 : Int32)), .val (.ref aN), .val (.int ((XT.ushr p2 (1 : Int32)) &&& (3 : Int32))), .val (.int (0 : Int32)), .val (.int (1 : Int32)), .val (.double (9218868437227405312 : UInt64)), .second, .val (.double (FP.i2d p0)), .second, .val (.double (9218868437227405312 : UInt64)), .second, .val (.int (1 : Int32))] [(.int (1 : Int32))]))
        refine Goes.retN X8 hx hlk hret (by simp) (hb hby at_177) (by decide) ?_ (by decide) (by decide)
        rw [eh8]
        exact ⟨rfl, N8⟩
    · refine Goes.st (fun t k => XS.ifNo X2.here hx rfl (hb hby at_38) rfl ((if0 _ _).trans (feq c3).1) k) ?_
      show Goes p e below s _ _ _ (T2.setTop (mkF m 41 #[.val (.int p0), .val (.int p1), .val (.int p2), .val (.int (0 : Int32)), .val (.ref aN), .val (.int ((XT.ushr p2 (1 : Int32)) &&& (3 : Int32))), .unset, .unset, .unset, .unset, .unset, .unset, .unset, .unset, .unset] []))
      refine Goes.st (fun t k => XS.iconst X2.here hx rfl (hb hby at_41) k) ?_
      show Goes p e below s _ _ _ (T2.setTop (mkF m 42 #[.val (.int p0), .val (.int p1), .val (.int p2), .val (.int (0 : Int32)), .val (.ref aN), .val (.int ((XT.ushr p2 (1 : Int32)) &&& (3 : Int32))), .unset, .unset, .unset, .unset, .unset, .unset, .unset, .unset, .unset] [(.int (1 : Int32))]))
      refine Goes.st (fun t k => XS.goto X2.here hx rfl (pc0 := 42) (pc' := 46) rfl (hb hby at_42) (by decide) (by decide) k) ?_
      show Goes p e below s _ _ _ (T2.setTop (mkF m 46 #[.val (.int p0), .val (.int p1), .val (.int p2), .val (.int (0 : Int32)), .val (.ref aN), .val (.int ((XT.ushr p2 (1 : Int32)) &&& (3 : Int32))), .unset, .unset, .unset, .unset, .unset, .unset, .unset, .unset, .unset] [(.int (1 : Int32))]))
      refine Goes.st (fun t k => XS.istore X2.here hx rfl (hb hby at_46) rfl (l' := #[.val (.int p0), .val (.int p1), .val (.int p2), .val (.int (0 : Int32)), .val (.ref aN), .val (.int ((XT.ushr p2 (1 : Int32)) &&& (3 : Int32))), .val (.int (1 : Int32)), .unset, .unset, .unset, .unset, .unset, .unset, .unset, .unset]) rfl k) ?_
      show Goes p e below s _ _ _ (T2.setTop (mkF m 48 #[.val (.int p0), .val (.int p1), .val (.int p2), .val (.int (0 : Int32)), .val (.ref aN), .val (.int ((XT.ushr p2 (1 : Int32)) &&& (3 : Int32))), .val (.int (1 : Int32)), .unset, .unset, .unset, .unset, .unset, .unset, .unset, .unset] []))
      refine Goes.st (fun t k => XS.iload X2.here hx rfl (hb hby at_48) rfl k) ?_
      show Goes p e below s _ _ _ (T2.setTop (mkF m 50 #[.val (.int p0), .val (.int p1), .val (.int p2), .val (.int (0 : Int32)), .val (.ref aN), .val (.int ((XT.ushr p2 (1 : Int32)) &&& (3 : Int32))), .val (.int (1 : Int32)), .unset, .unset, .unset, .unset, .unset, .unset, .unset, .unset] [(.int ((XT.ushr p2 (1 : Int32)) &&& (3 : Int32)))]))
      refine Goes.st (fun t k => XS.iconst X2.here hx rfl (hb hby at_50) k) ?_
      show Goes p e below s _ _ _ (T2.setTop (mkF m 51 #[.val (.int p0), .val (.int p1), .val (.int p2), .val (.int (0 : Int32)), .val (.ref aN), .val (.int ((XT.ushr p2 (1 : Int32)) &&& (3 : Int32))), .val (.int (1 : Int32)), .unset, .unset, .unset, .unset, .unset, .unset, .unset, .unset] [(.int (2 : Int32)), (.int ((XT.ushr p2 (1 : Int32)) &&& (3 : Int32)))]))
      refine Goes.st (fun t k => XS.iand X2.here hx rfl (hb hby at_51) rfl k) ?_
      show Goes p e below s _ _ _ (T2.setTop (mkF m 52 #[.val (.int p0), .val (.int p1), .val (.int p2), .val (.int (0 : Int32)), .val (.ref aN), .val (.int ((XT.ushr p2 (1 : Int32)) &&& (3 : Int32))), .val (.int (1 : Int32)), .unset, .unset, .unset, .unset, .unset, .unset, .unset, .unset] [(.int (((XT.ushr p2 (1 : Int32)) &&& (3 : Int32)) &&& (2 : Int32)))]))
      by_cases c9 : (((XT.ushr p2 (1 : Int32)) &&& (3 : Int32)) &&& (2 : Int32)) = (0 : Int32)
      · refine Goes.st (fun t k => XS.ifYes X2.here hx rfl (pc0 := 52) (pc' := 59) rfl (hb hby at_52) rfl ((if0 _ _).trans (teq c9).1) (by decide) (by decide) k) ?_
        show Goes p e below s _ _ _ (T2.setTop (mkF m 59 #[.val (.int p0), .val (.int p1), .val (.int p2), .val (.int (0 : Int32)), .val (.ref aN), .val (.int ((XT.ushr p2 (1 : Int32)) &&& (3 : Int32))), .val (.int (1 : Int32)), .unset, .unset, .unset, .unset, .unset, .unset, .unset, .unset] []))
        refine Goes.st (fun t k => XS.iconst X2.here hx rfl (hb hby at_59) k) ?_
        show Goes p e below s _ _ _ (T2.setTop (mkF m 60 #[.val (.int p0), .val (.int p1), .val (.int p2), .val (.int (0 : Int32)), .val (.ref aN), .val (.int ((XT.ushr p2 (1 : Int32)) &&& (3 : Int32))), .val (.int (1 : Int32)), .unset, .unset, .unset, .unset, .unset, .unset, .unset, .unset] [(.int (0 : Int32))]))
        refine Goes.st (fun t k => XS.istore X2.here hx rfl (hb hby at_60) rfl (l' := #[.val (.int p0), .val (.int p1), .val (.int p2), .val (.int (0 : Int32)), .val (.ref aN), .val (.int ((XT.ushr p2 (1 : Int32)) &&& (3 : Int32))), .val (.int (1 : Int32)), .val (.int (0 : Int32)), .unset, .unset, .unset, .unset, .unset, .unset, .unset]) rfl k) ?_
        show Goes p e below s _ _ _ (T2.setTop (mkF m 62 #[.val (.int p0), .val (.int p1), .val (.int p2), .val (.int (0 : Int32)), .val (.ref aN), .val (.int ((XT.ushr p2 (1 : Int32)) &&& (3 : Int32))), .val (.int (1 : Int32)), .val (.int (0 : Int32)), .unset, .unset, .unset, .unset, .unset, .unset, .unset] []))
        refine Goes.st (fun t k => XS.iloadN X2.here hx rfl (hb hby at_62) rfl k) ?_
        show Goes p e below s _ _ _ (T2.setTop (mkF m 63 #[.val (.int p0), .val (.int p1), .val (.int p2), .val (.int (0 : Int32)), .val (.ref aN), .val (.int ((XT.ushr p2 (1 : Int32)) &&& (3 : Int32))), .val (.int (1 : Int32)), .val (.int (0 : Int32)), .unset, .unset, .unset, .unset, .unset, .unset, .unset] [(.int (0 : Int32))]))
        refine Goes.st (fun t k => XS.ifYes X2.here hx rfl (pc0 := 63) (pc' := 72) rfl (hb hby at_63) rfl (by decide) (by decide) (by decide) k) ?_
        show Goes p e below s _ _ _ (T2.setTop (mkF m 72 #[.val (.int p0), .val (.int p1), .val (.int p2), .val (.int (0 : Int32)), .val (.ref aN), .val (.int ((XT.ushr p2 (1 : Int32)) &&& (3 : Int32))), .val (.int (1 : Int32)), .val (.int (0 : Int32)), .unset, .unset, .unset, .unset, .unset, .unset, .unset] []))
        refine Goes.st (fun t k => X2.ldc2DoubleC hx hown (mvT hZ (hw _ (List.mem_of_getElem? (i := 3) rfl))) (g := (mkF m 72 #[.val (.int p0), .val (.int p1), .val (.int p2), .val (.int (0 : Int32)), .val (.ref aN), .val (.int ((XT.ushr p2 (1 : Int32)) &&& (3 : Int32))), .val (.int (1 : Int32)), .val (.int (0 : Int32)), .unset, .unset, .unset, .unset, .unset, .unset, .unset] [])) rfl (hb hby at_72) t k) ?_
        show Goes p e below s _ _ _ (T2.setTop (mkF m 75 #[.val (.int p0), .val (.int p1), .val (.int p2), .val (.int (0 : Int32)), .val (.ref aN), .val (.int ((XT.ushr p2 (1 : Int32)) &&& (3 : Int32))), .val (.int (1 : Int32)), .val (.int (0 : Int32)), .unset, .unset, .unset, .unset, .unset, .unset, .unset] [(.double (9218868437227405312 : UInt64))]))
        refine Goes.st (fun t k => XS.dstore X2.here hx rfl (hb hby at_75) rfl (l' := #[.val (.int p0), .val (.int p1), .val (.int p2), .val (.int (0 : Int32)), .val (.ref aN), .val (.int ((XT.ushr p2 (1 : Int32)) &&& (3 : Int32))), .val (.int (1 : Int32)), .val (.int (0 : Int32)), .val (.double (9218868437227405312 : UInt64)), .second, .unset, .unset, .unset, .unset, .unset]) rfl k) ?_
        show Goes p e below s _ _ _ (T2.setTop (mkF m 77 #[.val (.int p0), .val (.int p1), .val (.int p2), .val (.int (0 : Int32)), .val (.ref aN), .val (.int ((XT.ushr p2 (1 : Int32)) &&& (3 : Int32))), .val (.int (1 : Int32)), .val (.int (0 : Int32)), .val (.double (9218868437227405312 : UInt64)), .second, .unset, .unset, .unset, .unset, .unset] []))
        refine Goes.st (fun t k => XS.iload X2.here hx rfl (hb hby at_77) rfl k) ?_
        show Goes p e below s _ _ _ (T2.setTop (mkF m 79 #[.val (.int p0), .val (.int p1), .val (.int p2), .val (.int (0 : Int32)), .val (.ref aN), .val (.int ((XT.ushr p2 (1 : Int32)) &&& (3 : Int32))), .val (.int (1 : Int32)), .val (.int (0 : Int32)), .val (.double (9218868437227405312 : UInt64)), .second, .unset, .unset, .unset, .unset, .unset] [(.int (1 : Int32))]))
        refine Goes.st (fun t k => XS.ifNo X2.here hx rfl (hb hby at_79) rfl (by decide) k) ?_
        show Goes p e below s _ _ _ (T2.setTop (mkF m 82 #[.val (.int p0), .val (.int p1), .val (.int p2), .val (.int (0 : Int32)), .val (.ref aN), .val (.int ((XT.ushr p2 (1 : Int32)) &&& (3 : Int32))), .val (.int (1 : Int32)), .val (.int (0 : Int32)), .val (.double (9218868437227405312 : UInt64)), .second, .unset, .unset, .unset, .unset, .unset] []))
        refine Goes.st (fun t k => XS.dload X2.here hx rfl (hb hby at_82) rfl k) ?_
        show Goes p e below s _ _ _ (T2.setTop (mkF m 84 #[.val (.int p0), .val (.int p1), .val (.int p2), .val (.int (0 : Int32)), .val (.ref aN), .val (.int ((XT.ushr p2 (1 : Int32)) &&& (3 : Int32))), .val (.int (1 : Int32)), .val (.int (0 : Int32)), .val (.double (9218868437227405312 : UInt64)), .second, .unset, .unset, .unset, .unset, .unset] [(.double (9218868437227405312 : UInt64))]))
        refine Goes.st (fun t k => XS.goto X2.here hx rfl (pc0 := 84) (pc' := 89) rfl (hb hby at_84) (by decide) (by decide) k) ?_
        show Goes p e below s _ _ _ (T2.setTop (mkF m 89 #[.val (.int p0), .val (.int p1), .val (.int p2), .val (.int (0 : Int32)), .val (.ref aN), .val (.int ((XT.ushr p2 (1 : Int32)) &&& (3 : Int32))), .val (.int (1 : Int32)), .val (.int (0 : Int32)), .val (.double (9218868437227405312 : UInt64)), .second, .unset, .unset, .unset, .unset, .unset] [(.double (9218868437227405312 : UInt64))]))
        refine Goes.st (fun t k => XS.dstore X2.here hx rfl (hb hby at_89) rfl (l' := #[.val (.int p0), .val (.int p1), .val (.int p2), .val (.int (0 : Int32)), .val (.ref aN), .val (.int ((XT.ushr p2 (1 : Int32)) &&& (3 : Int32))), .val (.int (1 : Int32)), .val (.int (0 : Int32)), .val (.double (9218868437227405312 : UInt64)), .second, .val (.double (9218868437227405312 : UInt64)), .second, .unset, .unset, .unset]) rfl k) ?_
        show Goes p e below s _ _ _ (T2.setTop (mkF m 91 #[.val (.int p0), .val (.int p1), .val (.int p2), .val (.int (0 : Int32)), .val (.ref aN), .val (.int ((XT.ushr p2 (1 : Int32)) &&& (3 : Int32))), .val (.int (1 : Int32)), .val (.int (0 : Int32)), .val (.double (9218868437227405312 : UInt64)), .second, .val (.double (9218868437227405312 : UInt64)), .second, .unset, .unset, .unset] []))
        refine Goes.st (fun t k => XS.iload X2.here hx rfl (hb hby at_91) rfl k) ?_
        show Goes p e below s _ _ _ (T2.setTop (mkF m 93 #[.val (.int p0), .val (.int p1), .val (.int p2), .val (.int (0 : Int32)), .val (.ref aN), .val (.int ((XT.ushr p2 (1 : Int32)) &&& (3 : Int32))), .val (.int (1 : Int32)), .val (.int (0 : Int32)), .val (.double (9218868437227405312 : UInt64)), .second, .val (.double (9218868437227405312 : UInt64)), .second, .unset, .unset, .unset] [(.int (0 : Int32))]))
        refine Goes.st (fun t k => XS.ifYes X2.here hx rfl (pc0 := 93) (pc' := 101) rfl (hb hby at_93) rfl (by decide) (by decide) (by decide) k) ?_
        show Goes p e below s _ _ _ (T2.setTop (mkF m 101 #[.val (.int p0), .val (.int p1), .val (.int p2), .val (.int (0 : Int32)), .val (.ref aN), .val (.int ((XT.ushr p2 (1 : Int32)) &&& (3 : Int32))), .val (.int (1 : Int32)), .val (.int (0 : Int32)), .val (.double (9218868437227405312 : UInt64)), .second, .val (.double (9218868437227405312 : UInt64)), .second, .unset, .unset, .unset] []))
        refine Goes.st (fun t k => XS.iloadN X2.here hx rfl (hb hby at_101) rfl k) ?_
        show Goes p e below s _ _ _ (T2.setTop (mkF m 102 #[.val (.int p0), .val (.int p1), .val (.int p2), .val (.int (0 : Int32)), .val (.ref aN), .val (.int ((XT.ushr p2 (1 : Int32)) &&& (3 : Int32))), .val (.int (1 : Int32)), .val (.int (0 : Int32)), .val (.double (9218868437227405312 : UInt64)), .second, .val (.double (9218868437227405312 : UInt64)), .second, .unset, .unset, .unset] [(.int p1)]))
        refine Goes.st (fun t k => XS.i2dS X2.here hx rfl (hb hby at_102) rfl (v := (FP.i2d p1)) rfl k) ?_
        show Goes p e below s _ _ _ (T2.setTop (mkF m 103 #[.val (.int p0), .val (.int p1), .val (.int p2), .val (.int (0 : Int32)), .val (.ref aN), .val (.int ((XT.ushr p2 (1 : Int32)) &&& (3 : Int32))), .val (.int (1 : Int32)), .val (.int (0 : Int32)), .val (.double (9218868437227405312 : UInt64)), .second, .val (.double (9218868437227405312 : UInt64)), .second, .unset, .unset, .unset] [(.double (FP.i2d p1))]))
        refine Goes.st (fun t k => XS.dstore X2.here hx rfl (hb hby at_103) rfl (l' := #[.val (.int p0), .val (.int p1), .val (.int p2), .val (.int (0 : Int32)), .val (.ref aN), .val (.int ((XT.ushr p2 (1 : Int32)) &&& (3 : Int32))), .val (.int (1 : Int32)), .val (.int (0 : Int32)), .val (.double (9218868437227405312 : UInt64)), .second, .val (.double (9218868437227405312 : UInt64)), .second, .val (.double (FP.i2d p1)), .second, .unset]) rfl k) ?_
        show Goes p e below s _ _ _ (T2.setTop (mkF m 105 #[.val (.int p0), .val (.int p1), .val (.int p2), .val (.int (0 : Int32)), .val (.ref aN), .val (.int ((XT.ushr p2 (1 : Int32)) &&& (3 : Int32))), .val (.int (1 : Int32)), .val (.int (0 : Int32)), .val (.double (9218868437227405312 : UInt64)), .second, .val (.double (9218868437227405312 : UInt64)), .second, .val (.double (FP.i2d p1)), .second, .unset] []))
        refine Goes.st (fun t k => XS.iload X2.here hx rfl (hb hby at_105) rfl k) ?_
        show Goes p e below s _ _ _ (T2.setTop (mkF m 107 #[.val (.int p0), .val (.int p1), .val (.int p2), .val (.int (0 : Int32)), .val (.ref aN), .val (.int ((XT.ushr p2 (1 : Int32)) &&& (3 : Int32))), .val (.int (1 : Int32)), .val (.int (0 : Int32)), .val (.double (9218868437227405312 : UInt64)), .second, .val (.double (9218868437227405312 : UInt64)), .second, .val (.double (FP.i2d p1)), .second, .unset] [(.int (1 : Int32))]))
        refine Goes.st (fun t k => XS.ifNo X2.here hx rfl (hb hby at_107) rfl (by decide) k) ?_
        show Goes p e below s _ _ _ (T2.setTop (mkF m 110 #[.val (.int p0), .val (.int p1), .val (.int p2), .val (.int (0 : Int32)), .val (.ref aN), .val (.int ((XT.ushr p2 (1 : Int32)) &&& (3 : Int32))), .val (.int (1 : Int32)), .val (.int (0 : Int32)), .val (.double (9218868437227405312 : UInt64)), .second, .val (.double (9218868437227405312 : UInt64)), .second, .val (.double (FP.i2d p1)), .second, .unset] []))
        refine Goes.st (fun t k => XS.iconst X2.here hx rfl (hb hby at_110) k) ?_
        show Goes p e below s _ _ _ (T2.setTop (mkF m 111 #[.val (.int p0), .val (.int p1), .val (.int p2), .val (.int (0 : Int32)), .val (.ref aN), .val (.int ((XT.ushr p2 (1 : Int32)) &&& (3 : Int32))), .val (.int (1 : Int32)), .val (.int (0 : Int32)), .val (.double (9218868437227405312 : UInt64)), .second, .val (.double (9218868437227405312 : UInt64)), .second, .val (.double (FP.i2d p1)), .second, .unset] [(.int (0 : Int32))]))
        refine Goes.st (fun t k => XS.istore X2.here hx rfl (hb hby at_111) rfl (l' := #[.val (.int p0), .val (.int p1), .val (.int p2), .val (.int (0 : Int32)), .val (.ref aN), .val (.int ((XT.ushr p2 (1 : Int32)) &&& (3 : Int32))), .val (.int (1 : Int32)), .val (.int (0 : Int32)), .val (.double (9218868437227405312 : UInt64)), .second, .val (.double (9218868437227405312 : UInt64)), .second, .val (.double (FP.i2d p1)), .second, .val (.int (0 : Int32))]) rfl k) ?_
        show Goes p e below s _ _ _ (T2.setTop (mkF m 113 #[.val (.int p0), .val (.int p1), .val (.int p2), .val (.int (0 : Int32)), .val (.ref aN), .val (.int ((XT.ushr p2 (1 : Int32)) &&& (3 : Int32))), .val (.int (1 : Int32)), .val (.int (0 : Int32)), .val (.double (9218868437227405312 : UInt64)), .second, .val (.double (9218868437227405312 : UInt64)), .second, .val (.double (FP.i2d p1)), .second, .val (.int (0 : Int32))] []))
        refine Goes.st (fun t k => XS.goto X2.here hx rfl (pc0 := 113) (pc' := 158) rfl (hb hby at_113) (by decide) (by decide) k) ?_
        show Goes p e below s _ _ _ (T2.setTop (mkF m 158 #[.val (.int p0), .val (.int p1), .val (.int p2), .val (.int (0 : Int32)), .val (.ref aN), .val (.int ((XT.ushr p2 (1 : Int32)) &&& (3 : Int32))), .val (.int (1 : Int32)), .val (.int (0 : Int32)), .val (.double (9218868437227405312 : UInt64)), .second, .val (.double (9218868437227405312 : UInt64)), .second, .val (.double (FP.i2d p1)), .second, .val (.int (0 : Int32))] []))
        refine Goes.st (fun t k => XS.aload X2.here hx rfl (hb hby at_158) rfl rfl k) ?_
        show Goes p e below s _ _ _ (T2.setTop (mkF m 160 #[.val (.int p0), .val (.int p1), .val (.int p2), .val (.int (0 : Int32)), .val (.ref aN), .val (.int ((XT.ushr p2 (1 : Int32)) &&& (3 : Int32))), .val (.int (1 : Int32)), .val (.int (0 : Int32)), .val (.double (9218868437227405312 : UInt64)), .second, .val (.double (9218868437227405312 : UInt64)), .second, .val (.double (FP.i2d p1)), .second, .val (.int (0 : Int32))] [(.ref aN)]))
        refine Goes.st (fun t k => XS.dload X2.here hx rfl (hb hby at_160) rfl k) ?_
        show Goes p e below s _ _ _ (T2.setTop (mkF m 162 #[.val (.int p0), .val (.int p1), .val (.int p2), .val (.int (0 : Int32)), .val (.ref aN), .val (.int ((XT.ushr p2 (1 : Int32)) &&& (3 : Int32))), .val (.int (1 : Int32)), .val (.int (0 : Int32)), .val (.double (9218868437227405312 : UInt64)), .second, .val (.double (9218868437227405312 : UInt64)), .second, .val (.double (FP.i2d p1)), .second, .val (.int (0 : Int32))] [(.double (9218868437227405312 : UInt64)), (.ref aN)]))
        refine Goes.st (fun t k => XS.dload X2.here hx rfl (hb hby at_162) rfl k) ?_
        show Goes p e below s _ _ _ (T2.setTop (mkF m 164 #[.val (.int p0), .val (.int p1), .val (.int p2), .val (.int (0 : Int32)), .val (.ref aN), .val (.int ((XT.ushr p2 (1 : Int32)) &&& (3 : Int32))), .val (.int (1 : Int32)), .val (.int (0 : Int32)), .val (.double (9218868437227405312 : UInt64)), .second, .val (.double (9218868437227405312 : UInt64)), .second, .val (.double (FP.i2d p1)), .second, .val (.int (0 : Int32))] [(.double (FP.i2d p1)), (.double (9218868437227405312 : UInt64)), (.ref aN)]))
        obtain ⟨cq10, kq10, qa10, qb10, qc10⟩ := isOf hZ e2 E2
        obtain ⟨_, _, ⟨T10, L10, k10, n10⟩, -, X10, ⟨Lc10, hQ10, l10, y10, z10⟩, st10⟩ := X2.virtualBack hx (y := (⟨"com/example/parley/parley/Objective", "isBetter", "(DD)Z"⟩ : MethodName)) (z := (⟨"com/example/parley/parley/Objective", "isBetter", "(DD)Z"⟩ : MethodName)) hown (mvT hZ (hw _ (List.mem_of_getElem? (i := 4) rfl))) (mvT hZ (hw _ (List.mem_of_getElem? (i := 5) rfl))) (notFace_of_selects (args := #[]) (mvT hZ (hw _ (List.mem_of_getElem? (i := 7) rfl)))) (mvT hZ (hw _ (List.mem_of_getElem? (i := 7) rfl))) (mvT hZ (hw _ (List.mem_of_getElem? (i := 6) rfl))) (by decide) (backOf (W := 0) (rmB l Z a0 hw [] aN (9218868437227405312 : UInt64) (FP.i2d p1) aM h0 n0 Z0 S1) hZ (hw _ (List.mem_of_getElem? (i := 8) rfl)) (hw _ (List.mem_of_getElem? (i := 1) rfl)) (by decide) (by decide)) qa10 qc10 (g := (mkF m 164 #[.val (.int p0), .val (.int p1), .val (.int p2), .val (.int (0 : Int32)), .val (.ref aN), .val (.int ((XT.ushr p2 (1 : Int32)) &&& (3 : Int32))), .val (.int (1 : Int32)), .val (.int (0 : Int32)), .val (.double (9218868437227405312 : UInt64)), .second, .val (.double (9218868437227405312 : UInt64)), .second, .val (.double (FP.i2d p1)), .second, .val (.int (0 : Int32))] [(.double (FP.i2d p1)), (.double (9218868437227405312 : UInt64)), (.ref aN)])) rfl (by rw [hml]; rfl) (Steps.refl _) (argsL := [(.double (9218868437227405312 : UInt64)), (.double (FP.i2d p1))]) (rest := []) (lenOf pd__DD_Z_b14 rfl) rfl (by show 2 * 0 + _ ≤ _; exact Nat.le_of_eq rfl) (hb hby at_164) (fun _ _ => ⟨rfl, e2, (by decide : 0 + 0 ≤ 0), (by decide : 0 + 0 ≤ 0)⟩)
        dsimp only [Pt.U, Pt.locs, Pt.cells, Pt.slots] at X10 l10 y10 z10 st10 hQ10
        subst l10 y10 z10
        obtain ⟨rfl, N10q, eh10⟩ := hQ10
        have r10 : isB aN aM (9218868437227405312 : UInt64) (FP.i2d p1) = (0 : Int32) := own_min1 hne p1
        rw [r10] at st10
        have N10 := Fr.app N0 N10q
        refine Goes.sts st10 ?_
        show Goes p e below s _ _ _ (T10.setTop (mkF m 167 #[.val (.int p0), .val (.int p1), .val (.int p2), .val (.int (0 : Int32)), .val (.ref aN), .val (.int ((XT.ushr p2 (1 : Int32)) &&& (3 : Int32))), .val (.int (1 : Int32)), .val (.int (0 : Int32)), .val (.double (9218868437227405312 : UInt64)), .second, .val (.double (9218868437227405312 : UInt64)), .second, .val (.double (FP.i2d p1)), .second, .val (.int (0 : Int32))] [(.int (0 : Int32))]))
        refine Goes.st (fun t k => XS.iload X10.here hx rfl (hb hby at_167) rfl k) ?_
        show Goes p e below s _ _ _ (T10.setTop (mkF m 169 #[.val (.int p0), .val (.int p1), .val (.int p2), .val (.int (0 : Int32)), .val (.ref aN), .val (.int ((XT.ushr p2 (1 : Int32)) &&& (3 : Int32))), .val (.int (1 : Int32)), .val (.int (0 : Int32)), .val (.double (9218868437227405312 : UInt64)), .second, .val (.double (9218868437227405312 : UInt64)), .second, .val (.double (FP.i2d p1)), .second, .val (.int (0 : Int32))] [(.int (0 : Int32)), (.int (0 : Int32))]))
        refine Goes.st (fun t k => XS.icmpNo X10.here hx rfl (hb hby at_169) rfl (by decide) k) ?_
        show Goes p e below s _ _ _ (T10.setTop (mkF m 172 #[.val (.int p0), .val (.int p1), .val (.int p2), .val (.int (0 : Int32)), .val (.ref aN), .val (.int ((XT.ushr p2 (1 : Int32)) &&& (3 : Int32))), .val (.int (1 : Int32)), .val (.int (0 : Int32)), .val (.double (9218868437227405312 : UInt64)), .second, .val (.double (9218868437227405312 : UInt64)), .second, .val (.double (FP.i2d p1)), .second, .val (.int (0 : Int32))] []))
        refine Goes.st (fun t k => XS.iconst X10.here hx rfl (hb hby at_172) k) ?_
        show Goes p e below s _ _ _ (T10.setTop (mkF m 173 #[.val (.int p0), .val (.int p1), .val (.int p2), .val (.int (0 : Int32)), .val (.ref aN), .val (.int ((XT.ushr p2 (1 : Int32)) &&& (3 : Int32))), .val (.int (1 : Int32)), .val (.int (0 : Int32)), .val (.double (9218868437227405312 : UInt64)), .second, .val (.double (9218868437227405312 : UInt64)), .second, .val (.double (FP.i2d p1)), .second, .val (.int (0 : Int32))] [(.int (1 : Int32))]))
        refine Goes.st (fun t k => XS.goto X10.here hx rfl (pc0 := 173) (pc' := 177) rfl (hb hby at_173) (by decide) (by decide) k) ?_
        show Goes p e below s _ _ _ (T10.setTop (mkF m 177 #[.val (.int p0), .val (.int p1), .val (.int p2), .val (.int (0 : Int32)), .val (.ref aN), .val (.int ((XT.ushr p2 (1 : Int32)) &&& (3 : Int32))), .val (.int (1 : Int32)), .val (.int (0 : Int32)), .val (.double (9218868437227405312 : UInt64)), .second, .val (.double (9218868437227405312 : UInt64)), .second, .val (.double (FP.i2d p1)), .second, .val (.int (0 : Int32))] [(.int (1 : Int32))]))
        refine Goes.retN X10 hx hlk hret (by simp) (hb hby at_177) (by decide) ?_ (by decide) (by decide)
        rw [eh10]
        exact ⟨rfl, N10⟩
      · refine Goes.st (fun t k => XS.ifNo X2.here hx rfl (hb hby at_52) rfl ((if0 _ _).trans (feq c9).1) k) ?_
        show Goes p e below s _ _ _ (T2.setTop (mkF m 55 #[.val (.int p0), .val (.int p1), .val (.int p2), .val (.int (0 : Int32)), .val (.ref aN), .val (.int ((XT.ushr p2 (1 : Int32)) &&& (3 : Int32))), .val (.int (1 : Int32)), .unset, .unset, .unset, .unset, .unset, .unset, .unset, .unset] []))
        refine Goes.st (fun t k => XS.iconst X2.here hx rfl (hb hby at_55) k) ?_
        show Goes p e below s _ _ _ (T2.setTop (mkF m 56 #[.val (.int p0), .val (.int p1), .val (.int p2), .val (.int (0 : Int32)), .val (.ref aN), .val (.int ((XT.ushr p2 (1 : Int32)) &&& (3 : Int32))), .val (.int (1 : Int32)), .unset, .unset, .unset, .unset, .unset, .unset, .unset, .unset] [(.int (1 : Int32))]))
        refine Goes.st (fun t k => XS.goto X2.here hx rfl (pc0 := 56) (pc' := 60) rfl (hb hby at_56) (by decide) (by decide) k) ?_
        show Goes p e below s _ _ _ (T2.setTop (mkF m 60 #[.val (.int p0), .val (.int p1), .val (.int p2), .val (.int (0 : Int32)), .val (.ref aN), .val (.int ((XT.ushr p2 (1 : Int32)) &&& (3 : Int32))), .val (.int (1 : Int32)), .unset, .unset, .unset, .unset, .unset, .unset, .unset, .unset] [(.int (1 : Int32))]))
        refine Goes.st (fun t k => XS.istore X2.here hx rfl (hb hby at_60) rfl (l' := #[.val (.int p0), .val (.int p1), .val (.int p2), .val (.int (0 : Int32)), .val (.ref aN), .val (.int ((XT.ushr p2 (1 : Int32)) &&& (3 : Int32))), .val (.int (1 : Int32)), .val (.int (1 : Int32)), .unset, .unset, .unset, .unset, .unset, .unset, .unset]) rfl k) ?_
        show Goes p e below s _ _ _ (T2.setTop (mkF m 62 #[.val (.int p0), .val (.int p1), .val (.int p2), .val (.int (0 : Int32)), .val (.ref aN), .val (.int ((XT.ushr p2 (1 : Int32)) &&& (3 : Int32))), .val (.int (1 : Int32)), .val (.int (1 : Int32)), .unset, .unset, .unset, .unset, .unset, .unset, .unset] []))
        refine Goes.st (fun t k => XS.iloadN X2.here hx rfl (hb hby at_62) rfl k) ?_
        show Goes p e below s _ _ _ (T2.setTop (mkF m 63 #[.val (.int p0), .val (.int p1), .val (.int p2), .val (.int (0 : Int32)), .val (.ref aN), .val (.int ((XT.ushr p2 (1 : Int32)) &&& (3 : Int32))), .val (.int (1 : Int32)), .val (.int (1 : Int32)), .unset, .unset, .unset, .unset, .unset, .unset, .unset] [(.int (0 : Int32))]))
        refine Goes.st (fun t k => XS.ifYes X2.here hx rfl (pc0 := 63) (pc' := 72) rfl (hb hby at_63) rfl (by decide) (by decide) (by decide) k) ?_
        show Goes p e below s _ _ _ (T2.setTop (mkF m 72 #[.val (.int p0), .val (.int p1), .val (.int p2), .val (.int (0 : Int32)), .val (.ref aN), .val (.int ((XT.ushr p2 (1 : Int32)) &&& (3 : Int32))), .val (.int (1 : Int32)), .val (.int (1 : Int32)), .unset, .unset, .unset, .unset, .unset, .unset, .unset] []))
        refine Goes.st (fun t k => X2.ldc2DoubleC hx hown (mvT hZ (hw _ (List.mem_of_getElem? (i := 3) rfl))) (g := (mkF m 72 #[.val (.int p0), .val (.int p1), .val (.int p2), .val (.int (0 : Int32)), .val (.ref aN), .val (.int ((XT.ushr p2 (1 : Int32)) &&& (3 : Int32))), .val (.int (1 : Int32)), .val (.int (1 : Int32)), .unset, .unset, .unset, .unset, .unset, .unset, .unset] [])) rfl (hb hby at_72) t k) ?_
        show Goes p e below s _ _ _ (T2.setTop (mkF m 75 #[.val (.int p0), .val (.int p1), .val (.int p2), .val (.int (0 : Int32)), .val (.ref aN), .val (.int ((XT.ushr p2 (1 : Int32)) &&& (3 : Int32))), .val (.int (1 : Int32)), .val (.int (1 : Int32)), .unset, .unset, .unset, .unset, .unset, .unset, .unset] [(.double (9218868437227405312 : UInt64))]))
        refine Goes.st (fun t k => XS.dstore X2.here hx rfl (hb hby at_75) rfl (l' := #[.val (.int p0), .val (.int p1), .val (.int p2), .val (.int (0 : Int32)), .val (.ref aN), .val (.int ((XT.ushr p2 (1 : Int32)) &&& (3 : Int32))), .val (.int (1 : Int32)), .val (.int (1 : Int32)), .val (.double (9218868437227405312 : UInt64)), .second, .unset, .unset, .unset, .unset, .unset]) rfl k) ?_
        show Goes p e below s _ _ _ (T2.setTop (mkF m 77 #[.val (.int p0), .val (.int p1), .val (.int p2), .val (.int (0 : Int32)), .val (.ref aN), .val (.int ((XT.ushr p2 (1 : Int32)) &&& (3 : Int32))), .val (.int (1 : Int32)), .val (.int (1 : Int32)), .val (.double (9218868437227405312 : UInt64)), .second, .unset, .unset, .unset, .unset, .unset] []))
        refine Goes.st (fun t k => XS.iload X2.here hx rfl (hb hby at_77) rfl k) ?_
        show Goes p e below s _ _ _ (T2.setTop (mkF m 79 #[.val (.int p0), .val (.int p1), .val (.int p2), .val (.int (0 : Int32)), .val (.ref aN), .val (.int ((XT.ushr p2 (1 : Int32)) &&& (3 : Int32))), .val (.int (1 : Int32)), .val (.int (1 : Int32)), .val (.double (9218868437227405312 : UInt64)), .second, .unset, .unset, .unset, .unset, .unset] [(.int (1 : Int32))]))
        refine Goes.st (fun t k => XS.ifNo X2.here hx rfl (hb hby at_79) rfl (by decide) k) ?_
        show Goes p e below s _ _ _ (T2.setTop (mkF m 82 #[.val (.int p0), .val (.int p1), .val (.int p2), .val (.int (0 : Int32)), .val (.ref aN), .val (.int ((XT.ushr p2 (1 : Int32)) &&& (3 : Int32))), .val (.int (1 : Int32)), .val (.int (1 : Int32)), .val (.double (9218868437227405312 : UInt64)), .second, .unset, .unset, .unset, .unset, .unset] []))
        refine Goes.st (fun t k => XS.dload X2.here hx rfl (hb hby at_82) rfl k) ?_
        show Goes p e below s _ _ _ (T2.setTop (mkF m 84 #[.val (.int p0), .val (.int p1), .val (.int p2), .val (.int (0 : Int32)), .val (.ref aN), .val (.int ((XT.ushr p2 (1 : Int32)) &&& (3 : Int32))), .val (.int (1 : Int32)), .val (.int (1 : Int32)), .val (.double (9218868437227405312 : UInt64)), .second, .unset, .unset, .unset, .unset, .unset] [(.double (9218868437227405312 : UInt64))]))
        refine Goes.st (fun t k => XS.goto X2.here hx rfl (pc0 := 84) (pc' := 89) rfl (hb hby at_84) (by decide) (by decide) k) ?_
        show Goes p e below s _ _ _ (T2.setTop (mkF m 89 #[.val (.int p0), .val (.int p1), .val (.int p2), .val (.int (0 : Int32)), .val (.ref aN), .val (.int ((XT.ushr p2 (1 : Int32)) &&& (3 : Int32))), .val (.int (1 : Int32)), .val (.int (1 : Int32)), .val (.double (9218868437227405312 : UInt64)), .second, .unset, .unset, .unset, .unset, .unset] [(.double (9218868437227405312 : UInt64))]))
        refine Goes.st (fun t k => XS.dstore X2.here hx rfl (hb hby at_89) rfl (l' := #[.val (.int p0), .val (.int p1), .val (.int p2), .val (.int (0 : Int32)), .val (.ref aN), .val (.int ((XT.ushr p2 (1 : Int32)) &&& (3 : Int32))), .val (.int (1 : Int32)), .val (.int (1 : Int32)), .val (.double (9218868437227405312 : UInt64)), .second, .val (.double (9218868437227405312 : UInt64)), .second, .unset, .unset, .unset]) rfl k) ?_
        show Goes p e below s _ _ _ (T2.setTop (mkF m 91 #[.val (.int p0), .val (.int p1), .val (.int p2), .val (.int (0 : Int32)), .val (.ref aN), .val (.int ((XT.ushr p2 (1 : Int32)) &&& (3 : Int32))), .val (.int (1 : Int32)), .val (.int (1 : Int32)), .val (.double (9218868437227405312 : UInt64)), .second, .val (.double (9218868437227405312 : UInt64)), .second, .unset, .unset, .unset] []))
        refine Goes.st (fun t k => XS.iload X2.here hx rfl (hb hby at_91) rfl k) ?_
        show Goes p e below s _ _ _ (T2.setTop (mkF m 93 #[.val (.int p0), .val (.int p1), .val (.int p2), .val (.int (0 : Int32)), .val (.ref aN), .val (.int ((XT.ushr p2 (1 : Int32)) &&& (3 : Int32))), .val (.int (1 : Int32)), .val (.int (1 : Int32)), .val (.double (9218868437227405312 : UInt64)), .second, .val (.double (9218868437227405312 : UInt64)), .second, .unset, .unset, .unset] [(.int (1 : Int32))]))
        refine Goes.st (fun t k => XS.ifNo X2.here hx rfl (hb hby at_93) rfl (by decide) k) ?_
        show Goes p e below s _ _ _ (T2.setTop (mkF m 96 #[.val (.int p0), .val (.int p1), .val (.int p2), .val (.int (0 : Int32)), .val (.ref aN), .val (.int ((XT.ushr p2 (1 : Int32)) &&& (3 : Int32))), .val (.int (1 : Int32)), .val (.int (1 : Int32)), .val (.double (9218868437227405312 : UInt64)), .second, .val (.double (9218868437227405312 : UInt64)), .second, .unset, .unset, .unset] []))
        refine Goes.st (fun t k => XS.dload X2.here hx rfl (hb hby at_96) rfl k) ?_
        show Goes p e below s _ _ _ (T2.setTop (mkF m 98 #[.val (.int p0), .val (.int p1), .val (.int p2), .val (.int (0 : Int32)), .val (.ref aN), .val (.int ((XT.ushr p2 (1 : Int32)) &&& (3 : Int32))), .val (.int (1 : Int32)), .val (.int (1 : Int32)), .val (.double (9218868437227405312 : UInt64)), .second, .val (.double (9218868437227405312 : UInt64)), .second, .unset, .unset, .unset] [(.double (9218868437227405312 : UInt64))]))
        refine Goes.st (fun t k => XS.goto X2.here hx rfl (pc0 := 98) (pc' := 103) rfl (hb hby at_98) (by decide) (by decide) k) ?_
        show Goes p e below s _ _ _ (T2.setTop (mkF m 103 #[.val (.int p0), .val (.int p1), .val (.int p2), .val (.int (0 : Int32)), .val (.ref aN), .val (.int ((XT.ushr p2 (1 : Int32)) &&& (3 : Int32))), .val (.int (1 : Int32)), .val (.int (1 : Int32)), .val (.double (9218868437227405312 : UInt64)), .second, .val (.double (9218868437227405312 : UInt64)), .second, .unset, .unset, .unset] [(.double (9218868437227405312 : UInt64))]))
        refine Goes.st (fun t k => XS.dstore X2.here hx rfl (hb hby at_103) rfl (l' := #[.val (.int p0), .val (.int p1), .val (.int p2), .val (.int (0 : Int32)), .val (.ref aN), .val (.int ((XT.ushr p2 (1 : Int32)) &&& (3 : Int32))), .val (.int (1 : Int32)), .val (.int (1 : Int32)), .val (.double (9218868437227405312 : UInt64)), .second, .val (.double (9218868437227405312 : UInt64)), .second, .val (.double (9218868437227405312 : UInt64)), .second, .unset]) rfl k) ?_
        show Goes p e below s _ _ _ (T2.setTop (mkF m 105 #[.val (.int p0), .val (.int p1), .val (.int p2), .val (.int (0 : Int32)), .val (.ref aN), .val (.int ((XT.ushr p2 (1 : Int32)) &&& (3 : Int32))), .val (.int (1 : Int32)), .val (.int (1 : Int32)), .val (.double (9218868437227405312 : UInt64)), .second, .val (.double (9218868437227405312 : UInt64)), .second, .val (.double (9218868437227405312 : UInt64)), .second, .unset] []))
        refine Goes.st (fun t k => XS.iload X2.here hx rfl (hb hby at_105) rfl k) ?_
        show Goes p e below s _ _ _ (T2.setTop (mkF m 107 #[.val (.int p0), .val (.int p1), .val (.int p2), .val (.int (0 : Int32)), .val (.ref aN), .val (.int ((XT.ushr p2 (1 : Int32)) &&& (3 : Int32))), .val (.int (1 : Int32)), .val (.int (1 : Int32)), .val (.double (9218868437227405312 : UInt64)), .second, .val (.double (9218868437227405312 : UInt64)), .second, .val (.double (9218868437227405312 : UInt64)), .second, .unset] [(.int (1 : Int32))]))
        refine Goes.st (fun t k => XS.ifNo X2.here hx rfl (hb hby at_107) rfl (by decide) k) ?_
        show Goes p e below s _ _ _ (T2.setTop (mkF m 110 #[.val (.int p0), .val (.int p1), .val (.int p2), .val (.int (0 : Int32)), .val (.ref aN), .val (.int ((XT.ushr p2 (1 : Int32)) &&& (3 : Int32))), .val (.int (1 : Int32)), .val (.int (1 : Int32)), .val (.double (9218868437227405312 : UInt64)), .second, .val (.double (9218868437227405312 : UInt64)), .second, .val (.double (9218868437227405312 : UInt64)), .second, .unset] []))
        refine Goes.st (fun t k => XS.iconst X2.here hx rfl (hb hby at_110) k) ?_
        show Goes p e below s _ _ _ (T2.setTop (mkF m 111 #[.val (.int p0), .val (.int p1), .val (.int p2), .val (.int (0 : Int32)), .val (.ref aN), .val (.int ((XT.ushr p2 (1 : Int32)) &&& (3 : Int32))), .val (.int (1 : Int32)), .val (.int (1 : Int32)), .val (.double (9218868437227405312 : UInt64)), .second, .val (.double (9218868437227405312 : UInt64)), .second, .val (.double (9218868437227405312 : UInt64)), .second, .unset] [(.int (0 : Int32))]))
        refine Goes.st (fun t k => XS.istore X2.here hx rfl (hb hby at_111) rfl (l' := #[.val (.int p0), .val (.int p1), .val (.int p2), .val (.int (0 : Int32)), .val (.ref aN), .val (.int ((XT.ushr p2 (1 : Int32)) &&& (3 : Int32))), .val (.int (1 : Int32)), .val (.int (1 : Int32)), .val (.double (9218868437227405312 : UInt64)), .second, .val (.double (9218868437227405312 : UInt64)), .second, .val (.double (9218868437227405312 : UInt64)), .second, .val (.int (0 : Int32))]) rfl k) ?_
        show Goes p e below s _ _ _ (T2.setTop (mkF m 113 #[.val (.int p0), .val (.int p1), .val (.int p2), .val (.int (0 : Int32)), .val (.ref aN), .val (.int ((XT.ushr p2 (1 : Int32)) &&& (3 : Int32))), .val (.int (1 : Int32)), .val (.int (1 : Int32)), .val (.double (9218868437227405312 : UInt64)), .second, .val (.double (9218868437227405312 : UInt64)), .second, .val (.double (9218868437227405312 : UInt64)), .second, .val (.int (0 : Int32))] []))
        refine Goes.st (fun t k => XS.goto X2.here hx rfl (pc0 := 113) (pc' := 158) rfl (hb hby at_113) (by decide) (by decide) k) ?_
        show Goes p e below s _ _ _ (T2.setTop (mkF m 158 #[.val (.int p0), .val (.int p1), .val (.int p2), .val (.int (0 : Int32)), .val (.ref aN), .val (.int ((XT.ushr p2 (1 : Int32)) &&& (3 : Int32))), .val (.int (1 : Int32)), .val (.int (1 : Int32)), .val (.double (9218868437227405312 : UInt64)), .second, .val (.double (9218868437227405312 : UInt64)), .second, .val (.double (9218868437227405312 : UInt64)), .second, .val (.int (0 : Int32))] []))
        refine Goes.st (fun t k => XS.aload X2.here hx rfl (hb hby at_158) rfl rfl k) ?_
        show Goes p e below s _ _ _ (T2.setTop (mkF m 160 #[.val (.int p0), .val (.int p1), .val (.int p2), .val (.int (0 : Int32)), .val (.ref aN), .val (.int ((XT.ushr p2 (1 : Int32)) &&& (3 : Int32))), .val (.int (1 : Int32)), .val (.int (1 : Int32)), .val (.double (9218868437227405312 : UInt64)), .second, .val (.double (9218868437227405312 : UInt64)), .second, .val (.double (9218868437227405312 : UInt64)), .second, .val (.int (0 : Int32))] [(.ref aN)]))
        refine Goes.st (fun t k => XS.dload X2.here hx rfl (hb hby at_160) rfl k) ?_
        show Goes p e below s _ _ _ (T2.setTop (mkF m 162 #[.val (.int p0), .val (.int p1), .val (.int p2), .val (.int (0 : Int32)), .val (.ref aN), .val (.int ((XT.ushr p2 (1 : Int32)) &&& (3 : Int32))), .val (.int (1 : Int32)), .val (.int (1 : Int32)), .val (.double (9218868437227405312 : UInt64)), .second, .val (.double (9218868437227405312 : UInt64)), .second, .val (.double (9218868437227405312 : UInt64)), .second, .val (.int (0 : Int32))] [(.double (9218868437227405312 : UInt64)), (.ref aN)]))
        refine Goes.st (fun t k => XS.dload X2.here hx rfl (hb hby at_162) rfl k) ?_
        show Goes p e below s _ _ _ (T2.setTop (mkF m 164 #[.val (.int p0), .val (.int p1), .val (.int p2), .val (.int (0 : Int32)), .val (.ref aN), .val (.int ((XT.ushr p2 (1 : Int32)) &&& (3 : Int32))), .val (.int (1 : Int32)), .val (.int (1 : Int32)), .val (.double (9218868437227405312 : UInt64)), .second, .val (.double (9218868437227405312 : UInt64)), .second, .val (.double (9218868437227405312 : UInt64)), .second, .val (.int (0 : Int32))] [(.double (9218868437227405312 : UInt64)), (.double (9218868437227405312 : UInt64)), (.ref aN)]))
        obtain ⟨cq11, kq11, qa11, qb11, qc11⟩ := isOf hZ e2 E2
        obtain ⟨_, _, ⟨T11, L11, k11, n11⟩, -, X11, ⟨Lc11, hQ11, l11, y11, z11⟩, st11⟩ := X2.virtualBack hx (y := (⟨"com/example/parley/parley/Objective", "isBetter", "(DD)Z"⟩ : MethodName)) (z := (⟨"com/example/parley/parley/Objective", "isBetter", "(DD)Z"⟩ : MethodName)) hown (mvT hZ (hw _ (List.mem_of_getElem? (i := 4) rfl))) (mvT hZ (hw _ (List.mem_of_getElem? (i := 5) rfl))) (notFace_of_selects (args := #[]) (mvT hZ (hw _ (List.mem_of_getElem? (i := 7) rfl)))) (mvT hZ (hw _ (List.mem_of_getElem? (i := 7) rfl))) (mvT hZ (hw _ (List.mem_of_getElem? (i := 6) rfl))) (by decide) (backOf (W := 0) (rmB l Z a0 hw [] aN (9218868437227405312 : UInt64) (9218868437227405312 : UInt64) aM h0 n0 Z0 S1) hZ (hw _ (List.mem_of_getElem? (i := 8) rfl)) (hw _ (List.mem_of_getElem? (i := 1) rfl)) (by decide) (by decide)) qa11 qc11 (g := (mkF m 164 #[.val (.int p0), .val (.int p1), .val (.int p2), .val (.int (0 : Int32)), .val (.ref aN), .val (.int ((XT.ushr p2 (1 : Int32)) &&& (3 : Int32))), .val (.int (1 : Int32)), .val (.int (1 : Int32)), .val (.double (9218868437227405312 : UInt64)), .second, .val (.double (9218868437227405312 : UInt64)), .second, .val (.double (9218868437227405312 : UInt64)), .second, .val (.int (0 : Int32))] [(.double (9218868437227405312 : UInt64)), (.double (9218868437227405312 : UInt64)), (.ref aN)])) rfl (by rw [hml]; rfl) (Steps.refl _) (argsL := [(.double (9218868437227405312 : UInt64)), (.double (9218868437227405312 : UInt64))]) (rest := []) (lenOf pd__DD_Z_b14 rfl) rfl (by show 2 * 0 + _ ≤ _; exact Nat.le_of_eq rfl) (hb hby at_164) (fun _ _ => ⟨rfl, e2, (by decide : 0 + 0 ≤ 0), (by decide : 0 + 0 ≤ 0)⟩)
        dsimp only [Pt.U, Pt.locs, Pt.cells, Pt.slots] at X11 l11 y11 z11 st11 hQ11
        subst l11 y11 z11
        obtain ⟨rfl, N11q, eh11⟩ := hQ11
        have r11 : isB aN aM (9218868437227405312 : UInt64) (9218868437227405312 : UInt64) = (0 : Int32) := own_min2 hne
        rw [r11] at st11
        have N11 := Fr.app N0 N11q
        refine Goes.sts st11 ?_
        show Goes p e below s _ _ _ (T11.setTop (mkF m 167 #[.val (.int p0), .val (.int p1), .val (.int p2), .val (.int (0 : Int32)), .val (.ref aN), .val (.int ((XT.ushr p2 (1 : Int32)) &&& (3 : Int32))), .val (.int (1 : Int32)), .val (.int (1 : Int32)), .val (.double (9218868437227405312 : UInt64)), .second, .val (.double (9218868437227405312 : UInt64)), .second, .val (.double (9218868437227405312 : UInt64)), .second, .val (.int (0 : Int32))] [(.int (0 : Int32))]))
        refine Goes.st (fun t k => XS.iload X11.here hx rfl (hb hby at_167) rfl k) ?_
        show Goes p e below s _ _ _ (T11.setTop (mkF m 169 #[.val (.int p0), .val (.int p1), .val (.int p2), .val (.int (0 : Int32)), .val (.ref aN), .val (.int ((XT.ushr p2 (1 : Int32)) &&& (3 : Int32))), .val (.int (1 : Int32)), .val (.int (1 : Int32)), .val (.double (9218868437227405312 : UInt64)), .second, .val (.double (9218868437227405312 : UInt64)), .second, .val (.double (9218868437227405312 : UInt64)), .second, .val (.int (0 : Int32))] [(.int (0 : Int32)), (.int (0 : Int32))]))
        refine Goes.st (fun t k => XS.icmpNo X11.here hx rfl (hb hby at_169) rfl (by decide) k) ?_
        show Goes p e below s _ _ _ (T11.setTop (mkF m 172 #[.val (.int p0), .val (.int p1), .val (.int p2), .val (.int (0 : Int32)), .val (.ref aN), .val (.int ((XT.ushr p2 (1 : Int32)) &&& (3 : Int32))), .val (.int (1 : Int32)), .val (.int (1 : Int32)), .val (.double (9218868437227405312 : UInt64)), .second, .val (.double (9218868437227405312 : UInt64)), .second, .val (.double (9218868437227405312 : UInt64)), .second, .val (.int (0 : Int32))] []))
        refine Goes.st (fun t k => XS.iconst X11.here hx rfl (hb hby at_172) k) ?_
        show Goes p e below s _ _ _ (T11.setTop (mkF m 173 #[.val (.int p0), .val (.int p1), .val (.int p2), .val (.int (0 : Int32)), .val (.ref aN), .val (.int ((XT.ushr p2 (1 : Int32)) &&& (3 : Int32))), .val (.int (1 : Int32)), .val (.int (1 : Int32)), .val (.double (9218868437227405312 : UInt64)), .second, .val (.double (9218868437227405312 : UInt64)), .second, .val (.double (9218868437227405312 : UInt64)), .second, .val (.int (0 : Int32))] [(.int (1 : Int32))]))
        refine Goes.st (fun t k => XS.goto X11.here hx rfl (pc0 := 173) (pc' := 177) rfl (hb hby at_173) (by decide) (by decide) k) ?_
        show Goes p e below s _ _ _ (T11.setTop (mkF m 177 #[.val (.int p0), .val (.int p1), .val (.int p2), .val (.int (0 : Int32)), .val (.ref aN), .val (.int ((XT.ushr p2 (1 : Int32)) &&& (3 : Int32))), .val (.int (1 : Int32)), .val (.int (1 : Int32)), .val (.double (9218868437227405312 : UInt64)), .second, .val (.double (9218868437227405312 : UInt64)), .second, .val (.double (9218868437227405312 : UInt64)), .second, .val (.int (0 : Int32))] [(.int (1 : Int32))]))
        refine Goes.retN X11 hx hlk hret (by simp) (hb hby at_177) (by decide) ?_ (by decide) (by decide)
        rw [eh11]
        exact ⟨rfl, N11⟩
  · refine Goes.st (fun t k => XS.ifNo X0.here hx rfl (hb hby at_3) rfl ((if0 _ _).trans (feq c1).1) k) ?_
    show Goes p e below s _ _ _ (s₁.setTop (mkF m 6 #[.val (.int p0), .val (.int p1), .val (.int p2), .unset, .unset, .unset, .unset, .unset, .unset, .unset, .unset, .unset, .unset, .unset, .unset] []))
    refine Goes.st (fun t k => XS.iconst X0.here hx rfl (hb hby at_6) k) ?_
    show Goes p e below s _ _ _ (s₁.setTop (mkF m 7 #[.val (.int p0), .val (.int p1), .val (.int p2), .unset, .unset, .unset, .unset, .unset, .unset, .unset, .unset, .unset, .unset, .unset, .unset] [(.int (1 : Int32))]))
    refine Goes.st (fun t k => XS.goto X0.here hx rfl (pc0 := 7) (pc' := 11) rfl (hb hby at_7) (by decide) (by decide) k) ?_
    show Goes p e below s _ _ _ (s₁.setTop (mkF m 11 #[.val (.int p0), .val (.int p1), .val (.int p2), .unset, .unset, .unset, .unset, .unset, .unset, .unset, .unset, .unset, .unset, .unset, .unset] [(.int (1 : Int32))]))
    refine Goes.st (fun t k => XS.istoreN X0.here hx rfl (hb hby at_11) rfl (l' := #[.val (.int p0), .val (.int p1), .val (.int p2), .val (.int (1 : Int32)), .unset, .unset, .unset, .unset, .unset, .unset, .unset, .unset, .unset, .unset, .unset]) rfl k) ?_
    show Goes p e below s _ _ _ (s₁.setTop (mkF m 12 #[.val (.int p0), .val (.int p1), .val (.int p2), .val (.int (1 : Int32)), .unset, .unset, .unset, .unset, .unset, .unset, .unset, .unset, .unset, .unset, .unset] []))
    refine Goes.st (fun t k => XS.iloadN X0.here hx rfl (hb hby at_12) rfl k) ?_
    show Goes p e below s _ _ _ (s₁.setTop (mkF m 13 #[.val (.int p0), .val (.int p1), .val (.int p2), .val (.int (1 : Int32)), .unset, .unset, .unset, .unset, .unset, .unset, .unset, .unset, .unset, .unset, .unset] [(.int (1 : Int32))]))
    refine Goes.st (fun t k => XS.ifNo X0.here hx rfl (hb hby at_13) rfl (by decide) k) ?_
    show Goes p e below s _ _ _ (s₁.setTop (mkF m 16 #[.val (.int p0), .val (.int p1), .val (.int p2), .val (.int (1 : Int32)), .unset, .unset, .unset, .unset, .unset, .unset, .unset, .unset, .unset, .unset, .unset] []))
    obtain ⟨T12, X12, e12, st12⟩ := getS X0 hx hZ hown (host := "") (hw _ (List.mem_of_getElem? (i := 11) rfl)) Via.refl e0 S1 (g := (mkF m 16 #[.val (.int p0), .val (.int p1), .val (.int p2), .val (.int (1 : Int32)), .unset, .unset, .unset, .unset, .unset, .unset, .unset, .unset, .unset, .unset, .unset] [])) rfl (hb hby at_16)
    refine Goes.st st12 ?_
    show Goes p e below s _ _ _ (T12.setTop (mkF m 19 #[.val (.int p0), .val (.int p1), .val (.int p2), .val (.int (1 : Int32)), .unset, .unset, .unset, .unset, .unset, .unset, .unset, .unset, .unset, .unset, .unset] [(.ref aM)]))
    refine Goes.st (fun t k => XS.goto X12.here hx rfl (pc0 := 19) (pc' := 25) rfl (hb hby at_19) (by decide) (by decide) k) ?_
    show Goes p e below s _ _ _ (T12.setTop (mkF m 25 #[.val (.int p0), .val (.int p1), .val (.int p2), .val (.int (1 : Int32)), .unset, .unset, .unset, .unset, .unset, .unset, .unset, .unset, .unset, .unset, .unset] [(.ref aM)]))
    refine Goes.st (fun t k => XS.astore X12.here hx rfl (hb hby at_25) rfl rfl (l' := #[.val (.int p0), .val (.int p1), .val (.int p2), .val (.int (1 : Int32)), .val (.ref aM), .unset, .unset, .unset, .unset, .unset, .unset, .unset, .unset, .unset, .unset]) rfl k) ?_
    show Goes p e below s _ _ _ (T12.setTop (mkF m 27 #[.val (.int p0), .val (.int p1), .val (.int p2), .val (.int (1 : Int32)), .val (.ref aM), .unset, .unset, .unset, .unset, .unset, .unset, .unset, .unset, .unset, .unset] []))
    refine Goes.st (fun t k => XS.iloadN X12.here hx rfl (hb hby at_27) rfl k) ?_
    show Goes p e below s _ _ _ (T12.setTop (mkF m 28 #[.val (.int p0), .val (.int p1), .val (.int p2), .val (.int (1 : Int32)), .val (.ref aM), .unset, .unset, .unset, .unset, .unset, .unset, .unset, .unset, .unset, .unset] [(.int p2)]))
    refine Goes.st (fun t k => XS.iconst X12.here hx rfl (hb hby at_28) k) ?_
    show Goes p e below s _ _ _ (T12.setTop (mkF m 29 #[.val (.int p0), .val (.int p1), .val (.int p2), .val (.int (1 : Int32)), .val (.ref aM), .unset, .unset, .unset, .unset, .unset, .unset, .unset, .unset, .unset, .unset] [(.int (1 : Int32)), (.int p2)]))
    refine Goes.st (fun t k => XT.iushr X12.here hx rfl (hb hby at_29) rfl k) ?_
    show Goes p e below s _ _ _ (T12.setTop (mkF m 30 #[.val (.int p0), .val (.int p1), .val (.int p2), .val (.int (1 : Int32)), .val (.ref aM), .unset, .unset, .unset, .unset, .unset, .unset, .unset, .unset, .unset, .unset] [(.int (XT.ushr p2 (1 : Int32)))]))
    refine Goes.st (fun t k => XS.iconst X12.here hx rfl (hb hby at_30) k) ?_
    show Goes p e below s _ _ _ (T12.setTop (mkF m 31 #[.val (.int p0), .val (.int p1), .val (.int p2), .val (.int (1 : Int32)), .val (.ref aM), .unset, .unset, .unset, .unset, .unset, .unset, .unset, .unset, .unset, .unset] [(.int (3 : Int32)), (.int (XT.ushr p2 (1 : Int32)))]))
    refine Goes.st (fun t k => XS.iand X12.here hx rfl (hb hby at_31) rfl k) ?_
    show Goes p e below s _ _ _ (T12.setTop (mkF m 32 #[.val (.int p0), .val (.int p1), .val (.int p2), .val (.int (1 : Int32)), .val (.ref aM), .unset, .unset, .unset, .unset, .unset, .unset, .unset, .unset, .unset, .unset] [(.int ((XT.ushr p2 (1 : Int32)) &&& (3 : Int32)))]))
    refine Goes.st (fun t k => XS.istore X12.here hx rfl (hb hby at_32) rfl (l' := #[.val (.int p0), .val (.int p1), .val (.int p2), .val (.int (1 : Int32)), .val (.ref aM), .val (.int ((XT.ushr p2 (1 : Int32)) &&& (3 : Int32))), .unset, .unset, .unset, .unset, .unset, .unset, .unset, .unset, .unset]) rfl k) ?_
    show Goes p e below s _ _ _ (T12.setTop (mkF m 34 #[.val (.int p0), .val (.int p1), .val (.int p2), .val (.int (1 : Int32)), .val (.ref aM), .val (.int ((XT.ushr p2 (1 : Int32)) &&& (3 : Int32))), .unset, .unset, .unset, .unset, .unset, .unset, .unset, .unset, .unset] []))
    refine Goes.st (fun t k => XS.iload X12.here hx rfl (hb hby at_34) rfl k) ?_
    show Goes p e below s _ _ _ (T12.setTop (mkF m 36 #[.val (.int p0), .val (.int p1), .val (.int p2), .val (.int (1 : Int32)), .val (.ref aM), .val (.int ((XT.ushr p2 (1 : Int32)) &&& (3 : Int32))), .unset, .unset, .unset, .unset, .unset, .unset, .unset, .unset, .unset] [(.int ((XT.ushr p2 (1 : Int32)) &&& (3 : Int32)))]))
    refine Goes.st (fun t k => XS.iconst X12.here hx rfl (hb hby at_36) k) ?_
    show Goes p e below s _ _ _ (T12.setTop (mkF m 37 #[.val (.int p0), .val (.int p1), .val (.int p2), .val (.int (1 : Int32)), .val (.ref aM), .val (.int ((XT.ushr p2 (1 : Int32)) &&& (3 : Int32))), .unset, .unset, .unset, .unset, .unset, .unset, .unset, .unset, .unset] [(.int (1 : Int32)), (.int ((XT.ushr p2 (1 : Int32)) &&& (3 : Int32)))]))
    refine Goes.st (fun t k => XS.iand X12.here hx rfl (hb hby at_37) rfl k) ?_
    show Goes p e below s _ _ _ (T12.setTop (mkF m 38 #[.val (.int p0), .val (.int p1), .val (.int p2), .val (.int (1 : Int32)), .val (.ref aM), .val (.int ((XT.ushr p2 (1 : Int32)) &&& (3 : Int32))), .unset, .unset, .unset, .unset, .unset, .unset, .unset, .unset, .unset] [(.int (((XT.ushr p2 (1 : Int32)) &&& (3 : Int32)) &&& (1 : Int32)))]))
    by_cases c13 : (((XT.ushr p2 (1 : Int32)) &&& (3 : Int32)) &&& (1 : Int32)) = (0 : Int32)
    · refine Goes.st (fun t k => XS.ifYes X12.here hx rfl (pc0 := 38) (pc' := 45) rfl (hb hby at_38) rfl ((if0 _ _).trans (teq c13).1) (by decide) (by decide) k) ?_
      show Goes p e below s _ _ _ (T12.setTop (mkF m 45 #[.val (.int p0), .val (.int p1), .val (.int p2), .val (.int (1 : Int32)), .val (.ref aM), .val (.int ((XT.ushr p2 (1 : Int32)) &&& (3 : Int32))), .unset, .unset, .unset, .unset, .unset, .unset, .unset, .unset, .unset] []))
      refine Goes.st (fun t k => XS.iconst X12.here hx rfl (hb hby at_45) k) ?_
      show Goes p e below s _ _ _ (T12.setTop (mkF m 46 #[.val (.int p0), .val (.int p1), .val (.int p2), .val (.int (1 : Int32)), .val (.ref aM), .val (.int ((XT.ushr p2 (1 : Int32)) &&& (3 : Int32))), .unset, .unset, .unset, .unset, .unset, .unset, .unset, .unset, .unset] [(.int (0 : Int32))]))
      refine Goes.st (fun t k => XS.istore X12.here hx rfl (hb hby at_46) rfl (l' := #[.val (.int p0), .val (.int p1), .val (.int p2), .val (.int (1 : Int32)), .val (.ref aM), .val (.int ((XT.ushr p2 (1 : Int32)) &&& (3 : Int32))), .val (.int (0 : Int32)), .unset, .unset, .unset, .unset, .unset, .unset, .unset, .unset]) rfl k) ?_
      show Goes p e below s _ _ _ (T12.setTop (mkF m 48 #[.val (.int p0), .val (.int p1), .val (.int p2), .val (.int (1 : Int32)), .val (.ref aM), .val (.int ((XT.ushr p2 (1 : Int32)) &&& (3 : Int32))), .val (.int (0 : Int32)), .unset, .unset, .unset, .unset, .unset, .unset, .unset, .unset] []))
      refine Goes.st (fun t k => XS.iload X12.here hx rfl (hb hby at_48) rfl k) ?_
      show Goes p e below s _ _ _ (T12.setTop (mkF m 50 #[.val (.int p0), .val (.int p1), .val (.int p2), .val (.int (1 : Int32)), .val (.ref aM), .val (.int ((XT.ushr p2 (1 : Int32)) &&& (3 : Int32))), .val (.int (0 : Int32)), .unset, .unset, .unset, .unset, .unset, .unset, .unset, .unset] [(.int ((XT.ushr p2 (1 : Int32)) &&& (3 : Int32)))]))
      refine Goes.st (fun t k => XS.iconst X12.here hx rfl (hb hby at_50) k) ?_
      show Goes p e below s _ _ _ (T12.setTop (mkF m 51 #[.val (.int p0), .val (.int p1), .val (.int p2), .val (.int (1 : Int32)), .val (.ref aM), .val (.int ((XT.ushr p2 (1 : Int32)) &&& (3 : Int32))), .val (.int (0 : Int32)), .unset, .unset, .unset, .unset, .unset, .unset, .unset, .unset] [(.int (2 : Int32)), (.int ((XT.ushr p2 (1 : Int32)) &&& (3 : Int32)))]))
      refine Goes.st (fun t k => XS.iand X12.here hx rfl (hb hby at_51) rfl k) ?_
      show Goes p e below s _ _ _ (T12.setTop (mkF m 52 #[.val (.int p0), .val (.int p1), .val (.int p2), .val (.int (1 : Int32)), .val (.ref aM), .val (.int ((XT.ushr p2 (1 : Int32)) &&& (3 : Int32))), .val (.int (0 : Int32)), .unset, .unset, .unset, .unset, .unset, .unset, .unset, .unset] [(.int (((XT.ushr p2 (1 : Int32)) &&& (3 : Int32)) &&& (2 : Int32)))]))
      by_cases c14 : (((XT.ushr p2 (1 : Int32)) &&& (3 : Int32)) &&& (2 : Int32)) = (0 : Int32)
      · refine Goes.st (fun t k => XS.ifYes X12.here hx rfl (pc0 := 52) (pc' := 59) rfl (hb hby at_52) rfl ((if0 _ _).trans (teq c14).1) (by decide) (by decide) k) ?_
        show Goes p e below s _ _ _ (T12.setTop (mkF m 59 #[.val (.int p0), .val (.int p1), .val (.int p2), .val (.int (1 : Int32)), .val (.ref aM), .val (.int ((XT.ushr p2 (1 : Int32)) &&& (3 : Int32))), .val (.int (0 : Int32)), .unset, .unset, .unset, .unset, .unset, .unset, .unset, .unset] []))
        refine Goes.st (fun t k => XS.iconst X12.here hx rfl (hb hby at_59) k) ?_
        show Goes p e below s _ _ _ (T12.setTop (mkF m 60 #[.val (.int p0), .val (.int p1), .val (.int p2), .val (.int (1 : Int32)), .val (.ref aM), .val (.int ((XT.ushr p2 (1 : Int32)) &&& (3 : Int32))), .val (.int (0 : Int32)), .unset, .unset, .unset, .unset, .unset, .unset, .unset, .unset] [(.int (0 : Int32))]))
        refine Goes.st (fun t k => XS.istore X12.here hx rfl (hb hby at_60) rfl (l' := #[.val (.int p0), .val (.int p1), .val (.int p2), .val (.int (1 : Int32)), .val (.ref aM), .val (.int ((XT.ushr p2 (1 : Int32)) &&& (3 : Int32))), .val (.int (0 : Int32)), .val (.int (0 : Int32)), .unset, .unset, .unset, .unset, .unset, .unset, .unset]) rfl k) ?_
        show Goes p e below s _ _ _ (T12.setTop (mkF m 62 #[.val (.int p0), .val (.int p1), .val (.int p2), .val (.int (1 : Int32)), .val (.ref aM), .val (.int ((XT.ushr p2 (1 : Int32)) &&& (3 : Int32))), .val (.int (0 : Int32)), .val (.int (0 : Int32)), .unset, .unset, .unset, .unset, .unset, .unset, .unset] []))
        refine Goes.st (fun t k => XS.iloadN X12.here hx rfl (hb hby at_62) rfl k) ?_
        show Goes p e below s _ _ _ (T12.setTop (mkF m 63 #[.val (.int p0), .val (.int p1), .val (.int p2), .val (.int (1 : Int32)), .val (.ref aM), .val (.int ((XT.ushr p2 (1 : Int32)) &&& (3 : Int32))), .val (.int (0 : Int32)), .val (.int (0 : Int32)), .unset, .unset, .unset, .unset, .unset, .unset, .unset] [(.int (1 : Int32))]))
        refine Goes.st (fun t k => XS.ifNo X12.here hx rfl (hb hby at_63) rfl (by decide) k) ?_
        show Goes p e below s _ _ _ (T12.setTop (mkF m 66 #[.val (.int p0), .val (.int p1), .val (.int p2), .val (.int (1 : Int32)), .val (.ref aM), .val (.int ((XT.ushr p2 (1 : Int32)) &&& (3 : Int32))), .val (.int (0 : Int32)), .val (.int (0 : Int32)), .unset, .unset, .unset, .unset, .unset, .unset, .unset] []))
        refine Goes.st (fun t k => X12.ldc2DoubleC hx hown (mvT hZ (hw _ (List.mem_of_getElem? (i := 12) rfl))) (g := (mkF m 66 #[.val (.int p0), .val (.int p1), .val (.int p2), .val (.int (1 : Int32)), .val (.ref aM), .val (.int ((XT.ushr p2 (1 : Int32)) &&& (3 : Int32))), .val (.int (0 : Int32)), .val (.int (0 : Int32)), .unset, .unset, .unset, .unset, .unset, .unset, .unset] [])) rfl (hb hby at_66) t k) ?_
        show Goes p e below s _ _ _ (T12.setTop (mkF m 69 #[.val (.int p0), .val (.int p1), .val (.int p2), .val (.int (1 : Int32)), .val (.ref aM), .val (.int ((XT.ushr p2 (1 : Int32)) &&& (3 : Int32))), .val (.int (0 : Int32)), .val (.int (0 : Int32)), .unset, .unset, .unset, .unset, .unset, .unset, .unset] [(.double (18442240474082181120 : UInt64))]))
        refine Goes.st (fun t k => XS.goto X12.here hx rfl (pc0 := 69) (pc' := 75) rfl (hb hby at_69) (by decide) (by decide) k) ?_
        show Goes p e below s _ _ _ (T12.setTop (mkF m 75 #[.val (.int p0), .val (.int p1), .val (.int p2), .val (.int (1 : Int32)), .val (.ref aM), .val (.int ((XT.ushr p2 (1 : Int32)) &&& (3 : Int32))), .val (.int (0 : Int32)), .val (.int (0 : Int32)), .unset, .unset, .unset, .unset, .unset, .unset, .unset] [(.double (18442240474082181120 : UInt64))]))
        refine Goes.st (fun t k => XS.dstore X12.here hx rfl (hb hby at_75) rfl (l' := #[.val (.int p0), .val (.int p1), .val (.int p2), .val (.int (1 : Int32)), .val (.ref aM), .val (.int ((XT.ushr p2 (1 : Int32)) &&& (3 : Int32))), .val (.int (0 : Int32)), .val (.int (0 : Int32)), .val (.double (18442240474082181120 : UInt64)), .second, .unset, .unset, .unset, .unset, .unset]) rfl k) ?_
        show Goes p e below s _ _ _ (T12.setTop (mkF m 77 #[.val (.int p0), .val (.int p1), .val (.int p2), .val (.int (1 : Int32)), .val (.ref aM), .val (.int ((XT.ushr p2 (1 : Int32)) &&& (3 : Int32))), .val (.int (0 : Int32)), .val (.int (0 : Int32)), .val (.double (18442240474082181120 : UInt64)), .second, .unset, .unset, .unset, .unset, .unset] []))
        refine Goes.st (fun t k => XS.iload X12.here hx rfl (hb hby at_77) rfl k) ?_
        show Goes p e below s _ _ _ (T12.setTop (mkF m 79 #[.val (.int p0), .val (.int p1), .val (.int p2), .val (.int (1 : Int32)), .val (.ref aM), .val (.int ((XT.ushr p2 (1 : Int32)) &&& (3 : Int32))), .val (.int (0 : Int32)), .val (.int (0 : Int32)), .val (.double (18442240474082181120 : UInt64)), .second, .unset, .unset, .unset, .unset, .unset] [(.int (0 : Int32))]))
        refine Goes.st (fun t k => XS.ifYes X12.here hx rfl (pc0 := 79) (pc' := 87) rfl (hb hby at_79) rfl (by decide) (by decide) (by decide) k) ?_
        show Goes p e below s _ _ _ (T12.setTop (mkF m 87 #[.val (.int p0), .val (.int p1), .val (.int p2), .val (.int (1 : Int32)), .val (.ref aM), .val (.int ((XT.ushr p2 (1 : Int32)) &&& (3 : Int32))), .val (.int (0 : Int32)), .val (.int (0 : Int32)), .val (.double (18442240474082181120 : UInt64)), .second, .unset, .unset, .unset, .unset, .unset] []))
        refine Goes.st (fun t k => XS.iloadN X12.here hx rfl (hb hby at_87) rfl k) ?_
        show Goes p e below s _ _ _ (T12.setTop (mkF m 88 #[.val (.int p0), .val (.int p1), .val (.int p2), .val (.int (1 : Int32)), .val (.ref aM), .val (.int ((XT.ushr p2 (1 : Int32)) &&& (3 : Int32))), .val (.int (0 : Int32)), .val (.int (0 : Int32)), .val (.double (18442240474082181120 : UInt64)), .second, .unset, .unset, .unset, .unset, .unset] [(.int p0)]))
        refine Goes.st (fun t k => XS.i2dS X12.here hx rfl (hb hby at_88) rfl (v := (FP.i2d p0)) rfl k) ?_
        show Goes p e below s _ _ _ (T12.setTop (mkF m 89 #[.val (.int p0), .val (.int p1), .val (.int p2), .val (.int (1 : Int32)), .val (.ref aM), .val (.int ((XT.ushr p2 (1 : Int32)) &&& (3 : Int32))), .val (.int (0 : Int32)), .val (.int (0 : Int32)), .val (.double (18442240474082181120 : UInt64)), .second, .unset, .unset, .unset, .unset, .unset] [(.double (FP.i2d p0))]))
        refine Goes.st (fun t k => XS.dstore X12.here hx rfl (hb hby at_89) rfl (l' := #[.val (.int p0), .val (.int p1), .val (.int p2), .val (.int (1 : Int32)), .val (.ref aM), .val (.int ((XT.ushr p2 (1 : Int32)) &&& (3 : Int32))), .val (.int (0 : Int32)), .val (.int (0 : Int32)), .val (.double (18442240474082181120 : UInt64)), .second, .val (.double (FP.i2d p0)), .second, .unset, .unset, .unset]) rfl k) ?_
        show Goes p e below s _ _ _ (T12.setTop (mkF m 91 #[.val (.int p0), .val (.int p1), .val (.int p2), .val (.int (1 : Int32)), .val (.ref aM), .val (.int ((XT.ushr p2 (1 : Int32)) &&& (3 : Int32))), .val (.int (0 : Int32)), .val (.int (0 : Int32)), .val (.double (18442240474082181120 : UInt64)), .second, .val (.double (FP.i2d p0)), .second, .unset, .unset, .unset] []))
        refine Goes.st (fun t k => XS.iload X12.here hx rfl (hb hby at_91) rfl k) ?_
        show Goes p e below s _ _ _ (T12.setTop (mkF m 93 #[.val (.int p0), .val (.int p1), .val (.int p2), .val (.int (1 : Int32)), .val (.ref aM), .val (.int ((XT.ushr p2 (1 : Int32)) &&& (3 : Int32))), .val (.int (0 : Int32)), .val (.int (0 : Int32)), .val (.double (18442240474082181120 : UInt64)), .second, .val (.double (FP.i2d p0)), .second, .unset, .unset, .unset] [(.int (0 : Int32))]))
        refine Goes.st (fun t k => XS.ifYes X12.here hx rfl (pc0 := 93) (pc' := 101) rfl (hb hby at_93) rfl (by decide) (by decide) (by decide) k) ?_
        show Goes p e below s _ _ _ (T12.setTop (mkF m 101 #[.val (.int p0), .val (.int p1), .val (.int p2), .val (.int (1 : Int32)), .val (.ref aM), .val (.int ((XT.ushr p2 (1 : Int32)) &&& (3 : Int32))), .val (.int (0 : Int32)), .val (.int (0 : Int32)), .val (.double (18442240474082181120 : UInt64)), .second, .val (.double (FP.i2d p0)), .second, .unset, .unset, .unset] []))
        refine Goes.st (fun t k => XS.iloadN X12.here hx rfl (hb hby at_101) rfl k) ?_
        show Goes p e below s _ _ _ (T12.setTop (mkF m 102 #[.val (.int p0), .val (.int p1), .val (.int p2), .val (.int (1 : Int32)), .val (.ref aM), .val (.int ((XT.ushr p2 (1 : Int32)) &&& (3 : Int32))), .val (.int (0 : Int32)), .val (.int (0 : Int32)), .val (.double (18442240474082181120 : UInt64)), .second, .val (.double (FP.i2d p0)), .second, .unset, .unset, .unset] [(.int p1)]))
        refine Goes.st (fun t k => XS.i2dS X12.here hx rfl (hb hby at_102) rfl (v := (FP.i2d p1)) rfl k) ?_
        show Goes p e below s _ _ _ (T12.setTop (mkF m 103 #[.val (.int p0), .val (.int p1), .val (.int p2), .val (.int (1 : Int32)), .val (.ref aM), .val (.int ((XT.ushr p2 (1 : Int32)) &&& (3 : Int32))), .val (.int (0 : Int32)), .val (.int (0 : Int32)), .val (.double (18442240474082181120 : UInt64)), .second, .val (.double (FP.i2d p0)), .second, .unset, .unset, .unset] [(.double (FP.i2d p1))]))
        refine Goes.st (fun t k => XS.dstore X12.here hx rfl (hb hby at_103) rfl (l' := #[.val (.int p0), .val (.int p1), .val (.int p2), .val (.int (1 : Int32)), .val (.ref aM), .val (.int ((XT.ushr p2 (1 : Int32)) &&& (3 : Int32))), .val (.int (0 : Int32)), .val (.int (0 : Int32)), .val (.double (18442240474082181120 : UInt64)), .second, .val (.double (FP.i2d p0)), .second, .val (.double (FP.i2d p1)), .second, .unset]) rfl k) ?_
        show Goes p e below s _ _ _ (T12.setTop (mkF m 105 #[.val (.int p0), .val (.int p1), .val (.int p2), .val (.int (1 : Int32)), .val (.ref aM), .val (.int ((XT.ushr p2 (1 : Int32)) &&& (3 : Int32))), .val (.int (0 : Int32)), .val (.int (0 : Int32)), .val (.double (18442240474082181120 : UInt64)), .second, .val (.double (FP.i2d p0)), .second, .val (.double (FP.i2d p1)), .second, .unset] []))
        refine Goes.st (fun t k => XS.iload X12.here hx rfl (hb hby at_105) rfl k) ?_
        show Goes p e below s _ _ _ (T12.setTop (mkF m 107 #[.val (.int p0), .val (.int p1), .val (.int p2), .val (.int (1 : Int32)), .val (.ref aM), .val (.int ((XT.ushr p2 (1 : Int32)) &&& (3 : Int32))), .val (.int (0 : Int32)), .val (.int (0 : Int32)), .val (.double (18442240474082181120 : UInt64)), .second, .val (.double (FP.i2d p0)), .second, .val (.double (FP.i2d p1)), .second, .unset] [(.int (0 : Int32))]))
        refine Goes.st (fun t k => XS.ifYes X12.here hx rfl (pc0 := 107) (pc' := 116) rfl (hb hby at_107) rfl (by decide) (by decide) (by decide) k) ?_
        show Goes p e below s _ _ _ (T12.setTop (mkF m 116 #[.val (.int p0), .val (.int p1), .val (.int p2), .val (.int (1 : Int32)), .val (.ref aM), .val (.int ((XT.ushr p2 (1 : Int32)) &&& (3 : Int32))), .val (.int (0 : Int32)), .val (.int (0 : Int32)), .val (.double (18442240474082181120 : UInt64)), .second, .val (.double (FP.i2d p0)), .second, .val (.double (FP.i2d p1)), .second, .unset] []))
        refine Goes.st (fun t k => XS.iload X12.here hx rfl (hb hby at_116) rfl k) ?_
        show Goes p e below s _ _ _ (T12.setTop (mkF m 118 #[.val (.int p0), .val (.int p1), .val (.int p2), .val (.int (1 : Int32)), .val (.ref aM), .val (.int ((XT.ushr p2 (1 : Int32)) &&& (3 : Int32))), .val (.int (0 : Int32)), .val (.int (0 : Int32)), .val (.double (18442240474082181120 : UInt64)), .second, .val (.double (FP.i2d p0)), .second, .val (.double (FP.i2d p1)), .second, .unset] [(.int (0 : Int32))]))
        refine Goes.st (fun t k => XS.ifYes X12.here hx rfl (pc0 := 118) (pc' := 127) rfl (hb hby at_118) rfl (by decide) (by decide) (by decide) k) ?_
        show Goes p e below s _ _ _ (T12.setTop (mkF m 127 #[.val (.int p0), .val (.int p1), .val (.int p2), .val (.int (1 : Int32)), .val (.ref aM), .val (.int ((XT.ushr p2 (1 : Int32)) &&& (3 : Int32))), .val (.int (0 : Int32)), .val (.int (0 : Int32)), .val (.double (18442240474082181120 : UInt64)), .second, .val (.double (FP.i2d p0)), .second, .val (.double (FP.i2d p1)), .second, .unset] []))
        refine Goes.st (fun t k => XS.iloadN X12.here hx rfl (hb hby at_127) rfl k) ?_
        show Goes p e below s _ _ _ (T12.setTop (mkF m 128 #[.val (.int p0), .val (.int p1), .val (.int p2), .val (.int (1 : Int32)), .val (.ref aM), .val (.int ((XT.ushr p2 (1 : Int32)) &&& (3 : Int32))), .val (.int (0 : Int32)), .val (.int (0 : Int32)), .val (.double (18442240474082181120 : UInt64)), .second, .val (.double (FP.i2d p0)), .second, .val (.double (FP.i2d p1)), .second, .unset] [(.int (1 : Int32))]))
        refine Goes.st (fun t k => XS.ifNo X12.here hx rfl (hb hby at_128) rfl (by decide) k) ?_
        show Goes p e below s _ _ _ (T12.setTop (mkF m 131 #[.val (.int p0), .val (.int p1), .val (.int p2), .val (.int (1 : Int32)), .val (.ref aM), .val (.int ((XT.ushr p2 (1 : Int32)) &&& (3 : Int32))), .val (.int (0 : Int32)), .val (.int (0 : Int32)), .val (.double (18442240474082181120 : UInt64)), .second, .val (.double (FP.i2d p0)), .second, .val (.double (FP.i2d p1)), .second, .unset] []))
        refine Goes.st (fun t k => XS.iloadN X12.here hx rfl (hb hby at_131) rfl k) ?_
        show Goes p e below s _ _ _ (T12.setTop (mkF m 132 #[.val (.int p0), .val (.int p1), .val (.int p2), .val (.int (1 : Int32)), .val (.ref aM), .val (.int ((XT.ushr p2 (1 : Int32)) &&& (3 : Int32))), .val (.int (0 : Int32)), .val (.int (0 : Int32)), .val (.double (18442240474082181120 : UInt64)), .second, .val (.double (FP.i2d p0)), .second, .val (.double (FP.i2d p1)), .second, .unset] [(.int p0)]))
        refine Goes.st (fun t k => XS.iloadN X12.here hx rfl (hb hby at_132) rfl k) ?_
        show Goes p e below s _ _ _ (T12.setTop (mkF m 133 #[.val (.int p0), .val (.int p1), .val (.int p2), .val (.int (1 : Int32)), .val (.ref aM), .val (.int ((XT.ushr p2 (1 : Int32)) &&& (3 : Int32))), .val (.int (0 : Int32)), .val (.int (0 : Int32)), .val (.double (18442240474082181120 : UInt64)), .second, .val (.double (FP.i2d p0)), .second, .val (.double (FP.i2d p1)), .second, .unset] [(.int p1), (.int p0)]))
        by_cases c15 : p1 < p0
        · refine Goes.st (fun t k => XS.icmpNo X12.here hx rfl (hb hby at_133) rfl (tlt c15).2.2.2 k) ?_
          show Goes p e below s _ _ _ (T12.setTop (mkF m 136 #[.val (.int p0), .val (.int p1), .val (.int p2), .val (.int (1 : Int32)), .val (.ref aM), .val (.int ((XT.ushr p2 (1 : Int32)) &&& (3 : Int32))), .val (.int (0 : Int32)), .val (.int (0 : Int32)), .val (.double (18442240474082181120 : UInt64)), .second, .val (.double (FP.i2d p0)), .second, .val (.double (FP.i2d p1)), .second, .unset] []))
          refine Goes.st (fun t k => XS.iconst X12.here hx rfl (hb hby at_136) k) ?_
          show Goes p e below s _ _ _ (T12.setTop (mkF m 137 #[.val (.int p0), .val (.int p1), .val (.int p2), .val (.int (1 : Int32)), .val (.ref aM), .val (.int ((XT.ushr p2 (1 : Int32)) &&& (3 : Int32))), .val (.int (0 : Int32)), .val (.int (0 : Int32)), .val (.double (18442240474082181120 : UInt64)), .second, .val (.double (FP.i2d p0)), .second, .val (.double (FP.i2d p1)), .second, .unset] [(.int (1 : Int32))]))
          refine Goes.st (fun t k => XS.goto X12.here hx rfl (pc0 := 137) (pc' := 141) rfl (hb hby at_137) (by decide) (by decide) k) ?_
          show Goes p e below s _ _ _ (T12.setTop (mkF m 141 #[.val (.int p0), .val (.int p1), .val (.int p2), .val (.int (1 : Int32)), .val (.ref aM), .val (.int ((XT.ushr p2 (1 : Int32)) &&& (3 : Int32))), .val (.int (0 : Int32)), .val (.int (0 : Int32)), .val (.double (18442240474082181120 : UInt64)), .second, .val (.double (FP.i2d p0)), .second, .val (.double (FP.i2d p1)), .second, .unset] [(.int (1 : Int32))]))
          refine Goes.st (fun t k => XS.istore X12.here hx rfl (hb hby at_141) rfl (l' := #[.val (.int p0), .val (.int p1), .val (.int p2), .val (.int (1 : Int32)), .val (.ref aM), .val (.int ((XT.ushr p2 (1 : Int32)) &&& (3 : Int32))), .val (.int (0 : Int32)), .val (.int (0 : Int32)), .val (.double (18442240474082181120 : UInt64)), .second, .val (.double (FP.i2d p0)), .second, .val (.double (FP.i2d p1)), .second, .val (.int (1 : Int32))]) rfl k) ?_
          show Goes p e below s _ _ _ (T12.setTop (mkF m 143 #[.val (.int p0), .val (.int p1), .val (.int p2), .val (.int (1 : Int32)), .val (.ref aM), .val (.int ((XT.ushr p2 (1 : Int32)) &&& (3 : Int32))), .val (.int (0 : Int32)), .val (.int (0 : Int32)), .val (.double (18442240474082181120 : UInt64)), .second, .val (.double (FP.i2d p0)), .second, .val (.double (FP.i2d p1)), .second, .val (.int (1 : Int32))] []))
          refine Goes.st (fun t k => XS.goto X12.here hx rfl (pc0 := 143) (pc' := 158) rfl (hb hby at_143) (by decide) (by decide) k) ?_
          show Goes p e below s _ _ _ (T12.setTop (mkF m 158 #[.val (.int p0), .val (.int p1), .val (.int p2), .val (.int (1 : Int32)), .val (.ref aM), .val (.int ((XT.ushr p2 (1 : Int32)) &&& (3 : Int32))), .val (.int (0 : Int32)), .val (.int (0 : Int32)), .val (.double (18442240474082181120 : UInt64)), .second, .val (.double (FP.i2d p0)), .second, .val (.double (FP.i2d p1)), .second, .val (.int (1 : Int32))] []))
          refine Goes.st (fun t k => XS.aload X12.here hx rfl (hb hby at_158) rfl rfl k) ?_
          show Goes p e below s _ _ _ (T12.setTop (mkF m 160 #[.val (.int p0), .val (.int p1), .val (.int p2), .val (.int (1 : Int32)), .val (.ref aM), .val (.int ((XT.ushr p2 (1 : Int32)) &&& (3 : Int32))), .val (.int (0 : Int32)), .val (.int (0 : Int32)), .val (.double (18442240474082181120 : UInt64)), .second, .val (.double (FP.i2d p0)), .second, .val (.double (FP.i2d p1)), .second, .val (.int (1 : Int32))] [(.ref aM)]))
          refine Goes.st (fun t k => XS.dload X12.here hx rfl (hb hby at_160) rfl k) ?_
          show Goes p e below s _ _ _ (T12.setTop (mkF m 162 #[.val (.int p0), .val (.int p1), .val (.int p2), .val (.int (1 : Int32)), .val (.ref aM), .val (.int ((XT.ushr p2 (1 : Int32)) &&& (3 : Int32))), .val (.int (0 : Int32)), .val (.int (0 : Int32)), .val (.double (18442240474082181120 : UInt64)), .second, .val (.double (FP.i2d p0)), .second, .val (.double (FP.i2d p1)), .second, .val (.int (1 : Int32))] [(.double (FP.i2d p0)), (.ref aM)]))
          refine Goes.st (fun t k => XS.dload X12.here hx rfl (hb hby at_162) rfl k) ?_
          show Goes p e below s _ _ _ (T12.setTop (mkF m 164 #[.val (.int p0), .val (.int p1), .val (.int p2), .val (.int (1 : Int32)), .val (.ref aM), .val (.int ((XT.ushr p2 (1 : Int32)) &&& (3 : Int32))), .val (.int (0 : Int32)), .val (.int (0 : Int32)), .val (.double (18442240474082181120 : UInt64)), .second, .val (.double (FP.i2d p0)), .second, .val (.double (FP.i2d p1)), .second, .val (.int (1 : Int32))] [(.double (FP.i2d p1)), (.double (FP.i2d p0)), (.ref aM)]))
          obtain ⟨cq16, kq16, qa16, qb16, qc16⟩ := isOf hZ e12 E1
          obtain ⟨_, _, ⟨T16, L16, k16, n16⟩, -, X16, ⟨Lc16, hQ16, l16, y16, z16⟩, st16⟩ := X12.virtualBack hx (y := (⟨"com/example/parley/parley/Objective", "isBetter", "(DD)Z"⟩ : MethodName)) (z := (⟨"com/example/parley/parley/Objective", "isBetter", "(DD)Z"⟩ : MethodName)) hown (mvT hZ (hw _ (List.mem_of_getElem? (i := 4) rfl))) (mvT hZ (hw _ (List.mem_of_getElem? (i := 5) rfl))) (notFace_of_selects (args := #[]) (mvT hZ (hw _ (List.mem_of_getElem? (i := 7) rfl)))) (mvT hZ (hw _ (List.mem_of_getElem? (i := 7) rfl))) (mvT hZ (hw _ (List.mem_of_getElem? (i := 6) rfl))) (by decide) (backOf (W := 0) (rmB l Z a0 hw [] aM (FP.i2d p0) (FP.i2d p1) aM h0 n0 Z0 S1) hZ (hw _ (List.mem_of_getElem? (i := 8) rfl)) (hw _ (List.mem_of_getElem? (i := 1) rfl)) (by decide) (by decide)) qa16 qc16 (g := (mkF m 164 #[.val (.int p0), .val (.int p1), .val (.int p2), .val (.int (1 : Int32)), .val (.ref aM), .val (.int ((XT.ushr p2 (1 : Int32)) &&& (3 : Int32))), .val (.int (0 : Int32)), .val (.int (0 : Int32)), .val (.double (18442240474082181120 : UInt64)), .second, .val (.double (FP.i2d p0)), .second, .val (.double (FP.i2d p1)), .second, .val (.int (1 : Int32))] [(.double (FP.i2d p1)), (.double (FP.i2d p0)), (.ref aM)])) rfl (by rw [hml]; rfl) (Steps.refl _) (argsL := [(.double (FP.i2d p0)), (.double (FP.i2d p1))]) (rest := []) (lenOf pd__DD_Z_b14 rfl) rfl (by show 2 * 0 + _ ≤ _; exact Nat.le_of_eq rfl) (hb hby at_164) (fun _ _ => ⟨rfl, e12, (by decide : 0 + 0 ≤ 0), (by decide : 0 + 0 ≤ 0)⟩)
          dsimp only [Pt.U, Pt.locs, Pt.cells, Pt.slots] at X16 l16 y16 z16 st16 hQ16
          subst l16 y16 z16
          obtain ⟨rfl, N16q, eh16⟩ := hQ16
          have r16 : isB aM aM (FP.i2d p0) (FP.i2d p1) = (1 : Int32) := (own_maxI p0 p1).trans (if_pos c15)
          rw [r16] at st16
          have N16 := Fr.app N0 N16q
          refine Goes.sts st16 ?_
          show Goes p e below s _ _ _ (T16.setTop (mkF m 167 #[.val (.int p0), .val (.int p1), .val (.int p2), .val (.int (1 : Int32)), .val (.ref aM), .val (.int ((XT.ushr p2 (1 : Int32)) &&& (3 : Int32))), .val (.int (0 : Int32)), .val (.int (0 : Int32)), .val (.double (18442240474082181120 : UInt64)), .second, .val (.double (FP.i2d p0)), .second, .val (.double (FP.i2d p1)), .second, .val (.int (1 : Int32))] [(.int (1 : Int32))]))
          refine Goes.st (fun t k => XS.iload X16.here hx rfl (hb hby at_167) rfl k) ?_
          show Goes p e below s _ _ _ (T16.setTop (mkF m 169 #[.val (.int p0), .val (.int p1), .val (.int p2), .val (.int (1 : Int32)), .val (.ref aM), .val (.int ((XT.ushr p2 (1 : Int32)) &&& (3 : Int32))), .val (.int (0 : Int32)), .val (.int (0 : Int32)), .val (.double (18442240474082181120 : UInt64)), .second, .val (.double (FP.i2d p0)), .second, .val (.double (FP.i2d p1)), .second, .val (.int (1 : Int32))] [(.int (1 : Int32)), (.int (1 : Int32))]))
          refine Goes.st (fun t k => XS.icmpNo X16.here hx rfl (hb hby at_169) rfl (by decide) k) ?_
          show Goes p e below s _ _ _ (T16.setTop (mkF m 172 #[.val (.int p0), .val (.int p1), .val (.int p2), .val (.int (1 : Int32)), .val (.ref aM), .val (.int ((XT.ushr p2 (1 : Int32)) &&& (3 : Int32))), .val (.int (0 : Int32)), .val (.int (0 : Int32)), .val (.double (18442240474082181120 : UInt64)), .second, .val (.double (FP.i2d p0)), .second, .val (.double (FP.i2d p1)), .second, .val (.int (1 : Int32))] []))
          refine Goes.st (fun t k => XS.iconst X16.here hx rfl (hb hby at_172) k) ?_
          show Goes p e below s _ _ _ (T16.setTop (mkF m 173 #[.val (.int p0), .val (.int p1), .val (.int p2), .val (.int (1 : Int32)), .val (.ref aM), .val (.int ((XT.ushr p2 (1 : Int32)) &&& (3 : Int32))), .val (.int (0 : Int32)), .val (.int (0 : Int32)), .val (.double (18442240474082181120 : UInt64)), .second, .val (.double (FP.i2d p0)), .second, .val (.double (FP.i2d p1)), .second, .val (.int (1 : Int32))] [(.int (1 : Int32))]))
          refine Goes.st (fun t k => XS.goto X16.here hx rfl (pc0 := 173) (pc' := 177) rfl (hb hby at_173) (by decide) (by decide) k) ?_
          show Goes p e below s _ _ _ (T16.setTop (mkF m 177 #[.val (.int p0), .val (.int p1), .val (.int p2), .val (.int (1 : Int32)), .val (.ref aM), .val (.int ((XT.ushr p2 (1 : Int32)) &&& (3 : Int32))), .val (.int (0 : Int32)), .val (.int (0 : Int32)), .val (.double (18442240474082181120 : UInt64)), .second, .val (.double (FP.i2d p0)), .second, .val (.double (FP.i2d p1)), .second, .val (.int (1 : Int32))] [(.int (1 : Int32))]))
          refine Goes.retN X16 hx hlk hret (by simp) (hb hby at_177) (by decide) ?_ (by decide) (by decide)
          rw [eh16]
          exact ⟨rfl, N16⟩
        · refine Goes.st (fun t k => XS.icmpYes X12.here hx rfl (pc0 := 133) (pc' := 140) rfl (hb hby at_133) rfl (flt c15).2.2.2 (by decide) (by decide) k) ?_
          show Goes p e below s _ _ _ (T12.setTop (mkF m 140 #[.val (.int p0), .val (.int p1), .val (.int p2), .val (.int (1 : Int32)), .val (.ref aM), .val (.int ((XT.ushr p2 (1 : Int32)) &&& (3 : Int32))), .val (.int (0 : Int32)), .val (.int (0 : Int32)), .val (.double (18442240474082181120 : UInt64)), .second, .val (.double (FP.i2d p0)), .second, .val (.double (FP.i2d p1)), .second, .unset] []))
          refine Goes.st (fun t k => XS.iconst X12.here hx rfl (hb hby at_140) k) ?_
          show Goes p e below s _ _ _ (T12.setTop (mkF m 141 #[.val (.int p0), .val (.int p1), .val (.int p2), .val (.int (1 : Int32)), .val (.ref aM), .val (.int ((XT.ushr p2 (1 : Int32)) &&& (3 : Int32))), .val (.int (0 : Int32)), .val (.int (0 : Int32)), .val (.double (18442240474082181120 : UInt64)), .second, .val (.double (FP.i2d p0)), .second, .val (.double (FP.i2d p1)), .second, .unset] [(.int (0 : Int32))]))
          refine Goes.st (fun t k => XS.istore X12.here hx rfl (hb hby at_141) rfl (l' := #[.val (.int p0), .val (.int p1), .val (.int p2), .val (.int (1 : Int32)), .val (.ref aM), .val (.int ((XT.ushr p2 (1 : Int32)) &&& (3 : Int32))), .val (.int (0 : Int32)), .val (.int (0 : Int32)), .val (.double (18442240474082181120 : UInt64)), .second, .val (.double (FP.i2d p0)), .second, .val (.double (FP.i2d p1)), .second, .val (.int (0 : Int32))]) rfl k) ?_
          show Goes p e below s _ _ _ (T12.setTop (mkF m 143 #[.val (.int p0), .val (.int p1), .val (.int p2), .val (.int (1 : Int32)), .val (.ref aM), .val (.int ((XT.ushr p2 (1 : Int32)) &&& (3 : Int32))), .val (.int (0 : Int32)), .val (.int (0 : Int32)), .val (.double (18442240474082181120 : UInt64)), .second, .val (.double (FP.i2d p0)), .second, .val (.double (FP.i2d p1)), .second, .val (.int (0 : Int32))] []))
          refine Goes.st (fun t k => XS.goto X12.here hx rfl (pc0 := 143) (pc' := 158) rfl (hb hby at_143) (by decide) (by decide) k) ?_
          show Goes p e below s _ _ _ (T12.setTop (mkF m 158 #[.val (.int p0), .val (.int p1), .val (.int p2), .val (.int (1 : Int32)), .val (.ref aM), .val (.int ((XT.ushr p2 (1 : Int32)) &&& (3 : Int32))), .val (.int (0 : Int32)), .val (.int (0 : Int32)), .val (.double (18442240474082181120 : UInt64)), .second, .val (.double (FP.i2d p0)), .second, .val (.double (FP.i2d p1)), .second, .val (.int (0 : Int32))] []))
          refine Goes.st (fun t k => XS.aload X12.here hx rfl (hb hby at_158) rfl rfl k) ?_
          show Goes p e below s _ _ _ (T12.setTop (mkF m 160 #[.val (.int p0), .val (.int p1), .val (.int p2), .val (.int (1 : Int32)), .val (.ref aM), .val (.int ((XT.ushr p2 (1 : Int32)) &&& (3 : Int32))), .val (.int (0 : Int32)), .val (.int (0 : Int32)), .val (.double (18442240474082181120 : UInt64)), .second, .val (.double (FP.i2d p0)), .second, .val (.double (FP.i2d p1)), .second, .val (.int (0 : Int32))] [(.ref aM)]))
          refine Goes.st (fun t k => XS.dload X12.here hx rfl (hb hby at_160) rfl k) ?_
          show Goes p e below s _ _ _ (T12.setTop (mkF m 162 #[.val (.int p0), .val (.int p1), .val (.int p2), .val (.int (1 : Int32)), .val (.ref aM), .val (.int ((XT.ushr p2 (1 : Int32)) &&& (3 : Int32))), .val (.int (0 : Int32)), .val (.int (0 : Int32)), .val (.double (18442240474082181120 : UInt64)), .second, .val (.double (FP.i2d p0)), .second, .val (.double (FP.i2d p1)), .second, .val (.int (0 : Int32))] [(.double (FP.i2d p0)), (.ref aM)]))
          refine Goes.st (fun t k => XS.dload X12.here hx rfl (hb hby at_162) rfl k) ?_
          show Goes p e below s _ _ _ (T12.setTop (mkF m 164 #[.val (.int p0), .val (.int p1), .val (.int p2), .val (.int (1 : Int32)), .val (.ref aM), .val (.int ((XT.ushr p2 (1 : Int32)) &&& (3 : Int32))), .val (.int (0 : Int32)), .val (.int (0 : Int32)), .val (.double (18442240474082181120 : UInt64)), .second, .val (.double (FP.i2d p0)), .second, .val (.double (FP.i2d p1)), .second, .val (.int (0 : Int32))] [(.double (FP.i2d p1)), (.double (FP.i2d p0)), (.ref aM)]))
          obtain ⟨cq17, kq17, qa17, qb17, qc17⟩ := isOf hZ e12 E1
          obtain ⟨_, _, ⟨T17, L17, k17, n17⟩, -, X17, ⟨Lc17, hQ17, l17, y17, z17⟩, st17⟩ := X12.virtualBack hx (y := (⟨"com/example/parley/parley/Objective", "isBetter", "(DD)Z"⟩ : MethodName)) (z := (⟨"com/example/parley/parley/Objective", "isBetter", "(DD)Z"⟩ : MethodName)) hown (mvT hZ (hw _ (List.mem_of_getElem? (i := 4) rfl))) (mvT hZ (hw _ (List.mem_of_getElem? (i := 5) rfl))) (notFace_of_selects (args := #[]) (mvT hZ (hw _ (List.mem_of_getElem? (i := 7) rfl)))) (mvT hZ (hw _ (List.mem_of_getElem? (i := 7) rfl))) (mvT hZ (hw _ (List.mem_of_getElem? (i := 6) rfl))) (by decide) (backOf (W := 0) (rmB l Z a0 hw [] aM (FP.i2d p0) (FP.i2d p1) aM h0 n0 Z0 S1) hZ (hw _ (List.mem_of_getElem? (i := 8) rfl)) (hw _ (List.mem_of_getElem? (i := 1) rfl)) (by decide) (by decide)) qa17 qc17 (g := (mkF m 164 #[.val (.int p0), .val (.int p1), .val (.int p2), .val (.int (1 : Int32)), .val (.ref aM), .val (.int ((XT.ushr p2 (1 : Int32)) &&& (3 : Int32))), .val (.int (0 : Int32)), .val (.int (0 : Int32)), .val (.double (18442240474082181120 : UInt64)), .second, .val (.double (FP.i2d p0)), .second, .val (.double (FP.i2d p1)), .second, .val (.int (0 : Int32))] [(.double (FP.i2d p1)), (.double (FP.i2d p0)), (.ref aM)])) rfl (by rw [hml]; rfl) (Steps.refl _) (argsL := [(.double (FP.i2d p0)), (.double (FP.i2d p1))]) (rest := []) (lenOf pd__DD_Z_b14 rfl) rfl (by show 2 * 0 + _ ≤ _; exact Nat.le_of_eq rfl) (hb hby at_164) (fun _ _ => ⟨rfl, e12, (by decide : 0 + 0 ≤ 0), (by decide : 0 + 0 ≤ 0)⟩)
          dsimp only [Pt.U, Pt.locs, Pt.cells, Pt.slots] at X17 l17 y17 z17 st17 hQ17
          subst l17 y17 z17
          obtain ⟨rfl, N17q, eh17⟩ := hQ17
          have r17 : isB aM aM (FP.i2d p0) (FP.i2d p1) = (0 : Int32) := (own_maxI p0 p1).trans (if_neg c15)
          rw [r17] at st17
          have N17 := Fr.app N0 N17q
          refine Goes.sts st17 ?_
          show Goes p e below s _ _ _ (T17.setTop (mkF m 167 #[.val (.int p0), .val (.int p1), .val (.int p2), .val (.int (1 : Int32)), .val (.ref aM), .val (.int ((XT.ushr p2 (1 : Int32)) &&& (3 : Int32))), .val (.int (0 : Int32)), .val (.int (0 : Int32)), .val (.double (18442240474082181120 : UInt64)), .second, .val (.double (FP.i2d p0)), .second, .val (.double (FP.i2d p1)), .second, .val (.int (0 : Int32))] [(.int (0 : Int32))]))
          refine Goes.st (fun t k => XS.iload X17.here hx rfl (hb hby at_167) rfl k) ?_
          show Goes p e below s _ _ _ (T17.setTop (mkF m 169 #[.val (.int p0), .val (.int p1), .val (.int p2), .val (.int (1 : Int32)), .val (.ref aM), .val (.int ((XT.ushr p2 (1 : Int32)) &&& (3 : Int32))), .val (.int (0 : Int32)), .val (.int (0 : Int32)), .val (.double (18442240474082181120 : UInt64)), .second, .val (.double (FP.i2d p0)), .second, .val (.double (FP.i2d p1)), .second, .val (.int (0 : Int32))] [(.int (0 : Int32)), (.int (0 : Int32))]))
          refine Goes.st (fun t k => XS.icmpNo X17.here hx rfl (hb hby at_169) rfl (by decide) k) ?_
          show Goes p e below s _ _ _ (T17.setTop (mkF m 172 #[.val (.int p0), .val (.int p1), .val (.int p2), .val (.int (1 : Int32)), .val (.ref aM), .val (.int ((XT.ushr p2 (1 : Int32)) &&& (3 : Int32))), .val (.int (0 : Int32)), .val (.int (0 : Int32)), .val (.double (18442240474082181120 : UInt64)), .second, .val (.double (FP.i2d p0)), .second, .val (.double (FP.i2d p1)), .second, .val (.int (0 : Int32))] []))
          refine Goes.st (fun t k => XS.iconst X17.here hx rfl (hb hby at_172) k) ?_
          show Goes p e below s _ _ _ (T17.setTop (mkF m 173 #[.val (.int p0), .val (.int p1), .val (.int p2), .val (.int (1 : Int32)), .val (.ref aM), .val (.int ((XT.ushr p2 (1 : Int32)) &&& (3 : Int32))), .val (.int (0 : Int32)), .val (.int (0 : Int32)), .val (.double (18442240474082181120 : UInt64)), .second, .val (.double (FP.i2d p0)), .second, .val (.double (FP.i2d p1)), .second, .val (.int (0 : Int32))] [(.int (1 : Int32))]))
          refine Goes.st (fun t k => XS.goto X17.here hx rfl (pc0 := 173) (pc' := 177) rfl (hb hby at_173) (by decide) (by decide) k) ?_
          show Goes p e below s _ _ _ (T17.setTop (mkF m 177 #[.val (.int p0), .val (.int p1), .val (.int p2), .val (.int (1 : Int32)), .val (.ref aM), .val (.int ((XT.ushr p2 (1 : Int32)) &&& (3 : Int32))), .val (.int (0 : Int32)), .val (.int (0 : Int32)), .val (.double (18442240474082181120 : UInt64)), .second, .val (.double (FP.i2d p0)), .second, .val (.double (FP.i2d p1)), .second, .val (.int (0 : Int32))] [(.int (1 : Int32))]))
          refine Goes.retN X17 hx hlk hret (by simp) (hb hby at_177) (by decide) ?_ (by decide) (by decide)
          rw [eh17]
          exact ⟨rfl, N17⟩
      · refine Goes.st (fun t k => XS.ifNo X12.here hx rfl (hb hby at_52) rfl ((if0 _ _).trans (feq c14).1) k) ?_
        show Goes p e below s _ _ _ (T12.setTop (mkF m 55 #[.val (.int p0), .val (.int p1), .val (.int p2), .val (.int (1 : Int32)), .val (.ref aM), .val (.int ((XT.ushr p2 (1 : Int32)) &&& (3 : Int32))), .val (.int (0 : Int32)), .unset, .unset, .unset, .unset, .unset, .unset, .unset, .unset] []))
        refine Goes.st (fun t k => XS.iconst X12.here hx rfl (hb hby at_55) k) ?_
        show Goes p e below s _ _ _ (T12.setTop (mkF m 56 #[.val (.int p0), .val (.int p1), .val (.int p2), .val (.int (1 : Int32)), .val (.ref aM), .val (.int ((XT.ushr p2 (1 : Int32)) &&& (3 : Int32))), .val (.int (0 : Int32)), .unset, .unset, .unset, .unset, .unset, .unset, .unset, .unset] [(.int (1 : Int32))]))
        refine Goes.st (fun t k => XS.goto X12.here hx rfl (pc0 := 56) (pc' := 60) rfl (hb hby at_56) (by decide) (by decide) k) ?_
        show Goes p e below s _ _ _ (T12.setTop (mkF m 60 #[.val (.int p0), .val (.int p1), .val (.int p2), .val (.int (1 : Int32)), .val (.ref aM), .val (.int ((XT.ushr p2 (1 : Int32)) &&& (3 : Int32))), .val (.int (0 : Int32)), .unset, .unset, .unset, .unset, .unset, .unset, .unset, .unset] [(.int (1 : Int32))]))
        refine Goes.st (fun t k => XS.istore X12.here hx rfl (hb hby at_60) rfl (l' := #[.val (.int p0), .val (.int p1), .val (.int p2), .val (.int (1 : Int32)), .val (.ref aM), .val (.int ((XT.ushr p2 (1 : Int32)) &&& (3 : Int32))), .val (.int (0 : Int32)), .val (.int (1 : Int32)), .unset, .unset, .unset, .unset, .unset, .unset, .unset]) rfl k) ?_
        show Goes p e below s _ _ _ (T12.setTop (mkF m 62 #[.val (.int p0), .val (.int p1), .val (.int p2), .val (.int (1 : Int32)), .val (.ref aM), .val (.int ((XT.ushr p2 (1 : Int32)) &&& (3 : Int32))), .val (.int (0 : Int32)), .val (.int (1 : Int32)), .unset, .unset, .unset, .unset, .unset, .unset, .unset] []))
        refine Goes.st (fun t k => XS.iloadN X12.here hx rfl (hb hby at_62) rfl k) ?_
        show Goes p e below s _ _ _ (T12.setTop (mkF m 63 #[.val (.int p0), .val (.int p1), .val (.int p2), .val (.int (1 : Int32)), .val (.ref aM), .val (.int ((XT.ushr p2 (1 : Int32)) &&& (3 : Int32))), .val (.int (0 : Int32)), .val (.int (1 : Int32)), .unset, .unset, .unset, .unset, .unset, .unset, .unset] [(.int (1 : Int32))]))
        refine Goes.st (fun t k => XS.ifNo X12.here hx rfl (hb hby at_63) rfl (by decide) k) ?_
        show Goes p e below s _ _ _ (T12.setTop (mkF m 66 #[.val (.int p0), .val (.int p1), .val (.int p2), .val (.int (1 : Int32)), .val (.ref aM), .val (.int ((XT.ushr p2 (1 : Int32)) &&& (3 : Int32))), .val (.int (0 : Int32)), .val (.int (1 : Int32)), .unset, .unset, .unset, .unset, .unset, .unset, .unset] []))
        refine Goes.st (fun t k => X12.ldc2DoubleC hx hown (mvT hZ (hw _ (List.mem_of_getElem? (i := 12) rfl))) (g := (mkF m 66 #[.val (.int p0), .val (.int p1), .val (.int p2), .val (.int (1 : Int32)), .val (.ref aM), .val (.int ((XT.ushr p2 (1 : Int32)) &&& (3 : Int32))), .val (.int (0 : Int32)), .val (.int (1 : Int32)), .unset, .unset, .unset, .unset, .unset, .unset, .unset] [])) rfl (hb hby at_66) t k) ?_
        show Goes p e below s _ _ _ (T12.setTop (mkF m 69 #[.val (.int p0), .val (.int p1), .val (.int p2), .val (.int (1 : Int32)), .val (.ref aM), .val (.int ((XT.ushr p2 (1 : Int32)) &&& (3 : Int32))), .val (.int (0 : Int32)), .val (.int (1 : Int32)), .unset, .unset, .unset, .unset, .unset, .unset, .unset] [(.double (18442240474082181120 : UInt64))]))
        refine Goes.st (fun t k => XS.goto X12.here hx rfl (pc0 := 69) (pc' := 75) rfl (hb hby at_69) (by decide) (by decide) k) ?_
        show Goes p e below s _ _ _ (T12.setTop (mkF m 75 #[.val (.int p0), .val (.int p1), .val (.int p2), .val (.int (1 : Int32)), .val (.ref aM), .val (.int ((XT.ushr p2 (1 : Int32)) &&& (3 : Int32))), .val (.int (0 : Int32)), .val (.int (1 : Int32)), .unset, .unset, .unset, .unset, .unset, .unset, .unset] [(.double (18442240474082181120 : UInt64))]))
        refine Goes.st (fun t k => XS.dstore X12.here hx rfl (hb hby at_75) rfl (l' := #[.val (.int p0), .val (.int p1), .val (.int p2), .val (.int (1 : Int32)), .val (.ref aM), .val (.int ((XT.ushr p2 (1 : Int32)) &&& (3 : Int32))), .val (.int (0 : Int32)), .val (.int (1 : Int32)), .val (.double (18442240474082181120 : UInt64)), .second, .unset, .unset, .unset, .unset, .unset]) rfl k) ?_
        show Goes p e below s _ _ _ (T12.setTop (mkF m 77 #[.val (.int p0), .val (.int p1), .val (.int p2), .val (.int (1 : Int32)), .val (.ref aM), .val (.int ((XT.ushr p2 (1 : Int32)) &&& (3 : Int32))), .val (.int (0 : Int32)), .val (.int (1 : Int32)), .val (.double (18442240474082181120 : UInt64)), .second, .unset, .unset, .unset, .unset, .unset] []))
        refine Goes.st (fun t k => XS.iload X12.here hx rfl (hb hby at_77) rfl k) ?_
        show Goes p e below s _ _ _ (T12.setTop (mkF m 79 #[.val (.int p0), .val (.int p1), .val (.int p2), .val (.int (1 : Int32)), .val (.ref aM), .val (.int ((XT.ushr p2 (1 : Int32)) &&& (3 : Int32))), .val (.int (0 : Int32)), .val (.int (1 : Int32)), .val (.double (18442240474082181120 : UInt64)), .second, .unset, .unset, .unset, .unset, .unset] [(.int (0 : Int32))]))
        refine Goes.st (fun t k => XS.ifYes X12.here hx rfl (pc0 := 79) (pc' := 87) rfl (hb hby at_79) rfl (by decide) (by decide) (by decide) k) ?_
        show Goes p e below s _ _ _ (T12.setTop (mkF m 87 #[.val (.int p0), .val (.int p1), .val (.int p2), .val (.int (1 : Int32)), .val (.ref aM), .val (.int ((XT.ushr p2 (1 : Int32)) &&& (3 : Int32))), .val (.int (0 : Int32)), .val (.int (1 : Int32)), .val (.double (18442240474082181120 : UInt64)), .second, .unset, .unset, .unset, .unset, .unset] []))
        refine Goes.st (fun t k => XS.iloadN X12.here hx rfl (hb hby at_87) rfl k) ?_
        show Goes p e below s _ _ _ (T12.setTop (mkF m 88 #[.val (.int p0), .val (.int p1), .val (.int p2), .val (.int (1 : Int32)), .val (.ref aM), .val (.int ((XT.ushr p2 (1 : Int32)) &&& (3 : Int32))), .val (.int (0 : Int32)), .val (.int (1 : Int32)), .val (.double (18442240474082181120 : UInt64)), .second, .unset, .unset, .unset, .unset, .unset] [(.int p0)]))
        refine Goes.st (fun t k => XS.i2dS X12.here hx rfl (hb hby at_88) rfl (v := (FP.i2d p0)) rfl k) ?_
        show Goes p e below s _ _ _ (T12.setTop (mkF m 89 #[.val (.int p0), .val (.int p1), .val (.int p2), .val (.int (1 : Int32)), .val (.ref aM), .val (.int ((XT.ushr p2 (1 : Int32)) &&& (3 : Int32))), .val (.int (0 : Int32)), .val (.int (1 : Int32)), .val (.double (18442240474082181120 : UInt64)), .second, .unset, .unset, .unset, .unset, .unset] [(.double (FP.i2d p0))]))
        refine Goes.st (fun t k => XS.dstore X12.here hx rfl (hb hby at_89) rfl (l' := #[.val (.int p0), .val (.int p1), .val (.int p2), .val (.int (1 : Int32)), .val (.ref aM), .val (.int ((XT.ushr p2 (1 : Int32)) &&& (3 : Int32))), .val (.int (0 : Int32)), .val (.int (1 : Int32)), .val (.double (18442240474082181120 : UInt64)), .second, .val (.double (FP.i2d p0)), .second, .unset, .unset, .unset]) rfl k) ?_
        show Goes p e below s _ _ _ (T12.setTop (mkF m 91 #[.val (.int p0), .val (.int p1), .val (.int p2), .val (.int (1 : Int32)), .val (.ref aM), .val (.int ((XT.ushr p2 (1 : Int32)) &&& (3 : Int32))), .val (.int (0 : Int32)), .val (.int (1 : Int32)), .val (.double (18442240474082181120 : UInt64)), .second, .val (.double (FP.i2d p0)), .second, .unset, .unset, .unset] []))
        refine Goes.st (fun t k => XS.iload X12.here hx rfl (hb hby at_91) rfl k) ?_
        show Goes p e below s _ _ _ (T12.setTop (mkF m 93 #[.val (.int p0), .val (.int p1), .val (.int p2), .val (.int (1 : Int32)), .val (.ref aM), .val (.int ((XT.ushr p2 (1 : Int32)) &&& (3 : Int32))), .val (.int (0 : Int32)), .val (.int (1 : Int32)), .val (.double (18442240474082181120 : UInt64)), .second, .val (.double (FP.i2d p0)), .second, .unset, .unset, .unset] [(.int (1 : Int32))]))
        refine Goes.st (fun t k => XS.ifNo X12.here hx rfl (hb hby at_93) rfl (by decide) k) ?_
        show Goes p e below s _ _ _ (T12.setTop (mkF m 96 #[.val (.int p0), .val (.int p1), .val (.int p2), .val (.int (1 : Int32)), .val (.ref aM), .val (.int ((XT.ushr p2 (1 : Int32)) &&& (3 : Int32))), .val (.int (0 : Int32)), .val (.int (1 : Int32)), .val (.double (18442240474082181120 : UInt64)), .second, .val (.double (FP.i2d p0)), .second, .unset, .unset, .unset] []))
        refine Goes.st (fun t k => XS.dload X12.here hx rfl (hb hby at_96) rfl k) ?_
        show Goes p e below s _ _ _ (T12.setTop (mkF m 98 #[.val (.int p0), .val (.int p1), .val (.int p2), .val (.int (1 : Int32)), .val (.ref aM), .val (.int ((XT.ushr p2 (1 : Int32)) &&& (3 : Int32))), .val (.int (0 : Int32)), .val (.int (1 : Int32)), .val (.double (18442240474082181120 : UInt64)), .second, .val (.double (FP.i2d p0)), .second, .unset, .unset, .unset] [(.double (18442240474082181120 : UInt64))]))
        refine Goes.st (fun t k => XS.goto X12.here hx rfl (pc0 := 98) (pc' := 103) rfl (hb hby at_98) (by decide) (by decide) k) ?_
        show Goes p e below s _ _ _ (T12.setTop (mkF m 103 #[.val (.int p0), .val (.int p1), .val (.int p2), .val (.int (1 : Int32)), .val (.ref aM), .val (.int ((XT.ushr p2 (1 : Int32)) &&& (3 : Int32))), .val (.int (0 : Int32)), .val (.int (1 : Int32)), .val (.double (18442240474082181120 : UInt64)), .second, .val (.double (FP.i2d p0)), .second, .unset, .unset, .unset] [(.double (18442240474082181120 : UInt64))]))
        refine Goes.st (fun t k => XS.dstore X12.here hx rfl (hb hby at_103) rfl (l' := #[.val (.int p0), .val (.int p1), .val (.int p2), .val (.int (1 : Int32)), .val (.ref aM), .val (.int ((XT.ushr p2 (1 : Int32)) &&& (3 : Int32))), .val (.int (0 : Int32)), .val (.int (1 : Int32)), .val (.double (18442240474082181120 : UInt64)), .second, .val (.double (FP.i2d p0)), .second, .val (.double (18442240474082181120 : UInt64)), .second, .unset]) rfl k) ?_
        show Goes p e below s _ _ _ (T12.setTop (mkF m 105 #[.val (.int p0), .val (.int p1), .val (.int p2), .val (.int (1 : Int32)), .val (.ref aM), .val (.int ((XT.ushr p2 (1 : Int32)) &&& (3 : Int32))), .val (.int (0 : Int32)), .val (.int (1 : Int32)), .val (.double (18442240474082181120 : UInt64)), .second, .val (.double (FP.i2d p0)), .second, .val (.double (18442240474082181120 : UInt64)), .second, .unset] []))
        refine Goes.st (fun t k => XS.iload X12.here hx rfl (hb hby at_105) rfl k) ?_
        show Goes p e below s _ _ _ (T12.setTop (mkF m 107 #[.val (.int p0), .val (.int p1), .val (.int p2), .val (.int (1 : Int32)), .val (.ref aM), .val (.int ((XT.ushr p2 (1 : Int32)) &&& (3 : Int32))), .val (.int (0 : Int32)), .val (.int (1 : Int32)), .val (.double (18442240474082181120 : UInt64)), .second, .val (.double (FP.i2d p0)), .second, .val (.double (18442240474082181120 : UInt64)), .second, .unset] [(.int (0 : Int32))]))
        refine Goes.st (fun t k => XS.ifYes X12.here hx rfl (pc0 := 107) (pc' := 116) rfl (hb hby at_107) rfl (by decide) (by decide) (by decide) k) ?_
        show Goes p e below s _ _ _ (T12.setTop (mkF m 116 #[.val (.int p0), .val (.int p1), .val (.int p2), .val (.int (1 : Int32)), .val (.ref aM), .val (.int ((XT.ushr p2 (1 : Int32)) &&& (3 : Int32))), .val (.int (0 : Int32)), .val (.int (1 : Int32)), .val (.double (18442240474082181120 : UInt64)), .second, .val (.double (FP.i2d p0)), .second, .val (.double (18442240474082181120 : UInt64)), .second, .unset] []))
        refine Goes.st (fun t k => XS.iload X12.here hx rfl (hb hby at_116) rfl k) ?_
        show Goes p e below s _ _ _ (T12.setTop (mkF m 118 #[.val (.int p0), .val (.int p1), .val (.int p2), .val (.int (1 : Int32)), .val (.ref aM), .val (.int ((XT.ushr p2 (1 : Int32)) &&& (3 : Int32))), .val (.int (0 : Int32)), .val (.int (1 : Int32)), .val (.double (18442240474082181120 : UInt64)), .second, .val (.double (FP.i2d p0)), .second, .val (.double (18442240474082181120 : UInt64)), .second, .unset] [(.int (1 : Int32))]))
        refine Goes.st (fun t k => XS.ifNo X12.here hx rfl (hb hby at_118) rfl (by decide) k) ?_
        show Goes p e below s _ _ _ (T12.setTop (mkF m 121 #[.val (.int p0), .val (.int p1), .val (.int p2), .val (.int (1 : Int32)), .val (.ref aM), .val (.int ((XT.ushr p2 (1 : Int32)) &&& (3 : Int32))), .val (.int (0 : Int32)), .val (.int (1 : Int32)), .val (.double (18442240474082181120 : UInt64)), .second, .val (.double (FP.i2d p0)), .second, .val (.double (18442240474082181120 : UInt64)), .second, .unset] []))
        refine Goes.st (fun t k => XS.iconst X12.here hx rfl (hb hby at_121) k) ?_
        show Goes p e below s _ _ _ (T12.setTop (mkF m 122 #[.val (.int p0), .val (.int p1), .val (.int p2), .val (.int (1 : Int32)), .val (.ref aM), .val (.int ((XT.ushr p2 (1 : Int32)) &&& (3 : Int32))), .val (.int (0 : Int32)), .val (.int (1 : Int32)), .val (.double (18442240474082181120 : UInt64)), .second, .val (.double (FP.i2d p0)), .second, .val (.double (18442240474082181120 : UInt64)), .second, .unset] [(.int (1 : Int32))]))
        refine Goes.st (fun t k => XS.istore X12.here hx rfl (hb hby at_122) rfl (l' := #[.val (.int p0), .val (.int p1), .val (.int p2), .val (.int (1 : Int32)), .val (.ref aM), .val (.int ((XT.ushr p2 (1 : Int32)) &&& (3 : Int32))), .val (.int (0 : Int32)), .val (.int (1 : Int32)), .val (.double (18442240474082181120 : UInt64)), .second, .val (.double (FP.i2d p0)), .second, .val (.double (18442240474082181120 : UInt64)), .second, .val (.int (1 : Int32))]) rfl k) ?_
        show Goes p e below s _ _ _ (T12.setTop (mkF m 124 #[.val (.int p0), .val (.int p1), .val (.int p2), .val (.int (1 : Int32)), .val (.ref aM), .val (.int ((XT.ushr p2 (1 : Int32)) &&& (3 : Int32))), .val (.int (0 : Int32)), .val (.int (1 : Int32)), .val (.double (18442240474082181120 : UInt64)), .second, .val (.double (FP.i2d p0)), .second, .val (.double (18442240474082181120 : UInt64)), .second, .val (.int (1 : Int32))] []))
        refine Goes.st (fun t k => XS.goto X12.here hx rfl (pc0 := 124) (pc' := 158) rfl (hb hby at_124) (by decide) (by decide) k) ?_
        show Goes p e below s _ _ _ (T12.setTop (mkF m 158 #[.val (.int p0), .val (.int p1), .val (.int p2), .val (.int (1 : Int32)), .val (.ref aM), .val (.int ((XT.ushr p2 (1 : Int32)) &&& (3 : Int32))), .val (.int (0 : Int32)), .val (.int (1 : Int32)), .val (.double (18442240474082181120 : UInt64)), .second, .val (.double (FP.i2d p0)), .second, .val (.double (18442240474082181120 : UInt64)), .second, .val (.int (1 : Int32))] []))
        refine Goes.st (fun t k => XS.aload X12.here hx rfl (hb hby at_158) rfl rfl k) ?_
        show Goes p e below s _ _ _ (T12.setTop (mkF m 160 #[.val (.int p0), .val (.int p1), .val (.int p2), .val (.int (1 : Int32)), .val (.ref aM), .val (.int ((XT.ushr p2 (1 : Int32)) &&& (3 : Int32))), .val (.int (0 : Int32)), .val (.int (1 : Int32)), .val (.double (18442240474082181120 : UInt64)), .second, .val (.double (FP.i2d p0)), .second, .val (.double (18442240474082181120 : UInt64)), .second, .val (.int (1 : Int32))] [(.ref aM)]))
        refine Goes.st (fun t k => XS.dload X12.here hx rfl (hb hby at_160) rfl k) ?_
        show Goes p e below s _ _ _ (T12.setTop (mkF m 162 #[.val (.int p0), .val (.int p1), .val (.int p2), .val (.int (1 : Int32)), .val (.ref aM), .val (.int ((XT.ushr p2 (1 : Int32)) &&& (3 : Int32))), .val (.int (0 : Int32)), .val (.int (1 : Int32)), .val (.double (18442240474082181120 : UInt64)), .second, .val (.double (FP.i2d p0)), .second, .val (.double (18442240474082181120 : UInt64)), .second, .val (.int (1 : Int32))] [(.double (FP.i2d p0)), (.ref aM)]))
        refine Goes.st (fun t k => XS.dload X12.here hx rfl (hb hby at_162) rfl k) ?_
        show Goes p e below s _ _ _ (T12.setTop (mkF m 164 #[.val (.int p0), .val (.int p1), .val (.int p2), .val (.int (1 : Int32)), .val (.ref aM), .val (.int ((XT.ushr p2 (1 : Int32)) &&& (3 : Int32))), .val (.int (0 : Int32)), .val (.int (1 : Int32)), .val (.double (18442240474082181120 : UInt64)), .second, .val (.double (FP.i2d p0)), .second, .val (.double (18442240474082181120 : UInt64)), .second, .val (.int (1 : Int32))] [(.double (18442240474082181120 : UInt64)), (.double (FP.i2d p0)), (.ref aM)]))
        obtain ⟨cq18, kq18, qa18, qb18, qc18⟩ := isOf hZ e12 E1
        obtain ⟨_, _, ⟨T18, L18, k18, n18⟩, -, X18, ⟨Lc18, hQ18, l18, y18, z18⟩, st18⟩ := X12.virtualBack hx (y := (⟨"com/example/parley/parley/Objective", "isBetter", "(DD)Z"⟩ : MethodName)) (z := (⟨"com/example/parley/parley/Objective", "isBetter", "(DD)Z"⟩ : MethodName)) hown (mvT hZ (hw _ (List.mem_of_getElem? (i := 4) rfl))) (mvT hZ (hw _ (List.mem_of_getElem? (i := 5) rfl))) (notFace_of_selects (args := #[]) (mvT hZ (hw _ (List.mem_of_getElem? (i := 7) rfl)))) (mvT hZ (hw _ (List.mem_of_getElem? (i := 7) rfl))) (mvT hZ (hw _ (List.mem_of_getElem? (i := 6) rfl))) (by decide) (backOf (W := 0) (rmB l Z a0 hw [] aM (FP.i2d p0) (18442240474082181120 : UInt64) aM h0 n0 Z0 S1) hZ (hw _ (List.mem_of_getElem? (i := 8) rfl)) (hw _ (List.mem_of_getElem? (i := 1) rfl)) (by decide) (by decide)) qa18 qc18 (g := (mkF m 164 #[.val (.int p0), .val (.int p1), .val (.int p2), .val (.int (1 : Int32)), .val (.ref aM), .val (.int ((XT.ushr p2 (1 : Int32)) &&& (3 : Int32))), .val (.int (0 : Int32)), .val (.int (1 : Int32)), .val (.double (18442240474082181120 : UInt64)), .second, .val (.double (FP.i2d p0)), .second, .val (.double (18442240474082181120 : UInt64)), .second, .val (.int (1 : Int32))] [(.double (18442240474082181120 : UInt64)), (.double (FP.i2d p0)), (.ref aM)])) rfl (by rw [hml]; rfl) (Steps.refl _) (argsL := [(.double (FP.i2d p0)), (.double (18442240474082181120 : UInt64))]) (rest := []) (lenOf pd__DD_Z_b14 rfl) rfl (by show 2 * 0 + _ ≤ _; exact Nat.le_of_eq rfl) (hb hby at_164) (fun _ _ => ⟨rfl, e12, (by decide : 0 + 0 ≤ 0), (by decide : 0 + 0 ≤ 0)⟩)
        dsimp only [Pt.U, Pt.locs, Pt.cells, Pt.slots] at X18 l18 y18 z18 st18 hQ18
        subst l18 y18 z18
        obtain ⟨rfl, N18q, eh18⟩ := hQ18
        have r18 : isB aM aM (FP.i2d p0) (18442240474082181120 : UInt64) = (1 : Int32) := own_max3 p0
        rw [r18] at st18
        have N18 := Fr.app N0 N18q
        refine Goes.sts st18 ?_
        show Goes p e below s _ _ _ (T18.setTop (mkF m 167 #[.val (.int p0), .val (.int p1), .val (.int p2), .val (.int (1 : Int32)), .val (.ref aM), .val (.int ((XT.ushr p2 (1 : Int32)) &&& (3 : Int32))), .val (.int (0 : Int32)), .val (.int (1 : Int32)), .val (.double (18442240474082181120 : UInt64)), .second, .val (.double (FP.i2d p0)), .second, .val (.double (18442240474082181120 : UInt64)), .second, .val (.int (1 : Int32))] [(.int (1 : Int32))]))
        refine Goes.st (fun t k => XS.iload X18.here hx rfl (hb hby at_167) rfl k) ?_
        show Goes p e below s _ _ _ (T18.setTop (mkF m 169 #[.val (.int p0), .val (.int p1), .val (.int p2), .val (.int (1 : Int32)), .val (.ref aM), .val (.int ((XT.ushr p2 (1 : Int32)) &&& (3 : Int32))), .val (.int (0 : Int32)), .val (.int (1 : Int32)), .val (.double (18442240474082181120 : UInt64)), .second, .val (.double (FP.i2d p0)), .second, .val (.double (18442240474082181120 : UInt64)), .second, .val (.int (1 : Int32))] [(.int (1 : Int32)), (.int (1 : Int32))]))
        refine Goes.st (fun t k => XS.icmpNo X18.here hx rfl (hb hby at_169) rfl (by decide) k) ?_
        show Goes p e below s _ _ _ (T18.setTop (mkF m 172 #[.val (.int p0), .val (.int p1), .val (.int p2), .val (.int (1 : Int32)), .val (.ref aM), .val (.int ((XT.ushr p2 (1 : Int32)) &&& (3 : Int32))), .val (.int (0 : Int32)), .val (.int (1 : Int32)), .val (.double (18442240474082181120 : UInt64)), .second, .val (.double (FP.i2d p0)), .second, .val (.double (18442240474082181120 : UInt64)), .second, .val (.int (1 : Int32))] []))
        refine Goes.st (fun t k => XS.iconst X18.here hx rfl (hb hby at_172) k) ?_
        show Goes p e below s _ _ _ (T18.setTop (mkF m 173 #[.val (.int p0), .val (.int p1), .val (.int p2), .val (.int (1 : Int32)), .val (.ref aM), .val (.int ((XT.ushr p2 (1 : Int32)) &&& (3 : Int32))), .val (.int (0 : Int32)), .val (.int (1 : Int32)), .val (.double (18442240474082181120 : UInt64)), .second, .val (.double (FP.i2d p0)), .second, .val (.double (18442240474082181120 : UInt64)), .second, .val (.int (1 : Int32))] [(.int (1 : Int32))]))
        refine Goes.st (fun t k => XS.goto X18.here hx rfl (pc0 := 173) (pc' := 177) rfl (hb hby at_173) (by decide) (by decide) k) ?_
        show Goes p e below s _ _ _ (T18.setTop (mkF m 177 #[.val (.int p0), .val (.int p1), .val (.int p2), .val (.int (1 : Int32)), .val (.ref aM), .val (.int ((XT.ushr p2 (1 : Int32)) &&& (3 : Int32))), .val (.int (0 : Int32)), .val (.int (1 : Int32)), .val (.double (18442240474082181120 : UInt64)), .second, .val (.double (FP.i2d p0)), .second, .val (.double (18442240474082181120 : UInt64)), .second, .val (.int (1 : Int32))] [(.int (1 : Int32))]))
        refine Goes.retN X18 hx hlk hret (by simp) (hb hby at_177) (by decide) ?_ (by decide) (by decide)
        rw [eh18]
        exact ⟨rfl, N18⟩
    · refine Goes.st (fun t k => XS.ifNo X12.here hx rfl (hb hby at_38) rfl ((if0 _ _).trans (feq c13).1) k) ?_
      show Goes p e below s _ _ _ (T12.setTop (mkF m 41 #[.val (.int p0), .val (.int p1), .val (.int p2), .val (.int (1 : Int32)), .val (.ref aM), .val (.int ((XT.ushr p2 (1 : Int32)) &&& (3 : Int32))), .unset, .unset, .unset, .unset, .unset, .unset, .unset, .unset, .unset] []))
      refine Goes.st (fun t k => XS.iconst X12.here hx rfl (hb hby at_41) k) ?_
      show Goes p e below s _ _ _ (T12.setTop (mkF m 42 #[.val (.int p0), .val (.int p1), .val (.int p2), .val (.int (1 : Int32)), .val (.ref aM), .val (.int ((XT.ushr p2 (1 : Int32)) &&& (3 : Int32))), .unset, .unset, .unset, .unset, .unset, .unset, .unset, .unset, .unset] [(.int (1 : Int32))]))
      refine Goes.st (fun t k => XS.goto X12.here hx rfl (pc0 := 42) (pc' := 46) rfl (hb hby at_42) (by decide) (by decide) k) ?_
      show Goes p e below s _ _ _ (T12.setTop (mkF m 46 #[.val (.int p0), .val (.int p1), .val (.int p2), .val (.int (1 : Int32)), .val (.ref aM), .val (.int ((XT.ushr p2 (1 : Int32)) &&& (3 : Int32))), .unset, .unset, .unset, .unset, .unset, .unset, .unset, .unset, .unset] [(.int (1 : Int32))]))
      refine Goes.st (fun t k => XS.istore X12.here hx rfl (hb hby at_46) rfl (l' := #[.val (.int p0), .val (.int p1), .val (.int p2), .val (.int (1 : Int32)), .val (.ref aM), .val (.int ((XT.ushr p2 (1 : Int32)) &&& (3 : Int32))), .val (.int (1 : Int32)), .unset, .unset, .unset, .unset, .unset, .unset, .unset, .unset]) rfl k) ?_
      show Goes p e below s _ _ _ (T12.setTop (mkF m 48 #[.val (.int p0), .val (.int p1), .val (.int p2), .val (.int (1 : Int32)), .val (.ref aM), .val (.int ((XT.ushr p2 (1 : Int32)) &&& (3 : Int32))), .val (.int (1 : Int32)), .unset, .unset, .unset, .unset, .unset, .unset, .unset, .unset] []))
      refine Goes.st (fun t k => XS.iload X12.here hx rfl (hb hby at_48) rfl k) ?_
      show Goes p e below s _ _ _ (T12.setTop (mkF m 50 #[.val (.int p0), .val (.int p1), .val (.int p2), .val (.int (1 : Int32)), .val (.ref aM), .val (.int ((XT.ushr p2 (1 : Int32)) &&& (3 : Int32))), .val (.int (1 : Int32)), .unset, .unset, .unset, .unset, .unset, .unset, .unset, .unset] [(.int ((XT.ushr p2 (1 : Int32)) &&& (3 : Int32)))]))
      refine Goes.st (fun t k => XS.iconst X12.here hx rfl (hb hby at_50) k) ?_
      show Goes p e below s _ _ _ (T12.setTop (mkF m 51 #[.val (.int p0), .val (.int p1), .val (.int p2), .val (.int (1 : Int32)), .val (.ref aM), .val (.int ((XT.ushr p2 (1 : Int32)) &&& (3 : Int32))), .val (.int (1 : Int32)), .unset, .unset, .unset, .unset, .unset, .unset, .unset, .unset] [(.int (2 : Int32)), (.int ((XT.ushr p2 (1 : Int32)) &&& (3 : Int32)))]))
      refine Goes.st (fun t k => XS.iand X12.here hx rfl (hb hby at_51) rfl k) ?_
      show Goes p e below s _ _ _ (T12.setTop (mkF m 52 #[.val (.int p0), .val (.int p1), .val (.int p2), .val (.int (1 : Int32)), .val (.ref aM), .val (.int ((XT.ushr p2 (1 : Int32)) &&& (3 : Int32))), .val (.int (1 : Int32)), .unset, .unset, .unset, .unset, .unset, .unset, .unset, .unset] [(.int (((XT.ushr p2 (1 : Int32)) &&& (3 : Int32)) &&& (2 : Int32)))]))
      by_cases c19 : (((XT.ushr p2 (1 : Int32)) &&& (3 : Int32)) &&& (2 : Int32)) = (0 : Int32)
      · refine Goes.st (fun t k => XS.ifYes X12.here hx rfl (pc0 := 52) (pc' := 59) rfl (hb hby at_52) rfl ((if0 _ _).trans (teq c19).1) (by decide) (by decide) k) ?_
        show Goes p e below s _ _ _ (T12.setTop (mkF m 59 #[.val (.int p0), .val (.int p1), .val (.int p2), .val (.int (1 : Int32)), .val (.ref aM), .val (.int ((XT.ushr p2 (1 : Int32)) &&& (3 : Int32))), .val (.int (1 : Int32)), .unset, .unset, .unset, .unset, .unset, .unset, .unset, .unset] []))
        refine Goes.st (fun t k => XS.iconst X12.here hx rfl (hb hby at_59) k) ?_
        show Goes p e below s _ _ _ (T12.setTop (mkF m 60 #[.val (.int p0), .val (.int p1), .val (.int p2), .val (.int (1 : Int32)), .val (.ref aM), .val (.int ((XT.ushr p2 (1 : Int32)) &&& (3 : Int32))), .val (.int (1 : Int32)), .unset, .unset, .unset, .unset, .unset, .unset, .unset, .unset] [(.int (0 : Int32))]))
        refine Goes.st (fun t k => XS.istore X12.here hx rfl (hb hby at_60) rfl (l' := #[.val (.int p0), .val (.int p1), .val (.int p2), .val (.int (1 : Int32)), .val (.ref aM), .val (.int ((XT.ushr p2 (1 : Int32)) &&& (3 : Int32))), .val (.int (1 : Int32)), .val (.int (0 : Int32)), .unset, .unset, .unset, .unset, .unset, .unset, .unset]) rfl k) ?_
        show Goes p e below s _ _ _ (T12.setTop (mkF m 62 #[.val (.int p0), .val (.int p1), .val (.int p2), .val (.int (1 : Int32)), .val (.ref aM), .val (.int ((XT.ushr p2 (1 : Int32)) &&& (3 : Int32))), .val (.int (1 : Int32)), .val (.int (0 : Int32)), .unset, .unset, .unset, .unset, .unset, .unset, .unset] []))
        refine Goes.st (fun t k => XS.iloadN X12.here hx rfl (hb hby at_62) rfl k) ?_
        show Goes p e below s _ _ _ (T12.setTop (mkF m 63 #[.val (.int p0), .val (.int p1), .val (.int p2), .val (.int (1 : Int32)), .val (.ref aM), .val (.int ((XT.ushr p2 (1 : Int32)) &&& (3 : Int32))), .val (.int (1 : Int32)), .val (.int (0 : Int32)), .unset, .unset, .unset, .unset, .unset, .unset, .unset] [(.int (1 : Int32))]))
        refine Goes.st (fun t k => XS.ifNo X12.here hx rfl (hb hby at_63) rfl (by decide) k) ?_
        show Goes p e below s _ _ _ (T12.setTop (mkF m 66 #[.val (.int p0), .val (.int p1), .val (.int p2), .val (.int (1 : Int32)), .val (.ref aM), .val (.int ((XT.ushr p2 (1 : Int32)) &&& (3 : Int32))), .val (.int (1 : Int32)), .val (.int (0 : Int32)), .unset, .unset, .unset, .unset, .unset, .unset, .unset] []))
        refine Goes.st (fun t k => X12.ldc2DoubleC hx hown (mvT hZ (hw _ (List.mem_of_getElem? (i := 12) rfl))) (g := (mkF m 66 #[.val (.int p0), .val (.int p1), .val (.int p2), .val (.int (1 : Int32)), .val (.ref aM), .val (.int ((XT.ushr p2 (1 : Int32)) &&& (3 : Int32))), .val (.int (1 : Int32)), .val (.int (0 : Int32)), .unset, .unset, .unset, .unset, .unset, .unset, .unset] [])) rfl (hb hby at_66) t k) ?_
        show Goes p e below s _ _ _ (T12.setTop (mkF m 69 #[.val (.int p0), .val (.int p1), .val (.int p2), .val (.int (1 : Int32)), .val (.ref aM), .val (.int ((XT.ushr p2 (1 : Int32)) &&& (3 : Int32))), .val (.int (1 : Int32)), .val (.int (0 : Int32)), .unset, .unset, .unset, .unset, .unset, .unset, .unset] [(.double (18442240474082181120 : UInt64))]))
        refine Goes.st (fun t k => XS.goto X12.here hx rfl (pc0 := 69) (pc' := 75) rfl (hb hby at_69) (by decide) (by decide) k) ?_
        show Goes p e below s _ _ _ (T12.setTop (mkF m 75 #[.val (.int p0), .val (.int p1), .val (.int p2), .val (.int (1 : Int32)), .val (.ref aM), .val (.int ((XT.ushr p2 (1 : Int32)) &&& (3 : Int32))), .val (.int (1 : Int32)), .val (.int (0 : Int32)), .unset, .unset, .unset, .unset, .unset, .unset, .unset] [(.double (18442240474082181120 : UInt64))]))
        refine Goes.st (fun t k => XS.dstore X12.here hx rfl (hb hby at_75) rfl (l' := #[.val (.int p0), .val (.int p1), .val (.int p2), .val (.int (1 : Int32)), .val (.ref aM), .val (.int ((XT.ushr p2 (1 : Int32)) &&& (3 : Int32))), .val (.int (1 : Int32)), .val (.int (0 : Int32)), .val (.double (18442240474082181120 : UInt64)), .second, .unset, .unset, .unset, .unset, .unset]) rfl k) ?_
        show Goes p e below s _ _ _ (T12.setTop (mkF m 77 #[.val (.int p0), .val (.int p1), .val (.int p2), .val (.int (1 : Int32)), .val (.ref aM), .val (.int ((XT.ushr p2 (1 : Int32)) &&& (3 : Int32))), .val (.int (1 : Int32)), .val (.int (0 : Int32)), .val (.double (18442240474082181120 : UInt64)), .second, .unset, .unset, .unset, .unset, .unset] []))
        refine Goes.st (fun t k => XS.iload X12.here hx rfl (hb hby at_77) rfl k) ?_
        show Goes p e below s _ _ _ (T12.setTop (mkF m 79 #[.val (.int p0), .val (.int p1), .val (.int p2), .val (.int (1 : Int32)), .val (.ref aM), .val (.int ((XT.ushr p2 (1 : Int32)) &&& (3 : Int32))), .val (.int (1 : Int32)), .val (.int (0 : Int32)), .val (.double (18442240474082181120 : UInt64)), .second, .unset, .unset, .unset, .unset, .unset] [(.int (1 : Int32))]))
        refine Goes.st (fun t k => XS.ifNo X12.here hx rfl (hb hby at_79) rfl (by decide) k) ?_
        show Goes p e below s _ _ _ (T12.setTop (mkF m 82 #[.val (.int p0), .val (.int p1), .val (.int p2), .val (.int (1 : Int32)), .val (.ref aM), .val (.int ((XT.ushr p2 (1 : Int32)) &&& (3 : Int32))), .val (.int (1 : Int32)), .val (.int (0 : Int32)), .val (.double (18442240474082181120 : UInt64)), .second, .unset, .unset, .unset, .unset, .unset] []))
        refine Goes.st (fun t k => XS.dload X12.here hx rfl (hb hby at_82) rfl k) ?_
        show Goes p e below s _ _ _ (T12.setTop (mkF m 84 #[.val (.int p0), .val (.int p1), .val (.int p2), .val (.int (1 : Int32)), .val (.ref aM), .val (.int ((XT.ushr p2 (1 : Int32)) &&& (3 : Int32))), .val (.int (1 : Int32)), .val (.int (0 : Int32)), .val (.double (18442240474082181120 : UInt64)), .second, .unset, .unset, .unset, .unset, .unset] [(.double (18442240474082181120 : UInt64))]))
        refine Goes.st (fun t k => XS.goto X12.here hx rfl (pc0 := 84) (pc' := 89) rfl (hb hby at_84) (by decide) (by decide) k) ?_
        show Goes p e below s _ _ _ (T12.setTop (mkF m 89 #[.val (.int p0), .val (.int p1), .val (.int p2), .val (.int (1 : Int32)), .val (.ref aM), .val (.int ((XT.ushr p2 (1 : Int32)) &&& (3 : Int32))), .val (.int (1 : Int32)), .val (.int (0 : Int32)), .val (.double (18442240474082181120 : UInt64)), .second, .unset, .unset, .unset, .unset, .unset] [(.double (18442240474082181120 : UInt64))]))
        refine Goes.st (fun t k => XS.dstore X12.here hx rfl (hb hby at_89) rfl (l' := #[.val (.int p0), .val (.int p1), .val (.int p2), .val (.int (1 : Int32)), .val (.ref aM), .val (.int ((XT.ushr p2 (1 : Int32)) &&& (3 : Int32))), .val (.int (1 : Int32)), .val (.int (0 : Int32)), .val (.double (18442240474082181120 : UInt64)), .second, .val (.double (18442240474082181120 : UInt64)), .second, .unset, .unset, .unset]) rfl k) ?_
        show Goes p e below s _ _ _ (T12.setTop (mkF m 91 #[.val (.int p0), .val (.int p1), .val (.int p2), .val (.int (1 : Int32)), .val (.ref aM), .val (.int ((XT.ushr p2 (1 : Int32)) &&& (3 : Int32))), .val (.int (1 : Int32)), .val (.int (0 : Int32)), .val (.double (18442240474082181120 : UInt64)), .second, .val (.double (18442240474082181120 : UInt64)), .second, .unset, .unset, .unset] []))
        refine Goes.st (fun t k => XS.iload X12.here hx rfl (hb hby at_91) rfl k) ?_
        show Goes p e below s _ _ _ (T12.setTop (mkF m 93 #[.val (.int p0), .val (.int p1), .val (.int p2), .val (.int (1 : Int32)), .val (.ref aM), .val (.int ((XT.ushr p2 (1 : Int32)) &&& (3 : Int32))), .val (.int (1 : Int32)), .val (.int (0 : Int32)), .val (.double (18442240474082181120 : UInt64)), .second, .val (.double (18442240474082181120 : UInt64)), .second, .unset, .unset, .unset] [(.int (0 : Int32))]))
        refine Goes.st (fun t k => XS.ifYes X12.here hx rfl (pc0 := 93) (pc' := 101) rfl (hb hby at_93) rfl (by decide) (by decide) (by decide) k) ?_
        show Goes p e below s _ _ _ (T12.setTop (mkF m 101 #[.val (.int p0), .val (.int p1), .val (.int p2), .val (.int (1 : Int32)), .val (.ref aM), .val (.int ((XT.ushr p2 (1 : Int32)) &&& (3 : Int32))), .val (.int (1 : Int32)), .val (.int (0 : Int32)), .val (.double (18442240474082181120 : UInt64)), .second, .val (.double (18442240474082181120 : UInt64)), .second, .unset, .unset, .unset] []))
        refine Goes.st (fun t k => XS.iloadN X12.here hx rfl (hb hby at_101) rfl k) ?_
        show Goes p e below s _ _ _ (T12.setTop (mkF m 102 #[.val (.int p0), .val (.int p1), .val (.int p2), .val (.int (1 : Int32)), .val (.ref aM), .val (.int ((XT.ushr p2 (1 : Int32)) &&& (3 : Int32))), .val (.int (1 : Int32)), .val (.int (0 : Int32)), .val (.double (18442240474082181120 : UInt64)), .second, .val (.double (18442240474082181120 : UInt64)), .second, .unset, .unset, .unset] [(.int p1)]))
        refine Goes.st (fun t k => XS.i2dS X12.here hx rfl (hb hby at_102) rfl (v := (FP.i2d p1)) rfl k) ?_
        show Goes p e below s _ _ _ (T12.setTop (mkF m 103 #[.val (.int p0), .val (.int p1), .val (.int p2), .val (.int (1 : Int32)), .val (.ref aM), .val (.int ((XT.ushr p2 (1 : Int32)) &&& (3 : Int32))), .val (.int (1 : Int32)), .val (.int (0 : Int32)), .val (.double (18442240474082181120 : UInt64)), .second, .val (.double (18442240474082181120 : UInt64)), .second, .unset, .unset, .unset] [(.double (FP.i2d p1))]))
        refine Goes.st (fun t k => XS.dstore X12.here hx rfl (hb hby at_103) rfl (l' := #[.val (.int p0), .val (.int p1), .val (.int p2), .val (.int (1 : Int32)), .val (.ref aM), .val (.int ((XT.ushr p2 (1 : Int32)) &&& (3 : Int32))), .val (.int (1 : Int32)), .val (.int (0 : Int32)), .val (.double (18442240474082181120 : UInt64)), .second, .val (.double (18442240474082181120 : UInt64)), .second, .val (.double (FP.i2d p1)), .second, .unset]) rfl k) ?_
        show Goes p e below s _ _ _ (T12.setTop (mkF m 105 #[.val (.int p0), .val (.int p1), .val (.int p2), .val (.int (1 : Int32)), .val (.ref aM), .val (.int ((XT.ushr p2 (1 : Int32)) &&& (3 : Int32))), .val (.int (1 : Int32)), .val (.int (0 : Int32)), .val (.double (18442240474082181120 : UInt64)), .second, .val (.double (18442240474082181120 : UInt64)), .second, .val (.double (FP.i2d p1)), .second, .unset] []))
        refine Goes.st (fun t k => XS.iload X12.here hx rfl (hb hby at_105) rfl k) ?_
        show Goes p e below s _ _ _ (T12.setTop (mkF m 107 #[.val (.int p0), .val (.int p1), .val (.int p2), .val (.int (1 : Int32)), .val (.ref aM), .val (.int ((XT.ushr p2 (1 : Int32)) &&& (3 : Int32))), .val (.int (1 : Int32)), .val (.int (0 : Int32)), .val (.double (18442240474082181120 : UInt64)), .second, .val (.double (18442240474082181120 : UInt64)), .second, .val (.double (FP.i2d p1)), .second, .unset] [(.int (1 : Int32))]))
        refine Goes.st (fun t k => XS.ifNo X12.here hx rfl (hb hby at_107) rfl (by decide) k) ?_
        show Goes p e below s _ _ _ (T12.setTop (mkF m 110 #[.val (.int p0), .val (.int p1), .val (.int p2), .val (.int (1 : Int32)), .val (.ref aM), .val (.int ((XT.ushr p2 (1 : Int32)) &&& (3 : Int32))), .val (.int (1 : Int32)), .val (.int (0 : Int32)), .val (.double (18442240474082181120 : UInt64)), .second, .val (.double (18442240474082181120 : UInt64)), .second, .val (.double (FP.i2d p1)), .second, .unset] []))
        refine Goes.st (fun t k => XS.iconst X12.here hx rfl (hb hby at_110) k) ?_
        show Goes p e below s _ _ _ (T12.setTop (mkF m 111 #[.val (.int p0), .val (.int p1), .val (.int p2), .val (.int (1 : Int32)), .val (.ref aM), .val (.int ((XT.ushr p2 (1 : Int32)) &&& (3 : Int32))), .val (.int (1 : Int32)), .val (.int (0 : Int32)), .val (.double (18442240474082181120 : UInt64)), .second, .val (.double (18442240474082181120 : UInt64)), .second, .val (.double (FP.i2d p1)), .second, .unset] [(.int (0 : Int32))]))
        refine Goes.st (fun t k => XS.istore X12.here hx rfl (hb hby at_111) rfl (l' := #[.val (.int p0), .val (.int p1), .val (.int p2), .val (.int (1 : Int32)), .val (.ref aM), .val (.int ((XT.ushr p2 (1 : Int32)) &&& (3 : Int32))), .val (.int (1 : Int32)), .val (.int (0 : Int32)), .val (.double (18442240474082181120 : UInt64)), .second, .val (.double (18442240474082181120 : UInt64)), .second, .val (.double (FP.i2d p1)), .second, .val (.int (0 : Int32))]) rfl k) ?_
        show Goes p e below s _ _ _ (T12.setTop (mkF m 113 #[.val (.int p0), .val (.int p1), .val (.int p2), .val (.int (1 : Int32)), .val (.ref aM), .val (.int ((XT.ushr p2 (1 : Int32)) &&& (3 : Int32))), .val (.int (1 : Int32)), .val (.int (0 : Int32)), .val (.double (18442240474082181120 : UInt64)), .second, .val (.double (18442240474082181120 : UInt64)), .second, .val (.double (FP.i2d p1)), .second, .val (.int (0 : Int32))] []))
        refine Goes.st (fun t k => XS.goto X12.here hx rfl (pc0 := 113) (pc' := 158) rfl (hb hby at_113) (by decide) (by decide) k) ?_
        show Goes p e below s _ _ _ (T12.setTop (mkF m 158 #[.val (.int p0), .val (.int p1), .val (.int p2), .val (.int (1 : Int32)), .val (.ref aM), .val (.int ((XT.ushr p2 (1 : Int32)) &&& (3 : Int32))), .val (.int (1 : Int32)), .val (.int (0 : Int32)), .val (.double (18442240474082181120 : UInt64)), .second, .val (.double (18442240474082181120 : UInt64)), .second, .val (.double (FP.i2d p1)), .second, .val (.int (0 : Int32))] []))
        refine Goes.st (fun t k => XS.aload X12.here hx rfl (hb hby at_158) rfl rfl k) ?_
        show Goes p e below s _ _ _ (T12.setTop (mkF m 160 #[.val (.int p0), .val (.int p1), .val (.int p2), .val (.int (1 : Int32)), .val (.ref aM), .val (.int ((XT.ushr p2 (1 : Int32)) &&& (3 : Int32))), .val (.int (1 : Int32)), .val (.int (0 : Int32)), .val (.double (18442240474082181120 : UInt64)), .second, .val (.double (18442240474082181120 : UInt64)), .second, .val (.double (FP.i2d p1)), .second, .val (.int (0 : Int32))] [(.ref aM)]))
        refine Goes.st (fun t k => XS.dload X12.here hx rfl (hb hby at_160) rfl k) ?_
        show Goes p e below s _ _ _ (T12.setTop (mkF m 162 #[.val (.int p0), .val (.int p1), .val (.int p2), .val (.int (1 : Int32)), .val (.ref aM), .val (.int ((XT.ushr p2 (1 : Int32)) &&& (3 : Int32))), .val (.int (1 : Int32)), .val (.int (0 : Int32)), .val (.double (18442240474082181120 : UInt64)), .second, .val (.double (18442240474082181120 : UInt64)), .second, .val (.double (FP.i2d p1)), .second, .val (.int (0 : Int32))] [(.double (18442240474082181120 : UInt64)), (.ref aM)]))
        refine Goes.st (fun t k => XS.dload X12.here hx rfl (hb hby at_162) rfl k) ?_
        show Goes p e below s _ _ _ (T12.setTop (mkF m 164 #[.val (.int p0), .val (.int p1), .val (.int p2), .val (.int (1 : Int32)), .val (.ref aM), .val (.int ((XT.ushr p2 (1 : Int32)) &&& (3 : Int32))), .val (.int (1 : Int32)), .val (.int (0 : Int32)), .val (.double (18442240474082181120 : UInt64)), .second, .val (.double (18442240474082181120 : UInt64)), .second, .val (.double (FP.i2d p1)), .second, .val (.int (0 : Int32))] [(.double (FP.i2d p1)), (.double (18442240474082181120 : UInt64)), (.ref aM)]))
        obtain ⟨cq20, kq20, qa20, qb20, qc20⟩ := isOf hZ e12 E1
        obtain ⟨_, _, ⟨T20, L20, k20, n20⟩, -, X20, ⟨Lc20, hQ20, l20, y20, z20⟩, st20⟩ := X12.virtualBack hx (y := (⟨"com/example/parley/parley/Objective", "isBetter", "(DD)Z"⟩ : MethodName)) (z := (⟨"com/example/parley/parley/Objective", "isBetter", "(DD)Z"⟩ : MethodName)) hown (mvT hZ (hw _ (List.mem_of_getElem? (i := 4) rfl))) (mvT hZ (hw _ (List.mem_of_getElem? (i := 5) rfl))) (notFace_of_selects (args := #[]) (mvT hZ (hw _ (List.mem_of_getElem? (i := 7) rfl)))) (mvT hZ (hw _ (List.mem_of_getElem? (i := 7) rfl))) (mvT hZ (hw _ (List.mem_of_getElem? (i := 6) rfl))) (by decide) (backOf (W := 0) (rmB l Z a0 hw [] aM (18442240474082181120 : UInt64) (FP.i2d p1) aM h0 n0 Z0 S1) hZ (hw _ (List.mem_of_getElem? (i := 8) rfl)) (hw _ (List.mem_of_getElem? (i := 1) rfl)) (by decide) (by decide)) qa20 qc20 (g := (mkF m 164 #[.val (.int p0), .val (.int p1), .val (.int p2), .val (.int (1 : Int32)), .val (.ref aM), .val (.int ((XT.ushr p2 (1 : Int32)) &&& (3 : Int32))), .val (.int (1 : Int32)), .val (.int (0 : Int32)), .val (.double (18442240474082181120 : UInt64)), .second, .val (.double (18442240474082181120 : UInt64)), .second, .val (.double (FP.i2d p1)), .second, .val (.int (0 : Int32))] [(.double (FP.i2d p1)), (.double (18442240474082181120 : UInt64)), (.ref aM)])) rfl (by rw [hml]; rfl) (Steps.refl _) (argsL := [(.double (18442240474082181120 : UInt64)), (.double (FP.i2d p1))]) (rest := []) (lenOf pd__DD_Z_b14 rfl) rfl (by show 2 * 0 + _ ≤ _; exact Nat.le_of_eq rfl) (hb hby at_164) (fun _ _ => ⟨rfl, e12, (by decide : 0 + 0 ≤ 0), (by decide : 0 + 0 ≤ 0)⟩)
        dsimp only [Pt.U, Pt.locs, Pt.cells, Pt.slots] at X20 l20 y20 z20 st20 hQ20
        subst l20 y20 z20
        obtain ⟨rfl, N20q, eh20⟩ := hQ20
        have r20 : isB aM aM (18442240474082181120 : UInt64) (FP.i2d p1) = (0 : Int32) := own_max1 p1
        rw [r20] at st20
        have N20 := Fr.app N0 N20q
        refine Goes.sts st20 ?_
        show Goes p e below s _ _ _ (T20.setTop (mkF m 167 #[.val (.int p0), .val (.int p1), .val (.int p2), .val (.int (1 : Int32)), .val (.ref aM), .val (.int ((XT.ushr p2 (1 : Int32)) &&& (3 : Int32))), .val (.int (1 : Int32)), .val (.int (0 : Int32)), .val (.double (18442240474082181120 : UInt64)), .second, .val (.double (18442240474082181120 : UInt64)), .second, .val (.double (FP.i2d p1)), .second, .val (.int (0 : Int32))] [(.int (0 : Int32))]))
        refine Goes.st (fun t k => XS.iload X20.here hx rfl (hb hby at_167) rfl k) ?_
        show Goes p e below s _ _ _ (T20.setTop (mkF m 169 #[.val (.int p0), .val (.int p1), .val (.int p2), .val (.int (1 : Int32)), .val (.ref aM), .val (.int ((XT.ushr p2 (1 : Int32)) &&& (3 : Int32))), .val (.int (1 : Int32)), .val (.int (0 : Int32)), .val (.double (18442240474082181120 : UInt64)), .second, .val (.double (18442240474082181120 : UInt64)), .second, .val (.double (FP.i2d p1)), .second, .val (.int (0 : Int32))] [(.int (0 : Int32)), (.int (0 : Int32))]))
        refine Goes.st (fun t k => XS.icmpNo X20.here hx rfl (hb hby at_169) rfl (by decide) k) ?_
        show Goes p e below s _ _ _ (T20.setTop (mkF m 172 #[.val (.int p0), .val (.int p1), .val (.int p2), .val (.int (1 : Int32)), .val (.ref aM), .val (.int ((XT.ushr p2 (1 : Int32)) &&& (3 : Int32))), .val (.int (1 : Int32)), .val (.int (0 : Int32)), .val (.double (18442240474082181120 : UInt64)), .second, .val (.double (18442240474082181120 : UInt64)), .second, .val (.double (FP.i2d p1)), .second, .val (.int (0 : Int32))] []))
        refine Goes.st (fun t k => XS.iconst X20.here hx rfl (hb hby at_172) k) ?_
        show Goes p e below s _ _ _ (T20.setTop (mkF m 173 #[.val (.int p0), .val (.int p1), .val (.int p2), .val (.int (1 : Int32)), .val (.ref aM), .val (.int ((XT.ushr p2 (1 : Int32)) &&& (3 : Int32))), .val (.int (1 : Int32)), .val (.int (0 : Int32)), .val (.double (18442240474082181120 : UInt64)), .second, .val (.double (18442240474082181120 : UInt64)), .second, .val (.double (FP.i2d p1)), .second, .val (.int (0 : Int32))] [(.int (1 : Int32))]))
        refine Goes.st (fun t k => XS.goto X20.here hx rfl (pc0 := 173) (pc' := 177) rfl (hb hby at_173) (by decide) (by decide) k) ?_
        show Goes p e below s _ _ _ (T20.setTop (mkF m 177 #[.val (.int p0), .val (.int p1), .val (.int p2), .val (.int (1 : Int32)), .val (.ref aM), .val (.int ((XT.ushr p2 (1 : Int32)) &&& (3 : Int32))), .val (.int (1 : Int32)), .val (.int (0 : Int32)), .val (.double (18442240474082181120 : UInt64)), .second, .val (.double (18442240474082181120 : UInt64)), .second, .val (.double (FP.i2d p1)), .second, .val (.int (0 : Int32))] [(.int (1 : Int32))]))
        refine Goes.retN X20 hx hlk hret (by simp) (hb hby at_177) (by decide) ?_ (by decide) (by decide)
        rw [eh20]
        exact ⟨rfl, N20⟩
      · refine Goes.st (fun t k => XS.ifNo X12.here hx rfl (hb hby at_52) rfl ((if0 _ _).trans (feq c19).1) k) ?_
        show Goes p e below s _ _ _ (T12.setTop (mkF m 55 #[.val (.int p0), .val (.int p1), .val (.int p2), .val (.int (1 : Int32)), .val (.ref aM), .val (.int ((XT.ushr p2 (1 : Int32)) &&& (3 : Int32))), .val (.int (1 : Int32)), .unset, .unset, .unset, .unset, .unset, .unset, .unset, .unset] []))
        refine Goes.st (fun t k => XS.iconst X12.here hx rfl (hb hby at_55) k) ?_
        show Goes p e below s _ _ _ (T12.setTop (mkF m 56 #[.val (.int p0), .val (.int p1), .val (.int p2), .val (.int (1 : Int32)), .val (.ref aM), .val (.int ((XT.ushr p2 (1 : Int32)) &&& (3 : Int32))), .val (.int (1 : Int32)), .unset, .unset, .unset, .unset, .unset, .unset, .unset, .unset] [(.int (1 : Int32))]))
        refine Goes.st (fun t k => XS.goto X12.here hx rfl (pc0 := 56) (pc' := 60) rfl (hb hby at_56) (by decide) (by decide) k) ?_
        show Goes p e below s _ _ _ (T12.setTop (mkF m 60 #[.val (.int p0), .val (.int p1), .val (.int p2), .val (.int (1 : Int32)), .val (.ref aM), .val (.int ((XT.ushr p2 (1 : Int32)) &&& (3 : Int32))), .val (.int (1 : Int32)), .unset, .unset, .unset, .unset, .unset, .unset, .unset, .unset] [(.int (1 : Int32))]))
        refine Goes.st (fun t k => XS.istore X12.here hx rfl (hb hby at_60) rfl (l' := #[.val (.int p0), .val (.int p1), .val (.int p2), .val (.int (1 : Int32)), .val (.ref aM), .val (.int ((XT.ushr p2 (1 : Int32)) &&& (3 : Int32))), .val (.int (1 : Int32)), .val (.int (1 : Int32)), .unset, .unset, .unset, .unset, .unset, .unset, .unset]) rfl k) ?_
        show Goes p e below s _ _ _ (T12.setTop (mkF m 62 #[.val (.int p0), .val (.int p1), .val (.int p2), .val (.int (1 : Int32)), .val (.ref aM), .val (.int ((XT.ushr p2 (1 : Int32)) &&& (3 : Int32))), .val (.int (1 : Int32)), .val (.int (1 : Int32)), .unset, .unset, .unset, .unset, .unset, .unset, .unset] []))
        refine Goes.st (fun t k => XS.iloadN X12.here hx rfl (hb hby at_62) rfl k) ?_
        show Goes p e below s _ _ _ (T12.setTop (mkF m 63 #[.val (.int p0), .val (.int p1), .val (.int p2), .val (.int (1 : Int32)), .val (.ref aM), .val (.int ((XT.ushr p2 (1 : Int32)) &&& (3 : Int32))), .val (.int (1 : Int32)), .val (.int (1 : Int32)), .unset, .unset, .unset, .unset, .unset, .unset, .unset] [(.int (1 : Int32))]))
        refine Goes.st (fun t k => XS.ifNo X12.here hx rfl (hb hby at_63) rfl (by decide) k) ?_
        show Goes p e below s _ _ _ (T12.setTop (mkF m 66 #[.val (.int p0), .val (.int p1), .val (.int p2), .val (.int (1 : Int32)), .val (.ref aM), .val (.int ((XT.ushr p2 (1 : Int32)) &&& (3 : Int32))), .val (.int (1 : Int32)), .val (.int (1 : Int32)), .unset, .unset, .unset, .unset, .unset, .unset, .unset] []))
        refine Goes.st (fun t k => X12.ldc2DoubleC hx hown (mvT hZ (hw _ (List.mem_of_getElem? (i := 12) rfl))) (g := (mkF m 66 #[.val (.int p0), .val (.int p1), .val (.int p2), .val (.int (1 : Int32)), .val (.ref aM), .val (.int ((XT.ushr p2 (1 : Int32)) &&& (3 : Int32))), .val (.int (1 : Int32)), .val (.int (1 : Int32)), .unset, .unset, .unset, .unset, .unset, .unset, .unset] [])) rfl (hb hby at_66) t k) ?_
        show Goes p e below s _ _ _ (T12.setTop (mkF m 69 #[.val (.int p0), .val (.int p1), .val (.int p2), .val (.int (1 : Int32)), .val (.ref aM), .val (.int ((XT.ushr p2 (1 : Int32)) &&& (3 : Int32))), .val (.int (1 : Int32)), .val (.int (1 : Int32)), .unset, .unset, .unset, .unset, .unset, .unset, .unset] [(.double (18442240474082181120 : UInt64))]))
        refine Goes.st (fun t k => XS.goto X12.here hx rfl (pc0 := 69) (pc' := 75) rfl (hb hby at_69) (by decide) (by decide) k) ?_
        show Goes p e below s _ _ _ (T12.setTop (mkF m 75 #[.val (.int p0), .val (.int p1), .val (.int p2), .val (.int (1 : Int32)), .val (.ref aM), .val (.int ((XT.ushr p2 (1 : Int32)) &&& (3 : Int32))), .val (.int (1 : Int32)), .val (.int (1 : Int32)), .unset, .unset, .unset, .unset, .unset, .unset, .unset] [(.double (18442240474082181120 : UInt64))]))
        refine Goes.st (fun t k => XS.dstore X12.here hx rfl (hb hby at_75) rfl (l' := #[.val (.int p0), .val (.int p1), .val (.int p2), .val (.int (1 : Int32)), .val (.ref aM), .val (.int ((XT.ushr p2 (1 : Int32)) &&& (3 : Int32))), .val (.int (1 : Int32)), .val (.int (1 : Int32)), .val (.double (18442240474082181120 : UInt64)), .second, .unset, .unset, .unset, .unset, .unset]) rfl k) ?_
        show Goes p e below s _ _ _ (T12.setTop (mkF m 77 #[.val (.int p0), .val (.int p1), .val (.int p2), .val (.int (1 : Int32)), .val (.ref aM), .val (.int ((XT.ushr p2 (1 : Int32)) &&& (3 : Int32))), .val (.int (1 : Int32)), .val (.int (1 : Int32)), .val (.double (18442240474082181120 : UInt64)), .second, .unset, .unset, .unset, .unset, .unset] []))
        refine Goes.st (fun t k => XS.iload X12.here hx rfl (hb hby at_77) rfl k) ?_
        show Goes p e below s _ _ _ (T12.setTop (mkF m 79 #[.val (.int p0), .val (.int p1), .val (.int p2), .val (.int (1 : Int32)), .val (.ref aM), .val (.int ((XT.ushr p2 (1 : Int32)) &&& (3 : Int32))), .val (.int (1 : Int32)), .val (.int (1 : Int32)), .val (.double (18442240474082181120 : UInt64)), .second, .unset, .unset, .unset, .unset, .unset] [(.int (1 : Int32))]))
        refine Goes.st (fun t k => XS.ifNo X12.here hx rfl (hb hby at_79) rfl (by decide) k) ?_
        show Goes p e below s _ _ _ (T12.setTop (mkF m 82 #[.val (.int p0), .val (.int p1), .val (.int p2), .val (.int (1 : Int32)), .val (.ref aM), .val (.int ((XT.ushr p2 (1 : Int32)) &&& (3 : Int32))), .val (.int (1 : Int32)), .val (.int (1 : Int32)), .val (.double (18442240474082181120 : UInt64)), .second, .unset, .unset, .unset, .unset, .unset] []))
        refine Goes.st (fun t k => XS.dload X12.here hx rfl (hb hby at_82) rfl k) ?_
        show Goes p e below s _ _ _ (T12.setTop (mkF m 84 #[.val (.int p0), .val (.int p1), .val (.int p2), .val (.int (1 : Int32)), .val (.ref aM), .val (.int ((XT.ushr p2 (1 : Int32)) &&& (3 : Int32))), .val (.int (1 : Int32)), .val (.int (1 : Int32)), .val (.double (18442240474082181120 : UInt64)), .second, .unset, .unset, .unset, .unset, .unset] [(.double (18442240474082181120 : UInt64))]))
        refine Goes.st (fun t k => XS.goto X12.here hx rfl (pc0 := 84) (pc' := 89) rfl (hb hby at_84) (by decide) (by decide) k) ?_
        show Goes p e below s _ _ _ (T12.setTop (mkF m 89 #[.val (.int p0), .val (.int p1), .val (.int p2), .val (.int (1 : Int32)), .val (.ref aM), .val (.int ((XT.ushr p2 (1 : Int32)) &&& (3 : Int32))), .val (.int (1 : Int32)), .val (.int (1 : Int32)), .val (.double (18442240474082181120 : UInt64)), .second, .unset, .unset, .unset, .unset, .unset] [(.double (18442240474082181120 : UInt64))]))
        refine Goes.st (fun t k => XS.dstore X12.here hx rfl (hb hby at_89) rfl (l' := #[.val (.int p0), .val (.int p1), .val (.int p2), .val (.int (1 : Int32)), .val (.ref aM), .val (.int ((XT.ushr p2 (1 : Int32)) &&& (3 : Int32))), .val (.int (1 : Int32)), .val (.int (1 : Int32)), .val (.double (18442240474082181120 : UInt64)), .second, .val (.double (18442240474082181120 : UInt64)), .second, .unset, .unset, .unset]) rfl k) ?_
        show Goes p e below s _ _ _ (T12.setTop (mkF m 91 #[.val (.int p0), .val (.int p1), .val (.int p2), .val (.int (1 : Int32)), .val (.ref aM), .val (.int ((XT.ushr p2 (1 : Int32)) &&& (3 : Int32))), .val (.int (1 : Int32)), .val (.int (1 : Int32)), .val (.double (18442240474082181120 : UInt64)), .second, .val (.double (18442240474082181120 : UInt64)), .second, .unset, .unset, .unset] []))
        refine Goes.st (fun t k => XS.iload X12.here hx rfl (hb hby at_91) rfl k) ?_
        show Goes p e below s _ _ _ (T12.setTop (mkF m 93 #[.val (.int p0), .val (.int p1), .val (.int p2), .val (.int (1 : Int32)), .val (.ref aM), .val (.int ((XT.ushr p2 (1 : Int32)) &&& (3 : Int32))), .val (.int (1 : Int32)), .val (.int (1 : Int32)), .val (.double (18442240474082181120 : UInt64)), .second, .val (.double (18442240474082181120 : UInt64)), .second, .unset, .unset, .unset] [(.int (1 : Int32))]))
        refine Goes.st (fun t k => XS.ifNo X12.here hx rfl (hb hby at_93) rfl (by decide) k) ?_
        show Goes p e below s _ _ _ (T12.setTop (mkF m 96 #[.val (.int p0), .val (.int p1), .val (.int p2), .val (.int (1 : Int32)), .val (.ref aM), .val (.int ((XT.ushr p2 (1 : Int32)) &&& (3 : Int32))), .val (.int (1 : Int32)), .val (.int (1 : Int32)), .val (.double (18442240474082181120 : UInt64)), .second, .val (.double (18442240474082181120 : UInt64)), .second, .unset, .unset, .unset] []))
        refine Goes.st (fun t k => XS.dload X12.here hx rfl (hb hby at_96) rfl k) ?_
        show Goes p e below s _ _ _ (T12.setTop (mkF m 98 #[.val (.int p0), .val (.int p1), .val (.int p2), .val (.int (1 : Int32)), .val (.ref aM), .val (.int ((XT.ushr p2 (1 : Int32)) &&& (3 : Int32))), .val (.int (1 : Int32)), .val (.int (1 : Int32)), .val (.double (18442240474082181120 : UInt64)), .second, .val (.double (18442240474082181120 : UInt64)), .second, .unset, .unset, .unset] [(.double (18442240474082181120 : UInt64))]))
        refine Goes.st (fun t k => XS.goto X12.here hx rfl (pc0 := 98) (pc' := 103) rfl (hb hby at_98) (by decide) (by decide) k) ?_
        show Goes p e below s _ _ _ (T12.setTop (mkF m 103 #[.val (.int p0), .val (.int p1), .val (.int p2), .val (.int (1 : Int32)), .val (.ref aM), .val (.int ((XT.ushr p2 (1 : Int32)) &&& (3 : Int32))), .val (.int (1 : Int32)), .val (.int (1 : Int32)), .val (.double (18442240474082181120 : UInt64)), .second, .val (.double (18442240474082181120 : UInt64)), .second, .unset, .unset, .unset] [(.double (18442240474082181120 : UInt64))]))
        refine Goes.st (fun t k => XS.dstore X12.here hx rfl (hb hby at_103) rfl (l' := #[.val (.int p0), .val (.int p1), .val (.int p2), .val (.int (1 : Int32)), .val (.ref aM), .val (.int ((XT.ushr p2 (1 : Int32)) &&& (3 : Int32))), .val (.int (1 : Int32)), .val (.int (1 : Int32)), .val (.double (18442240474082181120 : UInt64)), .second, .val (.double (18442240474082181120 : UInt64)), .second, .val (.double (18442240474082181120 : UInt64)), .second, .unset]) rfl k) ?_
        show Goes p e below s _ _ _ (T12.setTop (mkF m 105 #[.val (.int p0), .val (.int p1), .val (.int p2), .val (.int (1 : Int32)), .val (.ref aM), .val (.int ((XT.ushr p2 (1 : Int32)) &&& (3 : Int32))), .val (.int (1 : Int32)), .val (.int (1 : Int32)), .val (.double (18442240474082181120 : UInt64)), .second, .val (.double (18442240474082181120 : UInt64)), .second, .val (.double (18442240474082181120 : UInt64)), .second, .unset] []))
        refine Goes.st (fun t k => XS.iload X12.here hx rfl (hb hby at_105) rfl k) ?_
        show Goes p e below s _ _ _ (T12.setTop (mkF m 107 #[.val (.int p0), .val (.int p1), .val (.int p2), .val (.int (1 : Int32)), .val (.ref aM), .val (.int ((XT.ushr p2 (1 : Int32)) &&& (3 : Int32))), .val (.int (1 : Int32)), .val (.int (1 : Int32)), .val (.double (18442240474082181120 : UInt64)), .second, .val (.double (18442240474082181120 : UInt64)), .second, .val (.double (18442240474082181120 : UInt64)), .second, .unset] [(.int (1 : Int32))]))
        refine Goes.st (fun t k => XS.ifNo X12.here hx rfl (hb hby at_107) rfl (by decide) k) ?_
        show Goes p e below s _ _ _ (T12.setTop (mkF m 110 #[.val (.int p0), .val (.int p1), .val (.int p2), .val (.int (1 : Int32)), .val (.ref aM), .val (.int ((XT.ushr p2 (1 : Int32)) &&& (3 : Int32))), .val (.int (1 : Int32)), .val (.int (1 : Int32)), .val (.double (18442240474082181120 : UInt64)), .second, .val (.double (18442240474082181120 : UInt64)), .second, .val (.double (18442240474082181120 : UInt64)), .second, .unset] []))
        refine Goes.st (fun t k => XS.iconst X12.here hx rfl (hb hby at_110) k) ?_
        show Goes p e below s _ _ _ (T12.setTop (mkF m 111 #[.val (.int p0), .val (.int p1), .val (.int p2), .val (.int (1 : Int32)), .val (.ref aM), .val (.int ((XT.ushr p2 (1 : Int32)) &&& (3 : Int32))), .val (.int (1 : Int32)), .val (.int (1 : Int32)), .val (.double (18442240474082181120 : UInt64)), .second, .val (.double (18442240474082181120 : UInt64)), .second, .val (.double (18442240474082181120 : UInt64)), .second, .unset] [(.int (0 : Int32))]))
        refine Goes.st (fun t k => XS.istore X12.here hx rfl (hb hby at_111) rfl (l' := #[.val (.int p0), .val (.int p1), .val (.int p2), .val (.int (1 : Int32)), .val (.ref aM), .val (.int ((XT.ushr p2 (1 : Int32)) &&& (3 : Int32))), .val (.int (1 : Int32)), .val (.int (1 : Int32)), .val (.double (18442240474082181120 : UInt64)), .second, .val (.double (18442240474082181120 : UInt64)), .second, .val (.double (18442240474082181120 : UInt64)), .second, .val (.int (0 : Int32))]) rfl k) ?_
        show Goes p e below s _ _ _ (T12.setTop (mkF m 113 #[.val (.int p0), .val (.int p1), .val (.int p2), .val (.int (1 : Int32)), .val (.ref aM), .val (.int ((XT.ushr p2 (1 : Int32)) &&& (3 : Int32))), .val (.int (1 : Int32)), .val (.int (1 : Int32)), .val (.double (18442240474082181120 : UInt64)), .second, .val (.double (18442240474082181120 : UInt64)), .second, .val (.double (18442240474082181120 : UInt64)), .second, .val (.int (0 : Int32))] []))
        refine Goes.st (fun t k => XS.goto X12.here hx rfl (pc0 := 113) (pc' := 158) rfl (hb hby at_113) (by decide) (by decide) k) ?_
        show Goes p e below s _ _ _ (T12.setTop (mkF m 158 #[.val (.int p0), .val (.int p1), .val (.int p2), .val (.int (1 : Int32)), .val (.ref aM), .val (.int ((XT.ushr p2 (1 : Int32)) &&& (3 : Int32))), .val (.int (1 : Int32)), .val (.int (1 : Int32)), .val (.double (18442240474082181120 : UInt64)), .second, .val (.double (18442240474082181120 : UInt64)), .second, .val (.double (18442240474082181120 : UInt64)), .second, .val (.int (0 : Int32))] []))
        refine Goes.st (fun t k => XS.aload X12.here hx rfl (hb hby at_158) rfl rfl k) ?_
        show Goes p e below s _ _ _ (T12.setTop (mkF m 160 #[.val (.int p0), .val (.int p1), .val (.int p2), .val (.int (1 : Int32)), .val (.ref aM), .val (.int ((XT.ushr p2 (1 : Int32)) &&& (3 : Int32))), .val (.int (1 : Int32)), .val (.int (1 : Int32)), .val (.double (18442240474082181120 : UInt64)), .second, .val (.double (18442240474082181120 : UInt64)), .second, .val (.double (18442240474082181120 : UInt64)), .second, .val (.int (0 : Int32))] [(.ref aM)]))
        refine Goes.st (fun t k => XS.dload X12.here hx rfl (hb hby at_160) rfl k) ?_
        show Goes p e below s _ _ _ (T12.setTop (mkF m 162 #[.val (.int p0), .val (.int p1), .val (.int p2), .val (.int (1 : Int32)), .val (.ref aM), .val (.int ((XT.ushr p2 (1 : Int32)) &&& (3 : Int32))), .val (.int (1 : Int32)), .val (.int (1 : Int32)), .val (.double (18442240474082181120 : UInt64)), .second, .val (.double (18442240474082181120 : UInt64)), .second, .val (.double (18442240474082181120 : UInt64)), .second, .val (.int (0 : Int32))] [(.double (18442240474082181120 : UInt64)), (.ref aM)]))
        refine Goes.st (fun t k => XS.dload X12.here hx rfl (hb hby at_162) rfl k) ?_
        show Goes p e below s _ _ _ (T12.setTop (mkF m 164 #[.val (.int p0), .val (.int p1), .val (.int p2), .val (.int (1 : Int32)), .val (.ref aM), .val (.int ((XT.ushr p2 (1 : Int32)) &&& (3 : Int32))), .val (.int (1 : Int32)), .val (.int (1 : Int32)), .val (.double (18442240474082181120 : UInt64)), .second, .val (.double (18442240474082181120 : UInt64)), .second, .val (.double (18442240474082181120 : UInt64)), .second, .val (.int (0 : Int32))] [(.double (18442240474082181120 : UInt64)), (.double (18442240474082181120 : UInt64)), (.ref aM)]))
        obtain ⟨cq21, kq21, qa21, qb21, qc21⟩ := isOf hZ e12 E1
        obtain ⟨_, _, ⟨T21, L21, k21, n21⟩, -, X21, ⟨Lc21, hQ21, l21, y21, z21⟩, st21⟩ := X12.virtualBack hx (y := (⟨"com/example/parley/parley/Objective", "isBetter", "(DD)Z"⟩ : MethodName)) (z := (⟨"com/example/parley/parley/Objective", "isBetter", "(DD)Z"⟩ : MethodName)) hown (mvT hZ (hw _ (List.mem_of_getElem? (i := 4) rfl))) (mvT hZ (hw _ (List.mem_of_getElem? (i := 5) rfl))) (notFace_of_selects (args := #[]) (mvT hZ (hw _ (List.mem_of_getElem? (i := 7) rfl)))) (mvT hZ (hw _ (List.mem_of_getElem? (i := 7) rfl))) (mvT hZ (hw _ (List.mem_of_getElem? (i := 6) rfl))) (by decide) (backOf (W := 0) (rmB l Z a0 hw [] aM (18442240474082181120 : UInt64) (18442240474082181120 : UInt64) aM h0 n0 Z0 S1) hZ (hw _ (List.mem_of_getElem? (i := 8) rfl)) (hw _ (List.mem_of_getElem? (i := 1) rfl)) (by decide) (by decide)) qa21 qc21 (g := (mkF m 164 #[.val (.int p0), .val (.int p1), .val (.int p2), .val (.int (1 : Int32)), .val (.ref aM), .val (.int ((XT.ushr p2 (1 : Int32)) &&& (3 : Int32))), .val (.int (1 : Int32)), .val (.int (1 : Int32)), .val (.double (18442240474082181120 : UInt64)), .second, .val (.double (18442240474082181120 : UInt64)), .second, .val (.double (18442240474082181120 : UInt64)), .second, .val (.int (0 : Int32))] [(.double (18442240474082181120 : UInt64)), (.double (18442240474082181120 : UInt64)), (.ref aM)])) rfl (by rw [hml]; rfl) (Steps.refl _) (argsL := [(.double (18442240474082181120 : UInt64)), (.double (18442240474082181120 : UInt64))]) (rest := []) (lenOf pd__DD_Z_b14 rfl) rfl (by show 2 * 0 + _ ≤ _; exact Nat.le_of_eq rfl) (hb hby at_164) (fun _ _ => ⟨rfl, e12, (by decide : 0 + 0 ≤ 0), (by decide : 0 + 0 ≤ 0)⟩)
        dsimp only [Pt.U, Pt.locs, Pt.cells, Pt.slots] at X21 l21 y21 z21 st21 hQ21
        subst l21 y21 z21
        obtain ⟨rfl, N21q, eh21⟩ := hQ21
        have r21 : isB aM aM (18442240474082181120 : UInt64) (18442240474082181120 : UInt64) = (0 : Int32) := own_max2
        rw [r21] at st21
        have N21 := Fr.app N0 N21q
        refine Goes.sts st21 ?_
        show Goes p e below s _ _ _ (T21.setTop (mkF m 167 #[.val (.int p0), .val (.int p1), .val (.int p2), .val (.int (1 : Int32)), .val (.ref aM), .val (.int ((XT.ushr p2 (1 : Int32)) &&& (3 : Int32))), .val (.int (1 : Int32)), .val (.int (1 : Int32)), .val (.double (18442240474082181120 : UInt64)), .second, .val (.double (18442240474082181120 : UInt64)), .second, .val (.double (18442240474082181120 : UInt64)), .second, .val (.int (0 : Int32))] [(.int (0 : Int32))]))
        refine Goes.st (fun t k => XS.iload X21.here hx rfl (hb hby at_167) rfl k) ?_
        show Goes p e below s _ _ _ (T21.setTop (mkF m 169 #[.val (.int p0), .val (.int p1), .val (.int p2), .val (.int (1 : Int32)), .val (.ref aM), .val (.int ((XT.ushr p2 (1 : Int32)) &&& (3 : Int32))), .val (.int (1 : Int32)), .val (.int (1 : Int32)), .val (.double (18442240474082181120 : UInt64)), .second, .val (.double (18442240474082181120 : UInt64)), .second, .val (.double (18442240474082181120 : UInt64)), .second, .val (.int (0 : Int32))] [(.int (0 : Int32)), (.int (0 : Int32))]))
        refine Goes.st (fun t k => XS.icmpNo X21.here hx rfl (hb hby at_169) rfl (by decide) k) ?_
        show Goes p e below s _ _ _ (T21.setTop (mkF m 172 #[.val (.int p0), .val (.int p1), .val (.int p2), .val (.int (1 : Int32)), .val (.ref aM), .val (.int ((XT.ushr p2 (1 : Int32)) &&& (3 : Int32))), .val (.int (1 : Int32)), .val (.int (1 : Int32)), .val (.double (18442240474082181120 : UInt64)), .second, .val (.double (18442240474082181120 : UInt64)), .second, .val (.double (18442240474082181120 : UInt64)), .second, .val (.int (0 : Int32))] []))
        refine Goes.st (fun t k => XS.iconst X21.here hx rfl (hb hby at_172) k) ?_
        show Goes p e below s _ _ _ (T21.setTop (mkF m 173 #[.val (.int p0), .val (.int p1), .val (.int p2), .val (.int (1 : Int32)), .val (.ref aM), .val (.int ((XT.ushr p2 (1 : Int32)) &&& (3 : Int32))), .val (.int (1 : Int32)), .val (.int (1 : Int32)), .val (.double (18442240474082181120 : UInt64)), .second, .val (.double (18442240474082181120 : UInt64)), .second, .val (.double (18442240474082181120 : UInt64)), .second, .val (.int (0 : Int32))] [(.int (1 : Int32))]))
        refine Goes.st (fun t k => XS.goto X21.here hx rfl (pc0 := 173) (pc' := 177) rfl (hb hby at_173) (by decide) (by decide) k) ?_
        show Goes p e below s _ _ _ (T21.setTop (mkF m 177 #[.val (.int p0), .val (.int p1), .val (.int p2), .val (.int (1 : Int32)), .val (.ref aM), .val (.int ((XT.ushr p2 (1 : Int32)) &&& (3 : Int32))), .val (.int (1 : Int32)), .val (.int (1 : Int32)), .val (.double (18442240474082181120 : UInt64)), .second, .val (.double (18442240474082181120 : UInt64)), .second, .val (.double (18442240474082181120 : UInt64)), .second, .val (.int (0 : Int32))] [(.int (1 : Int32))]))
        refine Goes.retN X21 hx hlk hret (by simp) (hb hby at_177) (by decide) ?_ (by decide) (by decide)
        rw [eh21]
        exact ⟨rfl, N21⟩
set_option maxRecDepth 65536 in
set_option maxHeartbeats 40000000 in
theorem comes_1 {Post : Tables → Env → Array Value → State → Outcome → State → Prop} (hpost : ∀ tb e args s v u, (limb_1_1.after args s (.returned v) u = true ∧ limb_1_2.after args s (.returned v) u = true ∧ True) → FrameEnd s (.returned v) u (Jvm.fieldLocs frame_1_writes args s ++ Jvm.arrayLocs frame_1_arrays args s ++ Jvm.staticLocs frame_1_statics s) 0 0 → Post tb e args s (.returned v) u) :
    ArmFor flags0 classFile x code maxLocals ret World_1 tables_1 room_1 Calls_1 rest_1 Pre_1 Post := by
  intro l hfl _ _ p e ha hc hk s m args below hf hA hF happ hP
  obtain ⟨hcalls, hrest, hpre⟩ := hP
  obtain ⟨-, -, -, hnamed, -, -, -, hat⟩ := (Spec.applies_iff hf).mp happ
  obtain ⟨hg, hn⟩ := and_e (Cond.before_iff.mp (show (Jvm.Cond.and given_1 narrow_1).before args s = true from hpre))
  obtain ⟨h1, h2⟩ := and_e hg
  obtain ⟨h3, h4⟩ := and_e h2
  obtain ⟨h5, h6⟩ := and_e h4
  obtain ⟨w0, w1, w2, rfl⟩ : ∃ w0 w1 w2 : Value, args = #[w0, w1, w2] := by
    have hs : args.size = 3 := by simpa [Cond.value, given_1] using h1
    obtain ⟨L⟩ := args
    match L, hs with
    | [w0, w1, w2], _ => exact ⟨w0, w1, w2, rfl⟩
  have hw := fun d (hd : d ∈ tables_1) => atoms_spec (ws := Jvm.Cond.code x code maxLocals ret :: tables_1) hat d (List.mem_cons_of_mem _ hd)
  obtain ⟨i0, q0⟩ := is_v h3
  obtain rfl : w0 = (.int i0) := Option.some.inj q0
  obtain ⟨i1, q1⟩ := is_v h5
  obtain rfl : w1 = (.int i1) := Option.some.inj q1
  obtain ⟨i2, q2⟩ := is_v h6
  obtain rfl : w2 = (.int i2) := Option.some.inj q2
  obtain ⟨n1, hn⟩ := and_e hn
  obtain ⟨n2, hn⟩ := and_e hn
  obtain ⟨n3, n4⟩ := and_e hn
  obtain ⟨aN, _, _, _, ev1, -⟩ := Cond.exactly_spec (Cond.before_iff.mpr n1)
  obtain ⟨aM, _, _, _, ev2, -⟩ := Cond.exactly_spec (Cond.before_iff.mpr n2)
  have E2 := Exa.start ev1 n1
  have E1 := Exa.start ev2 n2
  have S2 := Sta.start ev1 (Or.inr ⟨hw _ (List.mem_of_getElem? (i := 1) rfl), hw _ (List.mem_of_getElem? (i := 2) rfl)⟩)
  have S1 := Sta.start ev2 (Or.inr ⟨hw _ (List.mem_of_getElem? (i := 1) rfl), hw _ (List.mem_of_getElem? (i := 10) rfl)⟩)
  have f1 := eqv_i (Term.int_eval (1)) n3
  have f2 := eqv_i (Term.int_eval (0)) n4
  have hne : aN ≠ aM := fun q => by
    simp only [Term.eval, Option.bind_eq_bind] at f1 f2 ev1 ev2
    rw [ev1] at f1; rw [ev2] at f2; subst q
    exact absurd (f1.symm.trans f2) (by simp)
  obtain ⟨n, o, h1, h2, h3, _, L, rfl, ⟨rfl, N⟩, hq⟩ := rm0 l s _ hw tables_1 i0 i1 i2 aM aN s.heap s.heap.size (Nat.le_refl _) S1 S2 E1 E2 hne p e ha hc hk s m _ below hf ((Spec.applies_iff_loose hf).mp happ).1 ⟨rfl, State.Warmed39.refl s, rfl⟩ trivial
  refine ⟨n, _, h1, h2, h3, hpost _ _ _ _ _ _ ⟨Cond.after_iff.mpr rfl, Cond.after_iff.mpr (eq_i res_at (Term.int_eval (1)) rfl), trivial⟩ ⟨hq.1, hq.2.1, (hq.2.2.sift fun y hy => Or.inr (N y hy)).mono (by decide) (by decide)⟩⟩
theorem main_1_1 : Claimed_1_1 := comes_1 fun _ _ _ _ _ _ h hF => ⟨h.1, hF⟩
theorem main_1_2 : Claimed_1_2 := comes_1 fun _ _ _ _ _ _ h hF => ⟨h.2.1, hF⟩
end Jvm.Pilot.@@N@@
namespace Jvm.Pilot.@@N@@
open Jvm Jvm.ClassFile Sem Op Lib Jvm.Free Jvm.Stand Jvm.Pilot.@@N@@.Jvm.D
/-! MADE BY PROGRAM (witnessworld.py) out of the Statement's table words and the real class files: 12 classes; the members and pool entries that the words name. The judged class is class 1, her method 1. -/
namespace start1
open Jvm.ClassFile
def u (s : String) : CpInfo := .utf8 (stringToUtf16 s)
/-- a pool by its gaps: so many unusable entries, then the entry; so many at the end -/
def gap : Nat → List CpInfo → List CpInfo
  | 0, r => r
  | n + 1, r => .unusable :: gap n r
def poolList (es : List (Nat × CpInfo)) (last : Nat) : List CpInfo := es.foldr (fun e r => gap e.1 (e.2 :: r)) (gap last [])
def pool (es : List (Nat × CpInfo)) (last : Nat) : Array CpInfo := ⟨poolList es last⟩
def fileOf (pool : Array CpInfo) (this : Nat) (attrs : Array Attribute := #[]) (ms : Array MethodInfo := #[]) (fl : Nat := 33) (sup : Nat := 0) (ifs : Array Nat := #[]) (fds : Array FieldInfo := #[]) : ClassFile where
  minorVersion := 0
  majorVersion := 65
  constantPool := pool
  accessFlags := fl
  thisClass := this
  superClass := sup
  interfaces := ifs
  fields := fds
  methods := ms
  attributes := attrs
def plain (name : String) (sup : Option ClassId) : Class where
  name := name
  kind := .ordinary
  loader := none
  accessFlags := 33
  super := sup
  interfaces := #[]
  cf := none
  fields := #[]
  methods := #[]
  instanceTypes := #[]
  staticTypes := #[]
  resolved := #[]
  callSites := []
  init := .initialized
  statics := none
  mirror := none

def pool0 : Array CpInfo := pool [(5, u "<init>"), (0, u "()V"), (1, .class_ 10), (1, u "java/lang/Object")] 113

def k0m0 : Method := { name := "<init>", desc := "()V", sig := { parameters := [], returnType := none }, accessFlags := 1, code := none }
/-- java/lang/Object -/
def k0 : Class := { plain "java/lang/Object" none with
  accessFlags := 33
  interfaces := #[]
  cf := some (fileOf pool0 8 #[] #[{ accessFlags := 1, nameIndex := 5, descriptorIndex := 6, attributes := #[] }] 33 0 #[] #[])
  fields := #[]
  methods := #[k0m0]
  instanceTypes := #[]
  staticTypes := #[]
  resolved := Array.replicate 124 none
  statics := none }

def pool1 : Array CpInfo := pool [(2, .class_ 4), (1, u "java/lang/Object"), (0, u "<init>"), (0, u "()V"), (0, .fieldref 8 9), (0, .class_ 10), (0, .nameAndType 11 12), (0, u "com/example/parley/parley/Objective"), (0, u "MAXIMIZE"), (0, u "Lcom/example/parley/parley/Objective;"), (0, .fieldref 8 14), (0, .nameAndType 15 12), (0, u "MINIMIZE"), (2, .double 18442240474082181120), (1, .double 9218868437227405312), (1, .methodref 8 23), (0, .nameAndType 24 25), (0, u "isBetter"), (0, u "(DD)Z"), (0, .class_ 27), (0, u "com/example/parley/parley/ObjectiveIsBetterPinLaw"), (2, u "law"), (0, u "(III)Z")] 3

def k1m0 : Method := { name := "<init>", desc := "()V", sig := { parameters := [], returnType := none }, accessFlags := 1, code := none }
def k1c1 : Code := { maxStack := 5, maxLocals := 15, code := code, exceptionTable := #[], attributes := #[] }
def k1m1 : Method := { name := "law", desc := "(III)Z", sig := { parameters := [.int, .int, .int], returnType := some .boolean }, accessFlags := 9, code := some k1c1 }
/-- com/example/parley/parley/ObjectiveIsBetterPinLaw -/
def k1 : Class := { plain "com/example/parley/parley/ObjectiveIsBetterPinLaw" (some 0) with
  accessFlags := 49
  interfaces := #[]
  cf := some (fileOf pool1 26 #[] #[{ accessFlags := 1, nameIndex := 5, descriptorIndex := 6, attributes := #[] }, { accessFlags := 9, nameIndex := 30, descriptorIndex := 31, attributes := #[] }] 49 2 #[] #[])
  fields := #[]
  methods := #[k1m0, k1m1]
  instanceTypes := #[]
  staticTypes := #[]
  resolved := Array.replicate 35 none
  statics := none }

def pool2 : Array CpInfo := pool [(1, .class_ 2), (0, u "java/lang/constant/Constable"), (0, .class_ 4), (0, u "java/lang/Object")] 6

/-- java/lang/constant/Constable -/
def k2 : Class := { plain "java/lang/constant/Constable" (some 0) with
  accessFlags := 1537
  interfaces := #[]
  cf := some (fileOf pool2 1 #[] #[] 1537 3 #[] #[])
  fields := #[]
  methods := #[]
  instanceTypes := #[]
  staticTypes := #[]
  resolved := Array.replicate 11 none
  statics := none }

def pool3 : Array CpInfo := pool [(1, .class_ 2), (0, u "java/lang/Comparable"), (0, .class_ 4), (0, u "java/lang/Object")] 7

/-- java/lang/Comparable -/
def k3 : Class := { plain "java/lang/Comparable" (some 0) with
  accessFlags := 1537
  interfaces := #[]
  cf := some (fileOf pool3 1 #[] #[] 1537 3 #[] #[])
  fields := #[]
  methods := #[]
  instanceTypes := #[]
  staticTypes := #[]
  resolved := Array.replicate 12 none
  statics := none }

def pool4 : Array CpInfo := pool [(1, .class_ 2), (0, u "java/io/Serializable"), (0, .class_ 4), (0, u "java/lang/Object")] 2

/-- java/io/Serializable -/
def k4 : Class := { plain "java/io/Serializable" (some 0) with
  accessFlags := 1537
  interfaces := #[]
  cf := some (fileOf pool4 1 #[] #[] 1537 3 #[] #[])
  fields := #[]
  methods := #[]
  instanceTypes := #[]
  staticTypes := #[]
  resolved := Array.replicate 7 none
  statics := none }

def pool5 : Array CpInfo := pool [(2, .class_ 4), (1, u "java/lang/Enum"), (0, u "name"), (0, u "Ljava/lang/String;"), (2, u "ordinal"), (0, u "I"), (1, .class_ 14), (1, u "java/lang/Object"), (4, u "hash"), (86, .class_ 108), (1, u "java/lang/Enum$EnumDesc"), (2, .class_ 112), (0, u "java/lang/constant/Constable"), (0, .class_ 114), (0, u "java/lang/Comparable"), (0, .class_ 116), (0, u "java/io/Serializable")] 87

/-- java/lang/Enum -/
def k5 : Class := { plain "java/lang/Enum" (some 0) with
  accessFlags := 1057
  interfaces := #[2, 3, 4]
  cf := some (fileOf pool5 2 #[.nestMembers #[106]] #[] 1057 12 #[111, 113, 115] #[{ accessFlags := 18, nameIndex := 5, descriptorIndex := 6, attributes := #[] }, { accessFlags := 18, nameIndex := 9, descriptorIndex := 10, attributes := #[] }, { accessFlags := 2, nameIndex := 19, descriptorIndex := 10, attributes := #[] }])
  fields := #[{ name := "name", type := (.object "java/lang/String"), accessFlags := 18, slot := 0, constantValue := 0 }, { name := "ordinal", type := .int, accessFlags := 18, slot := 1, constantValue := 0 }, { name := "hash", type := .int, accessFlags := 2, slot := 2, constantValue := 0 }]
  methods := #[]
  instanceTypes := #[(.object "java/lang/String"), .int, .int]
  staticTypes := #[]
  resolved := Array.replicate 204 none
  statics := none }

def pool6 : Array CpInfo := pool [(1, .class_ 2), (0, u "com/example/parley/parley/Objective"), (0, .fieldref 1 4), (0, .nameAndType 5 6), (0, u "MAXIMIZE"), (0, u "Lcom/example/parley/parley/Objective;"), (2, u "MINIMIZE"), (2, u "$VALUES"), (0, u "[Lcom/example/parley/parley/Objective;"), (6, .class_ 22), (1, u "java/lang/Enum"), (8, u "label"), (0, u "Ljava/lang/String;"), (30, u "isBetter"), (0, u "(DD)Z")] 5

def k6c0 : Code := { maxStack := 4, maxLocals := 5, code := prog_47_method_6_code, exceptionTable := #[], attributes := #[] }
def k6m0 : Method := { name := "isBetter", desc := "(DD)Z", sig := { parameters := [.double, .double], returnType := some .boolean }, accessFlags := 1, code := some k6c0 }
/-- com/example/parley/parley/Objective -/
def k6 : Class := { plain "com/example/parley/parley/Objective" (some 5) with
  accessFlags := 16433
  interfaces := #[]
  cf := some (fileOf pool6 1 #[] #[{ accessFlags := 1, nameIndex := 63, descriptorIndex := 64, attributes := #[] }] 16433 20 #[] #[{ accessFlags := 16409, nameIndex := 5, descriptorIndex := 6, attributes := #[] }, { accessFlags := 16409, nameIndex := 9, descriptorIndex := 6, attributes := #[] }, { accessFlags := 18, nameIndex := 31, descriptorIndex := 32, attributes := #[] }, { accessFlags := 4122, nameIndex := 12, descriptorIndex := 13, attributes := #[] }])
  fields := #[{ name := "MAXIMIZE", type := (.object "com/example/parley/parley/Objective"), accessFlags := 16409, slot := 0, constantValue := 0 }, { name := "MINIMIZE", type := (.object "com/example/parley/parley/Objective"), accessFlags := 16409, slot := 1, constantValue := 0 }, { name := "label", type := (.object "java/lang/String"), accessFlags := 18, slot := 3, constantValue := 0 }, { name := "$VALUES", type := (.array (.object "com/example/parley/parley/Objective")), accessFlags := 4122, slot := 2, constantValue := 0 }]
  methods := #[k6m0]
  instanceTypes := #[(.object "java/lang/String"), .int, .int, (.object "java/lang/String")]
  staticTypes := #[(.object "com/example/parley/parley/Objective"), (.object "com/example/parley/parley/Objective"), (.array (.object "com/example/parley/parley/Objective"))]
  resolved := Array.replicate 70 none
  statics := some 0 }

def pool7 : Array CpInfo := pool [(1, u "java/lang/Cloneable"), (0, .class_ 1), (0, u "java/lang/Object"), (0, .class_ 3)] 3

/-- java/lang/Cloneable -/
def k7 : Class := { plain "java/lang/Cloneable" (some 0) with
  accessFlags := 1537
  interfaces := #[]
  cf := some (fileOf pool7 2 #[] #[] 1537 4 #[] #[])
  fields := #[]
  methods := #[]
  instanceTypes := #[]
  staticTypes := #[]
  resolved := Array.replicate 8 none
  statics := none }

/-- the primitive byte -/
def k8 : Class := { plain "byte" none with kind := .primitive 'B', accessFlags := 0x411 }
/-- [B -/
def k9 : Class := { plain "[B" (some 0) with kind := .array 8 .byte, interfaces := #[7, 4], accessFlags := 1041 }

/-- the primitive int -/
def k10 : Class := { plain "int" none with kind := .primitive 'I', accessFlags := 0x411 }
/-- [I -/
def k11 : Class := { plain "[I" (some 0) with kind := .array 10 .int, interfaces := #[7, 4], accessFlags := 1041 }

def heap : Heap := #[{ cls := 6, slots := #[.ref 2, .ref 1, .null], vm := .statics 6 },
  { cls := 6, slots := #[.null, .int 1, .int 1, .null], vm := .none },
  { cls := 6, slots := #[.null, .int 0, .int 0, .null], vm := .none }]
def classes : Array Class := #[k0, k1, k2, k3, k4, k5, k6, k7, k8, k9, k10, k11]
def interned : List (Array UInt16 × Addr) := []
def slotsUsed : Nat := 11
def theMethod : MethodId := ⟨1, 1⟩
def args0 : Array Value := #[.int 5, .int 3, .int 1]
def aboutOver (below : List Frame) : State where
  vm := { classes := classes, interned := interned.toArray }
  heap := heap
  slotsUsed := slotsUsed
  threads := #[{ frames := .invoking theMethod args0 :: below }]
def below0 : List Frame := [.native { method := ⟨0, 0⟩, args := #[] }]
def about1 : State := aboutOver below0
def p0 : Program := .bare "" "" ""
def e0 : Env := launch0.env 0 0 0
theorem w_frames : about1.frames = Frame.invoking theMethod args0 :: below0 := rfl
set_option maxRecDepth 65536 in
theorem w_args : argsFit about1.vm theMethod args0 = true := by decide +kernel
set_option maxRecDepth 65536 in
theorem w_heap : heapFits about1 = true := by decide +kernel
set_option maxRecDepth 65536 in
theorem w_runnable : about1.curStatus? = some .runnable := by decide +kernel
set_option maxRecDepth 65536 in
theorem w_alone : about1.alone = true := by decide +kernel
set_option maxRecDepth 65536 in
theorem w_named : about1.methodNamed? x = some theMethod := by decide +kernel
set_option maxRecDepth 65536 in
theorem w_hears : about1.hears theMethod below0 = true := by decide +kernel
set_option maxRecDepth 65536 in
theorem w_ripe : about1.ripe theMethod args0 below0 = true := by decide +kernel
theorem w_running : about1.status = .running := rfl
set_option maxRecDepth 65536 in
theorem w_room : about1.hasRoom e0.platform room_1 = true :=
  launch0.hasRoom_least _ room_1 (by decide +kernel) (by decide +kernel) (by decide +kernel) (by decide +kernel) (by decide +kernel) (by decide +kernel)
theorem allAtoms_all (ts : List Jvm.Cond) (a : Array Jvm.Value) (st : Jvm.State) : (allAtoms ts).before a st = ts.all (fun c => c.before a st) := by
  induction ts with
  | nil => rfl
  | cons c t ih =>
    show (Jvm.Cond.and c (allAtoms t)).before a st = _
    rw [Jvm.Cond.before_and, ih, List.all_cons]
def words1 : List Jvm.Cond := Jvm.Cond.code x code maxLocals ret :: tables_1
/-- a 'code' word, met by the world's own term for the bytes: nothing is compared byte by byte -/
theorem code_word {y : MethodName} {bytes : ByteArray} {mx : Nat} {rt : Option FieldType} {a : Array Value} {s : State} {m : MethodId} {meth : Method} {c : Code} (h1 : s.methodNamed? y = some m) (h2 : s.vm.method? m = some meth) (h3 : meth.code = some c) (h4 : c.code = bytes)
    (h5 : (c.maxLocals == mx && c.exceptionTable.isEmpty && decide (c.maxStack ≤ mostOperands) && decide (meth.sig.returnType = rt) && !meth.locks && decide (parseMethodDescriptor y.desc = some meth.sig)) = true) : (Jvm.Cond.code y bytes mx rt).before a s = true := by
  simp only [Bool.and_eq_true, beq_iff_eq, Bool.not_eq_true', decide_eq_true_eq] at h5
  obtain ⟨⟨⟨⟨⟨g1, g2⟩, g3⟩, g4⟩, g5⟩, g6⟩ := h5
  simp [Cond.before, Cond.holds, Cond.value, h1, h2, h3, h4, g1, g2, g3, g4, g5, g6]
def isCode : Jvm.Cond → Bool
  | .code _ _ _ _ => true
  | _ => false
theorem all_split {L : List Jvm.Cond} {P : Jvm.Cond → Bool} (h1 : L.all (fun c => isCode c || P c) = true) (h2 : ∀ c ∈ L.filter isCode, P c = true) : L.all P = true := by
  refine List.all_eq_true.mpr fun c hc => ?_
  have h := List.all_eq_true.mp h1 c hc
  rcases Bool.eq_false_or_eq_true (isCode c) with hi | hi
  · exact h2 c (List.mem_filter.mpr ⟨hc, hi⟩)
  · simpa [hi] using h
set_option maxRecDepth 65536 in
theorem w_c0 : (Jvm.Cond.code x code maxLocals ret).before args0 about1 = true := code_word (m := ⟨1, 1⟩) (meth := k1m1) (c := k1c1) (by decide +kernel) rfl rfl rfl (by decide +kernel)
set_option maxRecDepth 65536 in
theorem w_c1 : (Jvm.Cond.code ({ cls := "com/example/parley/parley/Objective", name := "isBetter", desc := "(DD)Z" } : Jvm.MethodName) prog_47_method_6_code (5 : Nat) (Option.some Jvm.ClassFile.FieldType.boolean)).before args0 about1 = true := code_word (m := ⟨6, 0⟩) (meth := k6m0) (c := k6c0) (by decide +kernel) rfl rfl rfl (by decide +kernel)
def codes1 : List Jvm.Cond := [Jvm.Cond.code x code maxLocals ret, Jvm.Cond.code ({ cls := "com/example/parley/parley/Objective", name := "isBetter", desc := "(DD)Z" } : Jvm.MethodName) prog_47_method_6_code (5 : Nat) (Option.some Jvm.ClassFile.FieldType.boolean)]
set_option maxRecDepth 65536 in
theorem codes_eq : words1.filter isCode = codes1 := rfl
theorem w_codes : ∀ c ∈ words1.filter isCode, c.before args0 about1 = true := by
  rw [codes_eq]
  intro c hc
  simp only [codes1, List.mem_cons, List.not_mem_nil, or_false] at hc
  rcases hc with rfl | rfl
  · exact w_c0
  · exact w_c1
set_option maxRecDepth 65536 in
theorem w_t1 : words1.all (fun c => isCode c || c.before args0 about1) = true := by decide +kernel
theorem w_tables : (allAtoms (Jvm.Cond.code x code maxLocals ret :: tables_1)).before args0 about1 = true := by
  rw [allAtoms_all]
  show words1.all (fun c => c.before args0 about1) = true
  refine all_split ?_ w_codes
  rw [w_t1]
set_option maxRecDepth 65536 in
theorem w_case : (Jvm.Cond.and given_1 narrow_1).before args0 about1 = true := by decide +kernel
theorem w_applies : (headSpec (Jvm.Cond.code x code maxLocals ret :: tables_1) room_1).applies x e0.platform about1 = true :=
  (Spec.applies_iff w_frames).mpr ⟨w_running, w_runnable, w_alone, w_named, w_hears, w_ripe, w_room, w_tables⟩
theorem atStart : AtStart classFile x code maxLocals ret World_1 tables_1 room_1 Calls_1 rest_1 Pre_1 launch0 p0 e0 about1 theMethod args0 below0 :=
  ⟨lists_1, trivial, launch0.admits_env _ _ _, launch0.least_env, fairChoices_fair.cas, fairChoices_fair.clock, w_frames, w_args, w_heap, w_applies, trivial, trivial, w_case⟩
end start1
theorem witness_1 : WitnessClaimed_1 := ⟨start1.p0, start1.e0, start1.about1, start1.theMethod, start1.args0, start1.below0, start1.atStart⟩
end Jvm.Pilot.@@N@@
